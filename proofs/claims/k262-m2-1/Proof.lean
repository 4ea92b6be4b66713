import JvmDerived
import JvmDerived.Pilot.@@N@@Statement
import JvmDerived.Pilot.@@N@@Code
set_option linter.unusedVariables false
set_option linter.unusedSimpArgs false
namespace Jvm.Pilot.@@N@@
open Jvm Jvm.ClassFile Sem Op Lib Jvm.Free Jvm.Stand Jvm.LawKit Jvm.RoadKit Bundle Jvm.Pilot.@@N@@.Jvm.D
/-- whatever is reached from v is reached from u -/
abbrev To (tb : Tables) (e : Env) (below : List Frame) (u v : State) : Prop := ∀ t, Steps tb e below v t → Steps tb e below u t
/-- a body's contract: called with as' over the heap h0 it returns, and Q holds of what it returns, of the heap and of the places written -/
abbrev Con (l : Launch) (Z : State) (y : MethodName) (bs : ByteArray) (ml : Nat) (rt : Option FieldType) (ws : List Jvm.Cond) (R : Room) (as' : Array Value) (h0 : Heap) (Q : Option Value → Heap → List Loc → Prop) : Prop :=
  MetFree l y (head1 (Jvm.Cond.code y bs ml rt :: ws) R) (fun a U => a = as' ∧ Z.Warmed39 U.vm ∧ U.heap = h0) (fun _ _ _ _ _ => True) (fun _ U o U' => ∃ v L, o = .returned v ∧ Q v U'.heap L ∧ FrameEnd U o U' L R.cells R.slots)
/-- the walk from S0 has ended well -/
def Fin (p : Program) (e : Env) (below : List Frame) (s : State) (R : Room) (S0 : State) (Q : Option Value → Heap → List Loc → Prop) : Prop :=
  ∃ s₂ o, Steps p.tables e below S0 s₂ ∧ s₂.status = .running ∧ Ended s₂ below o ∧ ∃ v L, o = .returned v ∧ Q v s₂.heap L ∧ FrameEnd s o s₂ L R.cells R.slots
def slotsOf : List Value → List Slot
  | [] => []
  | v :: r => if v.category = 2 then .val v :: .second :: slotsOf r else .val v :: slotsOf r
theorem foldl_slots (L : List Value) : ∀ acc : Array Slot, L.foldl (fun acc v => if v.category = 2 then (acc.push (Slot.val v)).push Slot.second else acc.push (Slot.val v)) acc = acc ++ (slotsOf L).toArray := by
  induction L with
  | nil => intro acc; simp [slotsOf]
  | cons v r ih =>
    intro acc
    rw [List.foldl_cons, ih]
    by_cases h : v.category = 2
    · simp [slotsOf, h]
    · simp [slotsOf, h]
theorem entry_eq {m : MethodId} {L : List Value} {ml : Nat} {Ls : List Slot} (h : slotsOf L ++ List.replicate (ml - (slotsOf L).length) Slot.unset = Ls) : entryFrame m L.toArray ml = mkF m 0 Ls.toArray [] := by
  subst h
  have e : argsToLocals L.toArray ml = (slotsOf L ++ List.replicate (ml - (slotsOf L).length) Slot.unset).toArray := by
    show (L.toArray.foldl (init := #[]) fun acc v => if v.category = 2 then (acc.push (Slot.val v)).push Slot.second else acc.push (Slot.val v)) ++ Array.replicate (ml - (L.toArray.foldl (init := #[]) fun acc v => if v.category = 2 then (acc.push (Slot.val v)).push Slot.second else acc.push (Slot.val v)).size) Slot.unset = _
    rw [List.foldl_toArray, foldl_slots]
    simp
  show ({ method := m, pc := 0, locals := argsToLocals L.toArray ml, stack := [], locked := none } : JFrame) = _
  rw [e]
section Own
variable {p : Program} {l : Launch} {e : Env} {R : Room} {s : State} {m : MethodId} {args : Array Value} {below : List Frame} {meth : Method} {c : Code} {T S0 : State} {locs : List Loc} {cells slots : Nat} {Z : State} {a0 : Array Value} {h : Heap} {Q : Option Value → Heap → List Loc → Prop}
theorem enter {y : MethodName} {bs : ByteArray} {ml : Nat} {rt : Option FieldType} {ws : List Jvm.Cond} {as' : Array Value} {h0 : Heap} {Ls : Array Slot} (hpl : plainFor y = true) (hef : ∀ m, entryFrame m as' ml = mkF m 0 Ls [])
    (body : ∀ (p : Program) (e : Env) (s : State) (m : MethodId) (below : List Frame) (meth : Method) (c : Code) (s₁ S0 : State), p.tables.exec = Jvm.exec → c.code = bs → c.maxLocals = ml → meth.sig.returnType = rt → meth.locks = false → meth.name = y.name →
      s.vm.findClass y.cls = some m.cls → Z.Warmed39 s.vm → Stand p l e R s m as' below meth c s₁ [] 0 0 → s₁.heap = h0 → To p.tables e below S0 (s₁.setTop (mkF m 0 Ls [])) → Fin p e below s R S0 Q) : Con l Z y bs ml rt ws R as' h0 Q := by
  refine MetFree.of_bodySF hpl hisR ?_
  intro p e s m args below meth c s₁ Bd hml0 hP hK
  obtain ⟨rfl, hZ, hh⟩ := hP
  exact body p e s m below meth c s₁ _ Bd.exec Bd.bytes hml0 Bd.returns Bd.notSynchronized (name_of_methodNamed Bd.named Bd.method).1 (findClass_of_methodNamed Bd.named) hZ (Stand.of_body Bd) (by rw [← hh, Bd.state]; rfl) (fun t k => castTop (hef m) k)
theorem retV (X : Stand p l e R s m args below meth c T locs cells slots) (hx : p.tables.exec = Jvm.exec) {pc : Nat} {Ls : Array Slot} {w : Value} {t : FieldType} {i : Instr} {rest : List Value} (hret : meth.sig.returnType = some t) (hlk : meth.locks = false) (hn : narrow t w = w)
    (hi : (i = .ireturn ∧ (t = .int ∨ t = .boolean ∨ t = .byte ∨ t = .char ∨ t = .short) ∧ ∃ z, w = .int z) ∨ (i = .lreturn ∧ t = .long ∧ ∃ z, w = .long z) ∨ (i = .dreturn ∧ t = .double ∧ ∃ z, w = .double z) ∨ (i = .freturn ∧ t = .float ∧ ∃ z, w = .float z) ∨ (i = .areturn ∧ t.isReference = true ∧ w.isRef = true))
    (hd : decode c.code pc = .ok (i, 1)) (k : To p.tables e below S0 (T.setTop (mkF m pc Ls (w :: rest)))) (hQ : Q (some w) T.heap locs) (hc : cells ≤ R.cells) (hs : slots ≤ R.slots) : Fin p e below s R S0 Q := by
  obtain ⟨fs, hr, hrun, hended, hW, hsame⟩ := X.leave (v := some w) (fun h => by rw [hret] at h; cases h) hlk
  exact ⟨_, _, k _ (retOut X hx hret hn hi hd hr), hrun, hended, _, _, rfl, hQ, ⟨_, rfl⟩, hW, hsame.mono hc hs⟩
theorem retInt (X : Stand p l e R s m args below meth c T locs cells slots) (hx : p.tables.exec = Jvm.exec) {pc : Nat} {Ls : Array Slot} {z : Int32} {t : FieldType} {rest : List Value} (hret : meth.sig.returnType = some t) (hlk : meth.locks = false) (ht : t = .int ∨ t = .boolean ∨ t = .byte ∨ t = .char ∨ t = .short) (hn : narrow t (.int z) = .int z)
    (hd : decode c.code pc = .ok (.ireturn, 1)) (k : To p.tables e below S0 (T.setTop (mkF m pc Ls (.int z :: rest)))) (hQ : Q (some (.int z)) T.heap locs) (hc : cells ≤ R.cells) (hs : slots ≤ R.slots) : Fin p e below s R S0 Q :=
  retV X hx hret hlk hn (Or.inl ⟨rfl, ht, z, rfl⟩) hd k hQ hc hs
theorem retRef (X : Stand p l e R s m args below meth c T locs cells slots) (hx : p.tables.exec = Jvm.exec) {pc : Nat} {Ls : Array Slot} {w : Value} {t : FieldType} {rest : List Value} (hret : meth.sig.returnType = some t) (hlk : meth.locks = false) (ht : t.isReference = true) (hw : w.isRef = true)
    (hd : decode c.code pc = .ok (.areturn, 1)) (k : To p.tables e below S0 (T.setTop (mkF m pc Ls (w :: rest)))) (hQ : Q (some w) T.heap locs) (hc : cells ≤ R.cells) (hs : slots ≤ R.slots) : Fin p e below s R S0 Q :=
  retV X hx hret hlk (by rcases ref_cases hw with rfl | ⟨z, rfl⟩ <;> cases t <;> first | rfl | (cases ht; done)) (Or.inr (Or.inr (Or.inr (Or.inr ⟨rfl, ht, hw⟩)))) hd k hQ hc hs
theorem retLong (X : Stand p l e R s m args below meth c T locs cells slots) (hx : p.tables.exec = Jvm.exec) {pc : Nat} {Ls : Array Slot} {z : Int64} {rest : List Value} (hret : meth.sig.returnType = some .long) (hlk : meth.locks = false)
    (hd : decode c.code pc = .ok (.lreturn, 1)) (k : To p.tables e below S0 (T.setTop (mkF m pc Ls (.long z :: rest)))) (hQ : Q (some (.long z)) T.heap locs) (hc : cells ≤ R.cells) (hs : slots ≤ R.slots) : Fin p e below s R S0 Q :=
  retV X hx hret hlk rfl (Or.inr (Or.inl ⟨rfl, rfl, z, rfl⟩)) hd k hQ hc hs
theorem retVoid (X : Stand p l e R s m args below meth c T locs cells slots) (hx : p.tables.exec = Jvm.exec) {pc : Nat} {Ls : Array Slot} (hret : meth.sig.returnType = none) (hlk : meth.locks = false)
    (hd : decode c.code pc = .ok (.return_, 1)) (k : To p.tables e below S0 (T.setTop (mkF m pc Ls []))) (hQ : Q none T.heap locs) (hc : cells ≤ R.cells) (hs : slots ≤ R.slots) : Fin p e below s R S0 Q := by
  obtain ⟨fs, hr, hrun, hended, hW, hsame⟩ := X.leave (v := none) (fun _ => rfl) hlk
  exact ⟨_, _, k _ (X.returnOut hx hret hd hr), hrun, hended, _, _, rfl, hQ, ⟨_, rfl⟩, hW, hsame.mono hc hs⟩
theorem backC {y : MethodName} {bs : ByteArray} {ml : Nat} {rt : Option FieldType} {rm : Room} {len W : Nat} {as' : Array Value} (hM : Con l Z y bs ml rt [] rm as' h Q) (hZ : Z.Warmed39 s.vm) (wc : (Cond.code y bs ml rt).before a0 Z = true) (wz : (Cond.initialized y.cls).before a0 Z = true) (hf : rm.frames + 1 ≤ R.frames) (hl : W + (ml + 11) + rm.locals ≤ R.locals) :
    Back l R p e below s args y len W (fun A a => a = as' ∧ A.U.heap = h ∧ A.cells + rm.cells ≤ R.cells ∧ A.slots + rm.slots ≤ R.slots) (fun A _ v B => ∃ L, Q v B.U.heap L ∧ B.locs = A.locs ++ L ∧ B.cells = A.cells + rm.cells ∧ B.slots = A.slots + rm.slots) :=
  backOf (Q := Q) hM hZ wc wz hf hl
/-! calls by a contract -/
theorem callS' (X : Stand p l e R s m args below meth c T locs cells slots) (hx : p.tables.exec = Jvm.exec) (hZ : Z.Warmed39 s.vm) {own : String} {index : Nat} {y : MethodName} {bs : ByteArray} {ml : Nat} {rt : Option FieldType} {cc ss W : Nat} {as' : Array Value} {Q : Option Value → Heap → List Loc → Prop}
    (hown : s.vm.findClass own = some m.cls) (w1 : (Cond.methodLink own index y).before a0 Z = true) (w2 : (Cond.static y).before a0 Z = true) (w3 : (Cond.initialized y.cls).before a0 Z = true) (w4 : (Cond.code y bs ml rt).before a0 Z = true) (hy : y.cls ≠ "java/lang/invoke/MethodHandle" ∧ y.cls ≠ "java/lang/invoke/VarHandle")
    (hK : Back l R p e below s args y 3 W (fun A a => a = as' ∧ A.U.heap = h ∧ A.cells + cc ≤ R.cells ∧ A.slots + ss ≤ R.slots) (fun A _ v B => ∃ L, Q v B.U.heap L ∧ B.locs = A.locs ++ L ∧ B.cells = A.cells + cc ∧ B.slots = A.slots + ss)) (eT : T.heap = h) {pc : Nat} {Ls : Array Slot} {st argsL rest : List Value} (hst : st = argsL.reverse ++ rest) (has : argsL.toArray = as') {ps : List FieldType} {r : Option FieldType} (hpd : parseMethodDescriptor y.desc = some ⟨ps, r⟩) (hlen : argsL.length = ps.length) (hsize : Ls.size = c.maxLocals)
    (hd : decode c.code pc = .ok (.invokestatic index, 3)) (hW : (rest.map fun v => v.category).sum ≤ W) (hc : cells + cc ≤ R.cells) (hs : slots + ss ≤ R.slots) (k : To p.tables e below S0 (T.setTop (mkF m pc Ls st))) :
    ∃ v T' L, Stand p l e R s m args below meth c T' (locs ++ L) (cells + cc) (slots + ss) ∧ Q v T'.heap L ∧ To p.tables e below S0 (T'.setTop (mkF m (pc + 3) Ls (v.toList ++ rest))) := by
  obtain ⟨v, vm₁, ⟨T', L', k', n'⟩, -, X', ⟨L, hQ, q1, q2, q3⟩, stp⟩ := Jvm.LawKit.callS X hx hown (mvT hZ w1) (mvT hZ w2) (mvT hZ w3) (mvT hZ w4) hy hK (g := mkF m pc Ls st) rfl hsize (argsL := argsL) (rest := rest) (lenOf hpd hlen) hst (by show 2 * 0 + _ ≤ _; omega) hd (fun _ _ => ⟨has, eT, hc, hs⟩)
  dsimp only [Pt.U, Pt.locs, Pt.cells, Pt.slots] at X' q1 q2 q3 stp hQ
  subst q1 q2 q3
  exact ⟨v, T', L, X', hQ, fun t q => k t (stp t q)⟩
theorem callC' (X : Stand p l e R s m args below meth c T locs cells slots) (hx : p.tables.exec = Jvm.exec) (hZ : Z.Warmed39 s.vm) {own : String} {index : Nat} {y : MethodName} {bs : ByteArray} {ml : Nat} {cc ss W : Nat} {as' : Array Value} {Q : Option Value → Heap → List Loc → Prop}
    (hy1 : y.name = "<init>") (hown : s.vm.findClass own = some m.cls) (w1 : (Cond.methodLink own index y).before a0 Z = true) (w2 : (Cond.instanceMethod y).before a0 Z = true) (w4 : (Cond.code y bs ml none).before a0 Z = true) (hy : y.cls ≠ "java/lang/invoke/MethodHandle" ∧ y.cls ≠ "java/lang/invoke/VarHandle")
    (hK : Back l R p e below s args y 3 W (fun A a => a = as' ∧ A.U.heap = h ∧ A.cells + cc ≤ R.cells ∧ A.slots + ss ≤ R.slots) (fun A _ v B => ∃ L, Q v B.U.heap L ∧ B.locs = A.locs ++ L ∧ B.cells = A.cells + cc ∧ B.slots = A.slots + ss)) (eT : T.heap = h) {pc : Nat} {Ls : Array Slot} {a : Addr} {st argsL rest : List Value} (hst : st = argsL.reverse ++ .ref a :: rest) (has : (.ref a :: argsL).toArray = as') {ps : List FieldType} {r : Option FieldType} (hpd : parseMethodDescriptor y.desc = some ⟨ps, r⟩) (hlen : argsL.length = ps.length) (hsize : Ls.size = c.maxLocals)
    (hd : decode c.code pc = .ok (.invokespecial index, 3)) (hW : (rest.map fun v => v.category).sum ≤ W) (hc : cells + cc ≤ R.cells) (hs : slots + ss ≤ R.slots) (k : To p.tables e below S0 (T.setTop (mkF m pc Ls st))) :
    ∃ v T' L, Stand p l e R s m args below meth c T' (locs ++ L) (cells + cc) (slots + ss) ∧ Q v T'.heap L ∧ To p.tables e below S0 (T'.setTop (mkF m (pc + 3) Ls (v.toList ++ rest))) := by
  obtain ⟨v, vm₁, ⟨T', L', k', n'⟩, -, X', ⟨L, hQ, q1, q2, q3⟩, stp⟩ := X.specialBack hx hy1 hown (mvT hZ w1) (mvT hZ w2) (mvT hZ w4) hy hK (g := mkF m pc Ls st) rfl hsize (Steps.refl _) (a := a) (argsL := argsL) (rest := rest) (lenOf hpd hlen) hst (by show 2 * 0 + _ ≤ _; omega) hd (fun _ _ => ⟨has, eT, hc, hs⟩)
  dsimp only [Pt.U, Pt.locs, Pt.cells, Pt.slots] at X' q1 q2 q3 stp hQ
  subst q1 q2 q3
  exact ⟨v, T', L, X', hQ, fun t q => k t (stp.trans q)⟩
theorem callV' (X : Stand p l e R s m args below meth c T locs cells slots) (hx : p.tables.exec = Jvm.exec) (hZ : Z.Warmed39 s.vm) {own C : String} {index : Nat} {y z : MethodName} {cc ss W : Nat} {as' : Array Value} {Q : Option Value → Heap → List Loc → Prop}
    (hown : s.vm.findClass own = some m.cls) (w1 : (Cond.methodLink own index y).before a0 Z = true) (w2 : (Cond.declares y).before a0 Z = true) (hnf : NotFace s y) (w5 : (Cond.selects C y z).before a0 Z = true) (w6 : (Cond.instanceMethod z).before a0 Z = true)
    (hy : y.cls ≠ "java/lang/invoke/MethodHandle" ∧ y.cls ≠ "java/lang/invoke/VarHandle") {b : Addr} (E : Exa Z h b C)
    (hK : Back l R p e below s args z 3 W (fun A a => a = as' ∧ A.U.heap = h ∧ A.cells + cc ≤ R.cells ∧ A.slots + ss ≤ R.slots) (fun A _ v B => ∃ L, Q v B.U.heap L ∧ B.locs = A.locs ++ L ∧ B.cells = A.cells + cc ∧ B.slots = A.slots + ss)) (eT : T.heap = h) {pc : Nat} {Ls : Array Slot} {st argsL rest : List Value} (hst : st = argsL.reverse ++ .ref b :: rest) (has : (.ref b :: argsL).toArray = as') {ps : List FieldType} {r : Option FieldType} (hpd : parseMethodDescriptor y.desc = some ⟨ps, r⟩) (hlen : argsL.length = ps.length) (hsize : Ls.size = c.maxLocals)
    (hd : decode c.code pc = .ok (.invokevirtual index, 3)) (hW : (rest.map fun v => v.category).sum ≤ W) (hc : cells + cc ≤ R.cells) (hs : slots + ss ≤ R.slots) (k : To p.tables e below S0 (T.setTop (mkF m pc Ls st))) :
    ∃ v T' L, Stand p l e R s m args below meth c T' (locs ++ L) (cells + cc) (slots + ss) ∧ Q v T'.heap L ∧ To p.tables e below S0 (T'.setTop (mkF m (pc + 3) Ls (v.toList ++ rest))) := by
  obtain ⟨cq, kq, qa, qb, qc⟩ := isOf hZ eT E
  obtain ⟨v, vm₁, ⟨T', L', k', n'⟩, -, X', ⟨L, hQ, q1, q2, q3⟩, stp⟩ := X.virtualBack hx hown (mvT hZ w1) (mvT hZ w2) hnf (mvT hZ w5) (mvT hZ w6) hy hK qa qc (g := mkF m pc Ls st) rfl hsize (Steps.refl _) (argsL := argsL) (rest := rest) (lenOf hpd hlen) hst (by show 2 * 0 + _ ≤ _; omega) hd (fun _ _ => ⟨has, eT, hc, hs⟩)
  dsimp only [Pt.U, Pt.locs, Pt.cells, Pt.slots] at X' q1 q2 q3 stp hQ
  subst q1 q2 q3
  exact ⟨v, T', L, X', hQ, fun t q => k t (stp.trans q)⟩
theorem callU' (X : Stand p l e R s m args below meth c T locs cells slots) (hx : p.tables.exec = Jvm.exec) (hZ : Z.Warmed39 s.vm) {own C owner : String} {index : Nat} {y z : MethodName} {cc ss W : Nat} {as' : Array Value} {Q : Option Value → Heap → List Loc → Prop}
    (hown : s.vm.findClass own = some m.cls) (w1 : (Cond.methodLink own index y).before a0 Z = true) (w7 : (Cond.sameMethod y.cls owner y.name y.desc).before a0 Z = true) (w2 : (Cond.declares ⟨owner, y.name, y.desc⟩).before a0 Z = true) (w5 : (Cond.selects C y z).before a0 Z = true) (w6 : (Cond.instanceMethod z).before a0 Z = true)
    (hy : owner ≠ "java/lang/invoke/MethodHandle" ∧ owner ≠ "java/lang/invoke/VarHandle") {b : Addr} (E : Exa Z h b C)
    (hK : Back l R p e below s args z 3 W (fun A a => a = as' ∧ A.U.heap = h ∧ A.cells + cc ≤ R.cells ∧ A.slots + ss ≤ R.slots) (fun A _ v B => ∃ L, Q v B.U.heap L ∧ B.locs = A.locs ++ L ∧ B.cells = A.cells + cc ∧ B.slots = A.slots + ss)) (eT : T.heap = h) {pc : Nat} {Ls : Array Slot} {st argsL rest : List Value} (hst : st = argsL.reverse ++ .ref b :: rest) (has : (.ref b :: argsL).toArray = as') {ps : List FieldType} {r : Option FieldType} (hpd : parseMethodDescriptor y.desc = some ⟨ps, r⟩) (hlen : argsL.length = ps.length) (hsize : Ls.size = c.maxLocals)
    (hd : decode c.code pc = .ok (.invokevirtual index, 3)) (hW : (rest.map fun v => v.category).sum ≤ W) (hc : cells + cc ≤ R.cells) (hs : slots + ss ≤ R.slots) (k : To p.tables e below S0 (T.setTop (mkF m pc Ls st))) :
    ∃ v T' L, Stand p l e R s m args below meth c T' (locs ++ L) (cells + cc) (slots + ss) ∧ Q v T'.heap L ∧ To p.tables e below S0 (T'.setTop (mkF m (pc + 3) Ls (v.toList ++ rest))) := by
  obtain ⟨cq, kq, qa, qb, qc⟩ := isOf hZ eT E
  obtain ⟨v, vm₁, ⟨T', L', k', n'⟩, -, X', ⟨L, hQ, q1, q2, q3⟩, stp⟩ := X.virtualBackUp hx hown (mvT hZ w1) (mvT hZ w7) (mvT hZ w2) hy (mvT hZ w5) (mvT hZ w6) hK qa qc (g := mkF m pc Ls st) rfl hsize (Steps.refl _) (argsL := argsL) (rest := rest) (lenOf hpd hlen) hst (by show 2 * 0 + _ ≤ _; omega) hd (fun _ _ => ⟨has, eT, hc, hs⟩)
  dsimp only [Pt.U, Pt.locs, Pt.cells, Pt.slots] at X' q1 q2 q3 stp hQ
  subst q1 q2 q3
  exact ⟨v, T', L, X', hQ, fun t q => k t (stp.trans q)⟩
theorem callI' (X : Stand p l e R s m args below meth c T locs cells slots) (hx : p.tables.exec = Jvm.exec) (hZ : Z.Warmed39 s.vm) {own C : String} {index count : Nat} {y z : MethodName} {cc ss W : Nat} {as' : Array Value} {Q : Option Value → Heap → List Loc → Prop}
    (hown : s.vm.findClass own = some m.cls) (w1 : (Cond.methodLink own index y).before a0 Z = true) (w2 : (Cond.declares y).before a0 Z = true) (w7 : (Cond.interfaceMethod y.cls y.cls y.name y.desc).before a0 Z = true) (hd7 : ((Cond.interfaceMethod y.cls y.cls y.name y.desc).onTables && (Cond.interfaceMethod y.cls y.cls y.name y.desc).keepsFace) = true) (w5 : (Cond.selects C y z).before a0 Z = true) (w6 : (Cond.instanceMethod z).before a0 Z = true) (w8 : (Cond.publicMethod z).before a0 Z = true) (w9 : (Cond.unhidden C y.name y.desc).before a0 Z = true) (w10 : (Cond.castable C y.cls).before a0 Z = true)
    (hy : y.cls ≠ "java/lang/invoke/MethodHandle" ∧ y.cls ≠ "java/lang/invoke/VarHandle") {b : Addr} (E : Exa Z h b C)
    (hK : Back l R p e below s args z 5 W (fun A a => a = as' ∧ A.U.heap = h ∧ A.cells + cc ≤ R.cells ∧ A.slots + ss ≤ R.slots) (fun A _ v B => ∃ L, Q v B.U.heap L ∧ B.locs = A.locs ++ L ∧ B.cells = A.cells + cc ∧ B.slots = A.slots + ss)) (eT : T.heap = h) {pc : Nat} {Ls : Array Slot} {st argsL rest : List Value} (hst : st = argsL.reverse ++ .ref b :: rest) (has : (.ref b :: argsL).toArray = as') {ps : List FieldType} {r : Option FieldType} (hpd : parseMethodDescriptor y.desc = some ⟨ps, r⟩) (hlen : argsL.length = ps.length) (hsize : Ls.size = c.maxLocals)
    (hd : decode c.code pc = .ok (.invokeinterface index count, 5)) (hW : (rest.map fun v => v.category).sum ≤ W) (hc : cells + cc ≤ R.cells) (hs : slots + ss ≤ R.slots) (k : To p.tables e below S0 (T.setTop (mkF m pc Ls st))) :
    ∃ v T' L, Stand p l e R s m args below meth c T' (locs ++ L) (cells + cc) (slots + ss) ∧ Q v T'.heap L ∧ To p.tables e below S0 (T'.setTop (mkF m (pc + 5) Ls (v.toList ++ rest))) := by
  obtain ⟨cq, kq, qa, qb, qc⟩ := isOf hZ eT E
  obtain ⟨v, vm₁, ⟨T', L', k', n'⟩, -, X', ⟨L, hQ, q1, q2, q3⟩, stp⟩ := X.interfaceBack hx hown (mvT hZ w1) (mvT hZ w2) (mvT hZ w7 hd7) (mvT hZ w5) (mvT hZ w6) (mvT hZ w8) (mvT hZ w9) (mvT hZ w10) hy hK qa qb qc (g := mkF m pc Ls st) rfl hsize (Steps.refl _) (argsL := argsL) (rest := rest) (lenOf hpd hlen) hst (by show 2 * 0 + _ ≤ _; omega) hd (fun _ _ => ⟨has, eT, hc, hs⟩)
  dsimp only [Pt.U, Pt.locs, Pt.cells, Pt.slots] at X' q1 q2 q3 stp hQ
  subst q1 q2 q3
  exact ⟨v, T', L, X', hQ, fun t q => k t (stp.trans q)⟩
theorem staOld {n0 : Nat} {C n d : String} {v : Value} (F : Sta Z Z.heap C n d v) (O : Old Z n0 h) : Sta Z h C n d v := F.ext O.2
theorem exaOld {n0 : Nat} {C : String} {a : Addr} (F : Exa Z Z.heap a C) (O : Old Z n0 h) : Exa Z h a C := F.ext O.2
theorem fldOld {n0 : Nat} {C n d : String} {a : Addr} {v : Value} (F : Fld Z Z.heap a C n d v) (O : Old Z n0 h) : Fld Z h a C n d v := F.ext O.2
theorem joinT (X : Stand p l e R s m args below meth c T locs cells slots) (eT : T.heap = h) (F : JFrame) {G : Prop} (br : (∀ T', Stand p l e R s m args below meth c T' locs cells slots → T'.heap = h → To p.tables e below S0 (T'.setTop F) → G) → G)
    (rest : ∀ T', Stand p l e R s m args below meth c T' locs cells slots → T'.heap = h → To p.tables e below S0 (T'.setTop F) → G) : G := br rest
theorem own_m255 (c : Int32) : ¬ (c &&& 255) < (0 : Int32) ∧ ¬ (255 : Int32) < (c &&& 255) := by
  have h : (c &&& 255).toBitVec.toNat ≤ 255 := by
    rw [Int32.toBitVec_and, BitVec.toNat_and]; exact Nat.and_le_right
  have h2 : (c &&& 255).toInt = ((c &&& 255).toBitVec.toNat : Int) := by
    show (c &&& 255).toBitVec.toInt = _
    rw [BitVec.toInt_eq_toNat_of_lt (by omega)]
  rw [Int32.lt_iff_toInt_lt, Int32.lt_iff_toInt_lt, h2, show (0 : Int32).toInt = 0 from rfl, show (255 : Int32).toInt = 255 by decide]
  omega
theorem own_and255_of {v : Int32} (h : ¬ v < (0 : Int32) ∧ ¬ (255 : Int32) < v) : v &&& 255 = v := by
  rw [Int32.lt_iff_toInt_lt, Int32.lt_iff_toInt_lt, show (0 : Int32).toInt = 0 from rfl, show (255 : Int32).toInt = 255 by decide] at h
  have e : v.toInt = (v.toBitVec.toNat : Int) := by
    show v.toBitVec.toInt = _
    have h1 : ¬ v.toBitVec.toInt < 0 := h.1
    rw [BitVec.toInt_eq_toNat_cond] at h1 ⊢
    split <;> rename_i q
    · rfl
    · rw [if_neg q] at h1; have := v.toBitVec.isLt; omega
  apply Int32.toBitVec_inj.mp
  apply BitVec.eq_of_toNat_eq
  rw [Int32.toBitVec_and, BitVec.toNat_and, show (255 : Int32).toBitVec.toNat = 2 ^ 8 - 1 from rfl, Nat.and_two_pow_sub_one_eq_mod]
  omega
theorem own_narc {v : Int32} (h : ¬ v < (0 : Int32) ∧ ¬ (255 : Int32) < v) : nar .char v = v := by
  have e := own_and255_of h
  rw [← e]; exact i2c_mask v
theorem own_fitc {v : Int32} (h : ¬ v < (0 : Int32) ∧ ¬ (255 : Int32) < v) : fits .char (.int v) = true := by
  have q := fits_nar_char v; rw [own_narc h] at q; exact q
theorem own_b255 {v : Int32} (h : ¬ v < (0 : Int32) ∧ ¬ (255 : Int32) < v) : (nar .byte (v.toInt8.toInt32)) &&& (255 : Int32) = v := by
  refine Eq.trans ?_ (own_and255_of h)
  have e : (v.toInt8.toInt32).toInt8 = v.toInt8 := by
    apply Int8.toBitVec_inj.mp; rw [Int32.toBitVec_toInt8, Int8.toBitVec_toInt32, BitVec.signExtend_eq_setWidth_of_le _ (by omega)]
    apply BitVec.eq_of_toNat_eq
    rw [BitVec.toNat_setWidth, BitVec.toNat_signExtend]
    have := v.toInt8.toBitVec.isLt
    simp only [BitVec.toNat_setWidth]
    split <;> omega
  show (v.toInt8.toInt32).toInt8.toInt32 &&& 255 = v &&& 255
  rw [e]
  apply Int32.toBitVec_inj.mp
  apply BitVec.eq_of_toNat_eq
  rw [Int32.toBitVec_and, Int32.toBitVec_and, BitVec.toNat_and, BitVec.toNat_and, show (255 : Int32).toBitVec.toNat = 2 ^ 8 - 1 from rfl, Nat.and_two_pow_sub_one_eq_mod, Nat.and_two_pow_sub_one_eq_mod, Int8.toBitVec_toInt32, Int32.toBitVec_toInt8, BitVec.toNat_signExtend]
  have h1 := v.toBitVec.isLt
  simp only [BitVec.toNat_setWidth, BitVec.toNat_signExtend]
  split <;> split <;> omega
theorem own_narrowc (x : Int32) : narrow .char (.int (x &&& 255)) = .int (x &&& 255) := congrArg Value.int (own_narc (own_m255 x))
theorem nin1 {x y : Addr} (h : ¬ (@Eq Nat x y)) : x ∉ [y] := ninS h nin0
theorem wq {Z : State} {a0 : Array Value} {ts : List Jvm.Cond} (hw : ∀ d ∈ ts, d.before a0 Z = true) (i : Nat) {d : Jvm.Cond} (q : ts[i]? = some d) : d.before a0 Z = true := hw _ (List.mem_of_getElem? q)
theorem adr_lt {a b : Nat} (h : @LT.lt Nat instLTNat a b) : a < b := h
theorem adr_ne {a b : Nat} (h : ¬ a = b) : a ≠ b := h
theorem own_nz {s : State} {args : Array Value} {t : Term} {z : Int32} (e : t.eval args s none [] s = some (.int z)) (h : (Jvm.Cond.not (.eq t (.int 0))).value args s none s [] = some true) : ¬ z = (0 : Int32) := fun q => by
  subst q; have h2 := not_v h; simp [Cond.value, e, Term.eval] at h2
theorem fits_isref {C : String} {w : Value} (h : w.isRef = true) : fits (.object C) w = true := by rcases ref_cases h with rfl | ⟨z, rfl⟩ <;> rfl
theorem narrow_ref {t : FieldType} {w : Value} (h : w.isRef = true) : narrow t w = w := by rcases ref_cases h with rfl | ⟨z, rfl⟩ <;> cases t <;> rfl
end Own
/-! the wide family: walks that load String constants -/
section Wide
variable {p : Program} {l : Launch} {e : Env} {R : Room} {s : State} {m : MethodId} {args : Array Value} {below : List Frame} {meth : Method} {c : Code} {T S0 : State} {locs : List Loc} {cells slots : Nat} {Z : State} {a0 : Array Value} {h h0 : Heap} {Q : Option Value → Heap → List Loc → Prop} {EL : List (String × Nat)} {vm vm0 : Vm} {sf : List Addr} {n : Nat}
abbrev ConW (l : Launch) (Z : State) (EL : List (String × Nat)) (y : MethodName) (bs : ByteArray) (ml : Nat) (rt : Option FieldType) (ws : List Jvm.Cond) (R : Room) (as' : Array Value) (h0 : Heap) (sf : List Addr) (Q : Option Value → Heap → List Loc → Prop) : Prop :=
  MetFree l y (head1 (Jvm.Cond.code y bs ml rt :: ws) R) (fun a U => a = as' ∧ Z.Warmed39 U.vm ∧ U.heap = h0 ∧ CHv Z EL U.vm h0 ∧ ∀ x ∈ sf, Safe Z EL U.vm h0 x) (fun _ _ _ _ _ => True)
    (fun _ U o U' => ∃ v L, o = .returned v ∧ Q v U'.heap L ∧ CHr Z EL U.vm U.heap U'.vm U'.heap ∧ ReturnedEndW U o U' L R.cells R.slots)
def FinW (p : Program) (e : Env) (below : List Frame) (s : State) (R : Room) (S0 : State) (Z : State) (EL : List (String × Nat)) (vm0 : Vm) (h0 : Heap) (Q : Option Value → Heap → List Loc → Prop) : Prop :=
  ∃ s₂ o, Steps p.tables e below S0 s₂ ∧ s₂.status = .running ∧ Ended s₂ below o ∧ ∃ v L, o = .returned v ∧ Q v s₂.heap L ∧ CHr Z EL vm0 h0 s₂.vm s₂.heap ∧ ReturnedEndW s o s₂ L R.cells R.slots
theorem enterW {y : MethodName} {bs : ByteArray} {ml : Nat} {rt : Option FieldType} {ws : List Jvm.Cond} {as' : Array Value} {Ls : Array Slot} (hpl : plainFor y = true) (hef : ∀ m, entryFrame m as' ml = mkF m 0 Ls [])
    (body : ∀ (p : Program) (e : Env) (s : State) (m : MethodId) (below : List Frame) (meth : Method) (c : Code) (s₁ S0 : State) (vm0 : Vm), p.tables.exec = Jvm.exec → c.code = bs → c.maxLocals = ml → meth.sig.returnType = rt → meth.locks = false → meth.name = y.name →
      vm0.findClass y.cls = some m.cls → Z.Warmed39 vm0 → Stand p l e R (s.setVm vm0) m as' below meth c s₁ [] 0 0 → s₁.heap = h0 → To p.tables e below S0 (s₁.setTop (mkF m 0 Ls [])) → CHr Z EL vm0 h0 vm0 h0 → (∀ x ∈ sf, Safe Z EL vm0 h0 x) → s.Since vm0 h0.size → FinW p e below s R S0 Z EL vm0 h0 Q) : ConW l Z EL y bs ml rt ws R as' h0 sf Q := by
  refine MetFree.of_bodySF hpl hisR ?_
  intro p e s m args below meth c s₁ Bd hml0 hP hK
  obtain ⟨rfl, hZ, hh, hC, hsf⟩ := hP
  subst hh
  exact body p e s m below meth c s₁ _ s.vm Bd.exec Bd.bytes hml0 Bd.returns Bd.notSynchronized (name_of_methodNamed Bd.named Bd.method).1 (findClass_of_methodNamed Bd.named) hZ (show Stand p l e R s m _ below meth c s₁ [] 0 0 from Stand.of_body Bd) (by rw [Bd.state]; rfl) (fun t k => castTop (hef m) k) (CHr.refl hC) hsf ((State.WarmedH.refl s).since _)
theorem endW_mono {s t : State} {o : Outcome} {L : List Loc} {k n k' n' : Nat} (h : ReturnedEndW s o t L k n) (hk : k ≤ k') (hn : n ≤ n') : ReturnedEndW s o t L k' n' := ⟨h.1, h.2.1, h.2.2.1, h.2.2.2.mono hk hn⟩
theorem retVW (X : Stand p l e R (s.setVm vm) m args below meth c T locs cells slots) (hx : p.tables.exec = Jvm.exec) (hZ : Z.Warmed39 vm) (hEL : EW Z a0 EL) (hS : s.Since vm n) (hn0 : n ≤ h.size) (C : CHr Z EL vm0 h0 vm h) (eT : T.heap = h) {pc : Nat} {Ls : Array Slot} {w : Value} {t : FieldType} {i : Instr} {rest : List Value} (hret : meth.sig.returnType = some t) (hlk : meth.locks = false) (hn : narrow t w = w)
    (hi : (i = .ireturn ∧ (t = .int ∨ t = .boolean ∨ t = .byte ∨ t = .char ∨ t = .short) ∧ ∃ z, w = .int z) ∨ (i = .lreturn ∧ t = .long ∧ ∃ z, w = .long z) ∨ (i = .dreturn ∧ t = .double ∧ ∃ z, w = .double z) ∨ (i = .freturn ∧ t = .float ∧ ∃ z, w = .float z) ∨ (i = .areturn ∧ t.isReference = true ∧ w.isRef = true))
    (hd : decode c.code pc = .ok (i, 1)) (k : To p.tables e below S0 (T.setTop (mkF m pc Ls (w :: rest)))) (hQ : Q (some w) h locs) (hc : cells ≤ R.cells) (hs : slots ≤ R.slots) : FinW p e below s R S0 Z EL vm0 h0 Q := by
  subst eT
  obtain ⟨fs, hr, hrun, hended, hend⟩ := leaveW X hS hn0 (v := some w) (fun h => by rw [hret] at h; cases h) hlk
  have A := C.trans (CHv.at X hZ hEL C.1)
  exact ⟨_, _, k _ (retOut X hx hret hn hi hd hr), hrun, hended, _, _, rfl, hQ, A, endW_mono hend hc hs⟩
theorem retIntW (X : Stand p l e R (s.setVm vm) m args below meth c T locs cells slots) (hx : p.tables.exec = Jvm.exec) (hZ : Z.Warmed39 vm) (hEL : EW Z a0 EL) (hS : s.Since vm n) (hn0 : n ≤ h.size) (C : CHr Z EL vm0 h0 vm h) (eT : T.heap = h) {pc : Nat} {Ls : Array Slot} {z : Int32} {t : FieldType} {rest : List Value} (hret : meth.sig.returnType = some t) (hlk : meth.locks = false) (ht : t = .int ∨ t = .boolean ∨ t = .byte ∨ t = .char ∨ t = .short) (hn : narrow t (.int z) = .int z)
    (hd : decode c.code pc = .ok (.ireturn, 1)) (k : To p.tables e below S0 (T.setTop (mkF m pc Ls (.int z :: rest)))) (hQ : Q (some (.int z)) h locs) (hc : cells ≤ R.cells) (hs : slots ≤ R.slots) : FinW p e below s R S0 Z EL vm0 h0 Q :=
  retVW X hx hZ hEL hS hn0 C eT hret hlk hn (Or.inl ⟨rfl, ht, z, rfl⟩) hd k hQ hc hs
theorem retRefW (X : Stand p l e R (s.setVm vm) m args below meth c T locs cells slots) (hx : p.tables.exec = Jvm.exec) (hZ : Z.Warmed39 vm) (hEL : EW Z a0 EL) (hS : s.Since vm n) (hn0 : n ≤ h.size) (C : CHr Z EL vm0 h0 vm h) (eT : T.heap = h) {pc : Nat} {Ls : Array Slot} {w : Value} {t : FieldType} {rest : List Value} (hret : meth.sig.returnType = some t) (hlk : meth.locks = false) (ht : t.isReference = true) (hw : w.isRef = true)
    (hd : decode c.code pc = .ok (.areturn, 1)) (k : To p.tables e below S0 (T.setTop (mkF m pc Ls (w :: rest)))) (hQ : Q (some w) h locs) (hc : cells ≤ R.cells) (hs : slots ≤ R.slots) : FinW p e below s R S0 Z EL vm0 h0 Q :=
  retVW X hx hZ hEL hS hn0 C eT hret hlk (narrow_ref hw) (Or.inr (Or.inr (Or.inr (Or.inr ⟨rfl, ht, hw⟩)))) hd k hQ hc hs
theorem retVoidW (X : Stand p l e R (s.setVm vm) m args below meth c T locs cells slots) (hx : p.tables.exec = Jvm.exec) (hZ : Z.Warmed39 vm) (hEL : EW Z a0 EL) (hS : s.Since vm n) (hn0 : n ≤ h.size) (C : CHr Z EL vm0 h0 vm h) (eT : T.heap = h) {pc : Nat} {Ls : Array Slot} (hret : meth.sig.returnType = none) (hlk : meth.locks = false)
    (hd : decode c.code pc = .ok (.return_, 1)) (k : To p.tables e below S0 (T.setTop (mkF m pc Ls []))) (hQ : Q none h locs) (hc : cells ≤ R.cells) (hs : slots ≤ R.slots) : FinW p e below s R S0 Z EL vm0 h0 Q := by
  subst eT
  obtain ⟨fs, hr, hrun, hended, hend⟩ := leaveW X hS hn0 (v := none) (fun _ => rfl) hlk
  have A := C.trans (CHv.at X hZ hEL C.1)
  exact ⟨_, _, k _ (X.returnOut hx hret hd hr), hrun, hended, _, _, rfl, hQ, A, endW_mono hend hc hs⟩
theorem backOfW {y : MethodName} {bs : ByteArray} {ml : Nat} {rt : Option FieldType} {rm : Room} {len W : Nat} {as' : Array Value} (hM : ConW l Z EL y bs ml rt [] rm as' h sf Q) (hZ : Z.Warmed39 vm) (wc : (Cond.code y bs ml rt).before a0 Z = true) (wz : (Cond.initialized y.cls).before a0 Z = true)
    (hf : rm.frames + 1 ≤ R.frames) (hl : W + (ml + 11) + rm.locals ≤ R.locals) (hEL : EW Z a0 EL) (H : CHv Z EL vm h) (hsf : ∀ x ∈ sf, x < h.size ∧ Safe Z EL vm h x) :
    BackS l R p e below (s.setVm vm) args y len W (fun A a => a = as' ∧ A.U.heap = h ∧ A.cells + rm.cells ≤ R.cells ∧ A.slots + rm.slots ≤ R.slots)
      (fun A _ v B => ∃ L, Q v B.U.heap L ∧ B.locs = A.locs ++ L ∧ B.cells = A.cells + rm.cells ∧ B.slots = A.slots + rm.slots ∧ CHr Z EL vm h B.U.vm B.U.heap) :=
  BackS.of_freeW (bytes := bs) (maxL := ml) (ret := rt) (E := fun _ first o t L k n => k = rm.cells ∧ n = rm.slots ∧ (∃ v, o = .returned v ∧ Q v t.heap L) ∧ CHr Z EL first.vm first.heap t.vm t.heap) hM hf hl
    (fun m meth c A a Y hp => have hU : Z.Warmed39 A.U.vm := wtrans (s := s.setVm vm) hZ Y.warmed
      ⟨by show (Cond.and _ .tt).before a A.U = true; rw [Cond.before_and, mv hU wc]; rfl, mv hU wc, mv hU wz, hp.2.2.1, hp.2.2.2⟩)
    (fun m meth c A a g mk Y hp => ⟨hp.1, wtrans (s := s.setVm vm) hZ Y.warmed, hp.2.1, (CHv.at Y hZ hEL H).1, fun x hx => (CHv.at Y hZ hEL H).safe (hsf x hx).1 (hsf x hx).2⟩) (fun _ _ _ _ _ _ _ _ _ => trivial)
    (fun _ _ _ _ ⟨v, L, h1, h2, h3, h4⟩ => ⟨L, _, _, h4, rfl, rfl, ⟨v, h1, h2⟩, h3⟩)
    (fun m meth c A a g mk v t L k n Y hp _ _ ⟨e1, e2, ⟨v', e3, e4⟩, e5⟩ => by
      cases e3; subst e1 e2
      refine ⟨L, e4, rfl, rfl, rfl, (CHv.at Y hZ hEL H).trans ?_⟩
      rw [← hp.2.1]; exact e5)
/-- what lies behind a call that may intern -/
abbrev BehW (p : Program) (l : Launch) (e : Env) (R : Room) (s : State) (m : MethodId) (args : Array Value) (below : List Frame) (meth : Method) (c : Code) (Z : State) (EL : List (String × Nat)) (vm : Vm) (h : Heap) (locs : List Loc) (cells slots cc ss : Nat) (own : String) (Q : Option Value → Heap → List Loc → Prop) (S0 : State) (pc : Nat) (Ls : Array Slot) (rest : List Value) : Prop :=
  ∃ v T' L, Stand p l e R (s.setVm T'.vm) m args below meth c T' (locs ++ L) (cells + cc) (slots + ss) ∧ Q v T'.heap L ∧ To p.tables e below S0 (T'.setTop (mkF m pc Ls (v.toList ++ rest))) ∧ CHr Z EL vm h T'.vm T'.heap ∧ s.Since T'.vm T'.heap.size ∧ Z.Warmed39 T'.vm ∧ T'.vm.findClass own = some m.cls
theorem behW {own : String} {cc ss : Nat} {pc : Nat} {Ls : Array Slot} {rest : List Value} {v : Option Value} {T' : State} {L : List Loc} (hZ : Z.Warmed39 vm) (hown : vm.findClass own = some m.cls) (hS : s.Since vm n) (hn : n ≤ h.size) (X' : Stand p l e R ((s.setVm vm).setVm T'.vm) m args below meth c T' (locs ++ L) (cells + cc) (slots + ss)) (hS' : (s.setVm vm).Since T'.vm T'.heap.size) (hg : h.size ≤ T'.heap.size)
    (hQ : Q v T'.heap L) (hC : CHr Z EL vm h T'.vm T'.heap) (k : To p.tables e below S0 (T'.setTop (mkF m pc Ls (v.toList ++ rest)))) : BehW p l e R s m args below meth c Z EL vm h locs cells slots cc ss own Q S0 pc Ls rest :=
  ⟨v, T', L, X', hQ, k, hC, hS.trans hS' (Nat.le_trans hn hg), State.Warmed39.trans (t := s.setVm vm) hZ hS'.1, by rw [hS'.1.alike.findClass]; exact hown⟩
theorem callSW (X : Stand p l e R (s.setVm vm) m args below meth c T locs cells slots) (hx : p.tables.exec = Jvm.exec) (hZ : Z.Warmed39 vm) {own : String} {index : Nat} {y : MethodName} {bs : ByteArray} {ml : Nat} {rt : Option FieldType} {cc ss W : Nat} {as' : Array Value}
    (hown : vm.findClass own = some m.cls) (hS : s.Since vm n) (hn : n ≤ h.size) (w1 : (Cond.methodLink own index y).before a0 Z = true) (w2 : (Cond.static y).before a0 Z = true) (w3 : (Cond.initialized y.cls).before a0 Z = true) (w4 : (Cond.code y bs ml rt).before a0 Z = true) (hy : y.cls ≠ "java/lang/invoke/MethodHandle" ∧ y.cls ≠ "java/lang/invoke/VarHandle")
    (hK : BackS l R p e below (s.setVm vm) args y 3 W (fun A a => a = as' ∧ A.U.heap = h ∧ A.cells + cc ≤ R.cells ∧ A.slots + ss ≤ R.slots) (fun A _ v B => ∃ L, Q v B.U.heap L ∧ B.locs = A.locs ++ L ∧ B.cells = A.cells + cc ∧ B.slots = A.slots + ss ∧ CHr Z EL vm h B.U.vm B.U.heap)) (eT : T.heap = h) {pc : Nat} {Ls : Array Slot} {st argsL rest : List Value} (hst : st = argsL.reverse ++ rest) (has : argsL.toArray = as') {ps : List FieldType} {r : Option FieldType} (hpd : parseMethodDescriptor y.desc = some ⟨ps, r⟩) (hlen : argsL.length = ps.length) (hsize : Ls.size = c.maxLocals)
    (hd : decode c.code pc = .ok (.invokestatic index, 3)) (hW : (rest.map fun v => v.category).sum ≤ W) (hc : cells + cc ≤ R.cells) (hs : slots + ss ≤ R.slots) (k : To p.tables e below S0 (T.setTop (mkF m pc Ls st))) :
    BehW p l e R s m args below meth c Z EL vm h locs cells slots cc ss own Q S0 (pc + 3) Ls rest := by
  obtain ⟨v, vm₁, ⟨T', L', k', n'⟩, -, X', hS', hg, ⟨L, hQ, q1, q2, q3, hC⟩, stp⟩ := callSS X hx hown (mvT (s := s.setVm vm) hZ w1) (mvT (s := s.setVm vm) hZ w2) (mvT (s := s.setVm vm) hZ w3) (mvT (s := s.setVm vm) hZ w4) hy hK (g := mkF m pc Ls st) rfl hsize (argsL := argsL) (rest := rest) (lenOf hpd hlen) hst (by show 2 * 0 + _ ≤ _; omega) hd (fun _ _ => ⟨has, eT, hc, hs⟩)
  dsimp only [Pt.U, Pt.locs, Pt.cells, Pt.slots] at X' q1 q2 q3 stp hQ hS' hg hC
  subst q1 q2 q3
  exact behW hZ hown hS hn X' hS' (eT ▸ hg) hQ hC fun t q => k t (stp.trans q)
theorem callCW (X : Stand p l e R (s.setVm vm) m args below meth c T locs cells slots) (hx : p.tables.exec = Jvm.exec) (hZ : Z.Warmed39 vm) {own : String} {index : Nat} {y : MethodName} {bs : ByteArray} {ml : Nat} {cc ss W : Nat} {as' : Array Value}
    (hy1 : y.name = "<init>") (hown : vm.findClass own = some m.cls) (hS : s.Since vm n) (hn : n ≤ h.size) (w1 : (Cond.methodLink own index y).before a0 Z = true) (w2 : (Cond.instanceMethod y).before a0 Z = true) (w4 : (Cond.code y bs ml none).before a0 Z = true) (hy : y.cls ≠ "java/lang/invoke/MethodHandle" ∧ y.cls ≠ "java/lang/invoke/VarHandle")
    (hK : BackS l R p e below (s.setVm vm) args y 3 W (fun A a => a = as' ∧ A.U.heap = h ∧ A.cells + cc ≤ R.cells ∧ A.slots + ss ≤ R.slots) (fun A _ v B => ∃ L, Q v B.U.heap L ∧ B.locs = A.locs ++ L ∧ B.cells = A.cells + cc ∧ B.slots = A.slots + ss ∧ CHr Z EL vm h B.U.vm B.U.heap)) (eT : T.heap = h) {pc : Nat} {Ls : Array Slot} {a : Addr} {st argsL rest : List Value} (hst : st = argsL.reverse ++ .ref a :: rest) (has : (.ref a :: argsL).toArray = as') {ps : List FieldType} {r : Option FieldType} (hpd : parseMethodDescriptor y.desc = some ⟨ps, r⟩) (hlen : argsL.length = ps.length) (hsize : Ls.size = c.maxLocals)
    (hd : decode c.code pc = .ok (.invokespecial index, 3)) (hW : (rest.map fun v => v.category).sum ≤ W) (hc : cells + cc ≤ R.cells) (hs : slots + ss ≤ R.slots) (k : To p.tables e below S0 (T.setTop (mkF m pc Ls st))) :
    BehW p l e R s m args below meth c Z EL vm h locs cells slots cc ss own Q S0 (pc + 3) Ls rest := by
  obtain ⟨v, vm₁, ⟨T', L', k', n'⟩, -, X', hS', hg, ⟨L, hQ, q1, q2, q3, hC⟩, stp⟩ := specialBackS X hx hy1 hown (mvT (s := s.setVm vm) hZ w1) (mvT (s := s.setVm vm) hZ w2) (mvT (s := s.setVm vm) hZ w4) hy hK (g := mkF m pc Ls st) rfl hsize (Steps.refl _) (a := a) (argsL := argsL) (rest := rest) (lenOf hpd hlen) hst (by show 2 * 0 + _ ≤ _; omega) hd (fun _ _ => ⟨has, eT, hc, hs⟩)
  dsimp only [Pt.U, Pt.locs, Pt.cells, Pt.slots] at X' q1 q2 q3 stp hQ hS' hg hC
  subst q1 q2 q3
  exact behW hZ hown hS hn X' hS' (eT ▸ hg) hQ hC fun t q => k t (stp.trans q)
theorem callVW (X : Stand p l e R (s.setVm vm) m args below meth c T locs cells slots) (hx : p.tables.exec = Jvm.exec) (hZ : Z.Warmed39 vm) {own C : String} {index : Nat} {y z : MethodName} {cc ss W : Nat} {as' : Array Value}
    (hown : vm.findClass own = some m.cls) (hS : s.Since vm n) (hn : n ≤ h.size) (w1 : (Cond.methodLink own index y).before a0 Z = true) (w2 : (Cond.declares y).before a0 Z = true) (hnf : NotFace (s.setVm vm) y) (w5 : (Cond.selects C y z).before a0 Z = true) (w6 : (Cond.instanceMethod z).before a0 Z = true)
    (hy : y.cls ≠ "java/lang/invoke/MethodHandle" ∧ y.cls ≠ "java/lang/invoke/VarHandle") {b : Addr} (E : Exa Z h b C)
    (hK : BackS l R p e below (s.setVm vm) args z 3 W (fun A a => a = as' ∧ A.U.heap = h ∧ A.cells + cc ≤ R.cells ∧ A.slots + ss ≤ R.slots) (fun A _ v B => ∃ L, Q v B.U.heap L ∧ B.locs = A.locs ++ L ∧ B.cells = A.cells + cc ∧ B.slots = A.slots + ss ∧ CHr Z EL vm h B.U.vm B.U.heap)) (eT : T.heap = h) {pc : Nat} {Ls : Array Slot} {st argsL rest : List Value} (hst : st = argsL.reverse ++ .ref b :: rest) (has : (.ref b :: argsL).toArray = as') {ps : List FieldType} {r : Option FieldType} (hpd : parseMethodDescriptor y.desc = some ⟨ps, r⟩) (hlen : argsL.length = ps.length) (hsize : Ls.size = c.maxLocals)
    (hd : decode c.code pc = .ok (.invokevirtual index, 3)) (hW : (rest.map fun v => v.category).sum ≤ W) (hc : cells + cc ≤ R.cells) (hs : slots + ss ≤ R.slots) (k : To p.tables e below S0 (T.setTop (mkF m pc Ls st))) :
    BehW p l e R s m args below meth c Z EL vm h locs cells slots cc ss own Q S0 (pc + 3) Ls rest := by
  obtain ⟨cq, kq, qa, qb, qc⟩ := isOf (s := s.setVm vm) hZ eT E
  obtain ⟨v, vm₁, ⟨T', L', k', n'⟩, -, X', hS', hg, ⟨L, hQ, q1, q2, q3, hC⟩, stp⟩ := virtualBackS X hx hown (mvT (s := s.setVm vm) hZ w1) (mvT (s := s.setVm vm) hZ w2) hnf (mvT (s := s.setVm vm) hZ w5) (mvT (s := s.setVm vm) hZ w6) hy hK qa qc (g := mkF m pc Ls st) rfl hsize (Steps.refl _) (argsL := argsL) (rest := rest) (lenOf hpd hlen) hst (by show 2 * 0 + _ ≤ _; omega) hd (fun _ _ => ⟨has, eT, hc, hs⟩)
  dsimp only [Pt.U, Pt.locs, Pt.cells, Pt.slots] at X' q1 q2 q3 stp hQ hS' hg hC
  subst q1 q2 q3
  exact behW hZ hown hS hn X' hS' (eT ▸ hg) hQ hC fun t q => k t (stp.trans q)
end Wide
set_option maxRecDepth 65536
set_option maxHeartbeats 40000000
abbrev vi (z : Int32) : Slot := .val (.int z)
abbrev vr (a : Addr) : Slot := .val (.ref a)
abbrev AtQ (p : Program) (e : Env) (below : List Frame) (S0 T : State) (m : MethodId) (pc : Nat) (L : Array Slot) (S : List Value) : Prop := To p.tables e below S0 (T.setTop (mkF m pc L S))
abbrev yqA : MethodName := ⟨"java/lang/StringUTF16", "compress", "([CI[BII)I"⟩
abbrev yqB : MethodName := ⟨"java/lang/StringUTF16", "compress", "([CII)[B"⟩
abbrev yqC : MethodName := ⟨"java/lang/String", "<init>", "([CIILjava/lang/Void;)V"⟩
abbrev yqD : MethodName := ⟨"java/lang/String", "<init>", "([C)V"⟩
abbrev yqE : MethodName := ⟨"java/lang/String", "isLatin1", "()Z"⟩
abbrev yqF : MethodName := ⟨"jdk/internal/util/Preconditions", "checkIndex", "(IILjava/util/function/BiFunction;)I"⟩
abbrev yqG : MethodName := ⟨"java/lang/String", "checkIndex", "(II)V"⟩
abbrev yqH : MethodName := ⟨"java/lang/String", "codePointAt", "(I)I"⟩
abbrev yqI : MethodName := ⟨"java/lang/String", "coder", "()B"⟩
abbrev yqJ : MethodName := ⟨"java/lang/String", "length", "()I"⟩
abbrev yqK : MethodName := ⟨"java/lang/Math", "min", "(II)I"⟩
abbrev yqL : MethodName := ⟨"java/lang/Record", "<init>", "()V"⟩
abbrev yqM : MethodName := ⟨"com/example/ceruline/ceruline/source/SourceFile", "<init>", "(Ljava/lang/String;Ljava/lang/String;)V"⟩
abbrev yqN : MethodName := ⟨"com/example/ceruline/ceruline/source/SourceFile", "text", "()Ljava/lang/String;"⟩
abbrev yqO : MethodName := ⟨"com/example/ceruline/ceruline/parsing/SourceReader", "<init>", "(Lcom/example/ceruline/ceruline/source/SourceFile;)V"⟩
abbrev yqP : MethodName := ⟨"java/lang/Character", "charCount", "(I)I"⟩
abbrev yqQ : MethodName := ⟨"com/example/ceruline/ceruline/parsing/SourceReader", "atEnd", "()Z"⟩
abbrev yqR : MethodName := ⟨"com/example/ceruline/ceruline/parsing/SourceReader", "advance", "()V"⟩
abbrev yqS : MethodName := ⟨"java/lang/StringUTF16", "newBytesLength", "(I)I"⟩
abbrev yqT : MethodName := ⟨"java/lang/StringUTF16", "newBytesFor", "(I)[B"⟩
abbrev yqU : MethodName := ⟨"java/lang/StringUTF16", "putChar", "([BII)V"⟩
abbrev yqV : MethodName := ⟨"java/lang/StringUTF16", "toBytes", "([CII)[B"⟩
abbrev yqW : MethodName := ⟨"java/lang/StringUTF16", "getChar", "([BI)C"⟩
abbrev yqX : MethodName := ⟨"java/lang/StringUTF16", "coderFromArrayLen", "([BI)B"⟩
abbrev yqY : MethodName := ⟨"java/lang/Character", "isHighSurrogate", "(C)Z"⟩
abbrev yqZ : MethodName := ⟨"java/lang/Character", "isLowSurrogate", "(C)Z"⟩
abbrev yqAA : MethodName := ⟨"java/lang/Character", "toCodePoint", "(CC)I"⟩
abbrev yqAB : MethodName := ⟨"java/lang/StringUTF16", "codePointAt", "([BIIZ)I"⟩
abbrev yqAC : MethodName := ⟨"java/lang/StringUTF16", "codePointAt", "([BII)I"⟩
abbrev rqA : Room := { frames := 0, cells := 0, slots := 0, locals := 0 }
abbrev rqB : Room := { frames := 3, cells := 2, slots := 15, locals := 40 }
abbrev rqC : Room := { frames := 1, cells := 4, slots := 8, locals := 12 }
abbrev rqD : Room := { frames := 2, cells := 4, slots := 8, locals := 29 }
abbrev rqE : Room := { frames := 1, cells := 0, slots := 0, locals := 14 }
abbrev rqF : Room := { frames := 3, cells := 0, slots := 0, locals := 44 }
abbrev rqG : Room := { frames := 1, cells := 0, slots := 0, locals := 13 }
abbrev rqH : Room := { frames := 1, cells := 0, slots := 0, locals := 12 }
abbrev rqI : Room := { frames := 2, cells := 0, slots := 0, locals := 24 }
abbrev rqJ : Room := { frames := 2, cells := 0, slots := 0, locals := 26 }
abbrev rqK : Room := { frames := 4, cells := 0, slots := 0, locals := 58 }
abbrev rqL : Room := { frames := 1, cells := 1, slots := 4, locals := 12 }
abbrev rqM : Room := { frames := 2, cells := 1, slots := 4, locals := 24 }
abbrev rqN : Room := { frames := 4, cells := 2, slots := 15, locals := 57 }
abbrev rqO : Room := { frames := 5, cells := 2, slots := 15, locals := 74 }
abbrev rqP : Room := { frames := 2, cells := 0, slots := 0, locals := 30 }
abbrev rqQ : Room := { frames := 1, cells := 1, slots := 6, locals := 12 }
abbrev rqR : Room := { frames := 2, cells := 1, slots := 6, locals := 24 }
abbrev rqS : Room := { frames := 1, cells := 1, slots := 8, locals := 12 }
abbrev rqT : Room := { frames := 2, cells := 1, slots := 8, locals := 24 }
abbrev rqU : Room := { frames := 1, cells := 1, slots := 10, locals := 12 }
abbrev rqV : Room := { frames := 2, cells := 1, slots := 10, locals := 24 }
abbrev FqA (Z : State) (h : Heap) (a : Addr) (v : Value) : Prop := Fld Z h a "java/lang/String" "value" "[B" v
abbrev FqB (Z : State) (h : Heap) (a : Addr) (v : Value) : Prop := Fld Z h a "java/lang/String" "coder" "B" v
abbrev FqC (Z : State) (h : Heap) (a : Addr) (v : Value) : Prop := Fld Z h a "com/example/ceruline/ceruline/source/SourceFile" "name" "Ljava/lang/String;" v
abbrev FqD (Z : State) (h : Heap) (a : Addr) (v : Value) : Prop := Fld Z h a "com/example/ceruline/ceruline/source/SourceFile" "text" "Ljava/lang/String;" v
abbrev FqE (Z : State) (h : Heap) (a : Addr) (v : Value) : Prop := Fld Z h a "com/example/ceruline/ceruline/parsing/SourceReader" "source" "Lcom/example/ceruline/ceruline/source/SourceFile;" v
abbrev FqF (Z : State) (h : Heap) (a : Addr) (v : Value) : Prop := Fld Z h a "com/example/ceruline/ceruline/parsing/SourceReader" "text" "Ljava/lang/String;" v
abbrev FqG (Z : State) (h : Heap) (a : Addr) (v : Value) : Prop := Fld Z h a "com/example/ceruline/ceruline/parsing/SourceReader" "offset" "I" v
abbrev FqH (Z : State) (h : Heap) (a : Addr) (v : Value) : Prop := Fld Z h a "com/example/ceruline/ceruline/parsing/SourceReader" "line" "I" v
abbrev FqI (Z : State) (h : Heap) (a : Addr) (v : Value) : Prop := Fld Z h a "com/example/ceruline/ceruline/parsing/SourceReader" "column" "I" v
abbrev own_EL : List (String × Nat) := consts_1
theorem own_EW {Z : State} {a0 : Array Value} (hw : ∀ d ∈ tables_1, d.before a0 Z = true) : EW Z a0 own_EL := (EW.cons (wq hw 13 rfl) (by decide) (EW.cons (wq hw 158 rfl) (by decide) EW.nil))
theorem own_wS {Z : State} {a0 : Array Value} (hw : ∀ d ∈ tables_1, d.before a0 Z = true) : ∀ a ∈ Bundle.stringAtoms, a.before a0 Z = true := fun a ha => by
  simp only [Bundle.stringAtoms, List.mem_cons, List.not_mem_nil, or_false] at ha
  rcases ha with rfl | rfl | rfl | rfl | rfl | rfl | rfl
  · exact (wq hw 14 rfl)
  · exact (wq hw 15 rfl)
  · exact (wq hw 16 rfl)
  · exact (wq hw 17 rfl)
  · exact (wq hw 18 rfl)
  · exact (wq hw 19 rfl)
  · exact (wq hw 20 rfl)
theorem own_and3 (k : Int32) : (k &&& (3 : Int32)) = (0 : Int32) ∨ (k &&& (3 : Int32)) = (1 : Int32) ∨ (k &&& (3 : Int32)) = (2 : Int32) ∨ (k &&& (3 : Int32)) = (3 : Int32) := by
  have h : (k &&& 3).toBitVec.toNat ≤ 3 := by
    rw [Int32.toBitVec_and, BitVec.toNat_and]; exact Nat.and_le_right
  simp only [← Int32.toBitVec_inj, ← BitVec.toNat_inj, show (0 : Int32).toBitVec.toNat = 0 from rfl, show (1 : Int32).toBitVec.toNat = 1 from rfl, show (2 : Int32).toBitVec.toNat = 2 from rfl, show (3 : Int32).toBitVec.toNat = 3 from rfl]
  omega
theorem own_small (c : Int32) : (c &&& 255) < (65536 : Int32) := by
  have h := (own_m255 c).2
  rw [Int32.lt_iff_toInt_lt] at h ⊢; have e1 : (65536 : Int32).toInt = 65536 := by decide
  have e2 : (255 : Int32).toInt = 255 := by decide
  omega
theorem own_and7 (x : Int32) : (x &&& (7 : Int32)) = (0 : Int32) ∨ (x &&& (7 : Int32)) = (1 : Int32) ∨ (x &&& (7 : Int32)) = (2 : Int32) ∨ (x &&& (7 : Int32)) = (3 : Int32) ∨ (x &&& (7 : Int32)) = (4 : Int32) ∨ (x &&& (7 : Int32)) = (5 : Int32) ∨ (x &&& (7 : Int32)) = (6 : Int32) ∨ (x &&& (7 : Int32)) = (7 : Int32) := by
  have h : (x &&& 7).toBitVec.toNat ≤ 7 := by
    rw [Int32.toBitVec_and, BitVec.toNat_and]; exact Nat.and_le_right
  have h2 : (x &&& 7).toInt = (x &&& 7).toBitVec.toNat := by
    show (x &&& 7).toBitVec.toInt = _
    rw [BitVec.toInt_eq_toNat_of_lt (by omega)]
  simp only [← Int32.toInt_inj, show (0 : Int32).toInt = 0 from rfl, show (1 : Int32).toInt = 1 from rfl, show (2 : Int32).toInt = 2 from rfl, show (3 : Int32).toInt = 3 from rfl, show (4 : Int32).toInt = 4 from rfl, show (5 : Int32).toInt = 5 from rfl, show (6 : Int32).toInt = 6 from rfl, show (7 : Int32).toInt = 7 from rfl]
  omega
theorem own_k0 (x : Int32) : (if (0 : Int32) < (x &&& (7 : Int32)) then (0 : Int32) else (x &&& (7 : Int32))) = (0 : Int32) := by rcases own_and7 x with h | h | h | h | h | h | h | h <;> rw [h] <;> decide
theorem own_k1 (x : Int32) : (if (1 : Int32) < (x &&& (7 : Int32)) then (1 : Int32) else (x &&& (7 : Int32))) = (0 : Int32) ∨ (if (1 : Int32) < (x &&& (7 : Int32)) then (1 : Int32) else (x &&& (7 : Int32))) = (1 : Int32) := by rcases own_and7 x with h | h | h | h | h | h | h | h <;> rw [h] <;> decide
theorem own_k2 (x : Int32) : (if (2 : Int32) < (x &&& (7 : Int32)) then (2 : Int32) else (x &&& (7 : Int32))) = (0 : Int32) ∨ (if (2 : Int32) < (x &&& (7 : Int32)) then (2 : Int32) else (x &&& (7 : Int32))) = (1 : Int32) ∨ (if (2 : Int32) < (x &&& (7 : Int32)) then (2 : Int32) else (x &&& (7 : Int32))) = (2 : Int32) := by rcases own_and7 x with h | h | h | h | h | h | h | h <;> rw [h] <;> decide
theorem own_k3 (x : Int32) : (if (3 : Int32) < (x &&& (7 : Int32)) then (3 : Int32) else (x &&& (7 : Int32))) = (0 : Int32) ∨ (if (3 : Int32) < (x &&& (7 : Int32)) then (3 : Int32) else (x &&& (7 : Int32))) = (1 : Int32) ∨ (if (3 : Int32) < (x &&& (7 : Int32)) then (3 : Int32) else (x &&& (7 : Int32))) = (2 : Int32) ∨ (if (3 : Int32) < (x &&& (7 : Int32)) then (3 : Int32) else (x &&& (7 : Int32))) = (3 : Int32) := by rcases own_and7 x with h | h | h | h | h | h | h | h <;> rw [h] <;> decide
theorem own_k4 (x : Int32) : (if (4 : Int32) < (x &&& (7 : Int32)) then (4 : Int32) else (x &&& (7 : Int32))) = (0 : Int32) ∨ (if (4 : Int32) < (x &&& (7 : Int32)) then (4 : Int32) else (x &&& (7 : Int32))) = (1 : Int32) ∨ (if (4 : Int32) < (x &&& (7 : Int32)) then (4 : Int32) else (x &&& (7 : Int32))) = (2 : Int32) ∨ (if (4 : Int32) < (x &&& (7 : Int32)) then (4 : Int32) else (x &&& (7 : Int32))) = (3 : Int32) ∨ (if (4 : Int32) < (x &&& (7 : Int32)) then (4 : Int32) else (x &&& (7 : Int32))) = (4 : Int32) := by rcases own_and7 x with h | h | h | h | h | h | h | h <;> rw [h] <;> decide
theorem dqN_0 : decode jdk_52_method_21_code 0 = .ok (.iconst 0, 1) := by decide +kernel
theorem dqN_1 : decode jdk_52_method_21_code 1 = .ok (.istore 5, 2) := by decide +kernel
theorem dqN_3 : decode jdk_52_method_21_code 3 = .ok (.iload 5, 2) := by decide +kernel
theorem dqN_5 : decode jdk_52_method_21_code 5 = .ok (.iload 4, 2) := by decide +kernel
theorem dqN_7 : decode jdk_52_method_21_code 7 = .ok (.if_icmp .ge 37, 3) := by decide +kernel
theorem dqN_10 : decode jdk_52_method_21_code 10 = .ok (.aload_n 0, 1) := by decide +kernel
theorem dqN_11 : decode jdk_52_method_21_code 11 = .ok (.iload_n 1, 1) := by decide +kernel
theorem dqN_12 : decode jdk_52_method_21_code 12 = .ok (.caload, 1) := by decide +kernel
theorem dqN_13 : decode jdk_52_method_21_code 13 = .ok (.istore 6, 2) := by decide +kernel
theorem dqN_15 : decode jdk_52_method_21_code 15 = .ok (.iload 6, 2) := by decide +kernel
theorem dqN_17 : decode jdk_52_method_21_code 17 = .ok (.sipush 255, 3) := by decide +kernel
theorem dqN_20 : decode jdk_52_method_21_code 20 = .ok (.if_icmp .le 6, 3) := by decide +kernel
theorem dqN_23 : decode jdk_52_method_21_code 23 = .ok (.iload 5, 2) := by decide +kernel
theorem dqN_25 : decode jdk_52_method_21_code 25 = .ok (.ireturn, 1) := by decide +kernel
theorem dqN_26 : decode jdk_52_method_21_code 26 = .ok (.aload_n 2, 1) := by decide +kernel
theorem dqN_27 : decode jdk_52_method_21_code 27 = .ok (.iload_n 3, 1) := by decide +kernel
theorem dqN_28 : decode jdk_52_method_21_code 28 = .ok (.iload 6, 2) := by decide +kernel
theorem dqN_30 : decode jdk_52_method_21_code 30 = .ok (.i2b, 1) := by decide +kernel
theorem dqN_31 : decode jdk_52_method_21_code 31 = .ok (.bastore, 1) := by decide +kernel
theorem dqN_32 : decode jdk_52_method_21_code 32 = .ok (.iinc 1 1, 3) := by decide +kernel
theorem dqN_35 : decode jdk_52_method_21_code 35 = .ok (.iinc 3 1, 3) := by decide +kernel
theorem dqN_38 : decode jdk_52_method_21_code 38 = .ok (.iinc 5 1, 3) := by decide +kernel
theorem dqN_41 : decode jdk_52_method_21_code 41 = .ok (.goto (-38), 3) := by decide +kernel
theorem dqN_44 : decode jdk_52_method_21_code 44 = .ok (.iload 4, 2) := by decide +kernel
theorem dqN_46 : decode jdk_52_method_21_code 46 = .ok (.ireturn, 1) := by decide +kernel
theorem pn_0 : plainName "java/lang/StringUTF16" = true := by first | (simp [plainName, overriddenIn]; done) | decide +kernel
theorem rm_c5_1 (l : Launch) (Z : State) (a0 : Array Value) (hw : ∀ d ∈ tables_1, d.before a0 Z = true) (b : Addr) (kb : ClassId) (t : Addr) (kt : ClassId) (d0 : Int32) (h0 : Heap) (n0 : Nat) (hn0 : n0 ≤ h0.size) (P0 : Arv Z h0 b kb .char (1 : Int32) [(.int d0)] (.int 0)) (P1 : Arv Z h0 t kt .byte (1 : Int32) [(.int 0)] (.int 0)) (ga : n0 ≤ t) (nbt : ¬ (@Eq Nat b t)) (hd0 : ¬ d0 < (0 : Int32) ∧ ¬ (255 : Int32) < d0) :
  Con l Z yqA jdk_52_method_21_code 7 (some .int) [] rqA #[(.ref b), (.int 0), (.ref t), (.int 0), (.int 1)] h0 (fun v h L => v = some (.int 1) ∧ Fr n0 L ∧ Keep h0 h [t] ∧ Arv Z h t kt .byte (1 : Int32) [(.int (nar .byte (d0.toInt8.toInt32)))] (.int 0)) := by
 refine enter (Ls := #[(vr b), (vi 0), (vr t), (vi 0), (vi 1), .unset, .unset]) (plainFor_of_name pn_0) (fun m => by exact entry_eq rfl) ?_
 intro p e s m below meth cd_ s₁ S0 hx hby hml hret hlk hnm hown hZ X0 e0 k0
 have N0 := Fr.nil n0
 have k1 : AtQ p e below S0 s₁ m 12 #[(vr b), (vi 0), (vr t), (vi 0), (vi 1), (vi 0), .unset] [(.int 0), (.ref b)] := fun tt hq => k0 tt (by
  refine XS.iconst X0.here hx rfl (hb hby dqN_0) ?_
  refine XS.istore X0.here hx rfl (hb hby dqN_1) rfl (l' := #[(vr b), (vi 0), (vr t), (vi 0), (vi 1), (vi 0), .unset]) rfl ?_
  refine XS.iload X0.here hx rfl (hb hby dqN_3) rfl ?_
  refine XS.iload X0.here hx rfl (hb hby dqN_5) rfl ?_
  refine XS.icmpNo X0.here hx rfl (hb hby dqN_7) rfl (tlt (by decide)).2.1 ?_
  refine XS.aloadN X0.here hx rfl (hb hby dqN_10) rfl rfl ?_
  refine XS.iloadN X0.here hx rfl (hb hby dqN_11) rfl ?_
  exact hq)
 obtain ⟨cl2, Ar2, -, S2, -, G2, -⟩ := id P0
 have hi2 := inb_of (j := (0 : Int32)) S2 ⟨by decide, by decide⟩
 have st2 := fun tt => X0.caload hx (j := (0 : Int32)) (v := (.int d0)) (by rw [e0]; exact Ar2.1) (State.isArrayOf_alike hZ.alike Ar2.2.1) Ar2.2.2 hi2 (G2.at hi2 rfl) (g := (mkF m 12 #[(vr b), (vi 0), (vr t), (vi 0), (vi 1), (vi 0), .unset] [(.int 0), (.ref b)])) rfl rfl (hb hby dqN_12) tt
 have k2 : AtQ p e below S0 s₁ m 13 #[(vr b), (vi 0), (vr t), (vi 0), (vi 1), (vi 0), .unset] [(.int d0)] := fun tt hq => k1 tt (st2 tt hq)
 have k3 : AtQ p e below S0 s₁ m 31 #[(vr b), (vi 0), (vr t), (vi 0), (vi 1), (vi 0), (vi d0)] [(.int (d0.toInt8.toInt32)), (.int 0), (.ref t)] := fun tt hq => k2 tt (by
  refine XS.istore X0.here hx rfl (hb hby dqN_13) rfl (l' := #[(vr b), (vi 0), (vr t), (vi 0), (vi 1), (vi 0), (vi d0)]) rfl ?_
  refine XS.iload X0.here hx rfl (hb hby dqN_15) rfl ?_
  refine XS.sipush X0.here hx rfl (hb hby dqN_17) ?_
  refine XS.icmpYes X0.here hx rfl (pc0 := 20) (pc' := 26) rfl (hb hby dqN_20) rfl (flt hd0.2).2.2.2 (by decide) (by decide) ?_
  refine XS.aloadN X0.here hx rfl (hb hby dqN_26) rfl rfl ?_
  refine XS.iloadN X0.here hx rfl (hb hby dqN_27) rfl ?_
  refine XS.iload X0.here hx rfl (hb hby dqN_28) rfl ?_
  refine XS.i2b X0.here hx rfl (hb hby dqN_30) rfl ?_
  exact hq)
 obtain ⟨cl4, Ar4, q4, S4, M4, G4, J4⟩ := id P1
 obtain ⟨T4, h4, X4, e4, W4, st4⟩ := stB X0 hx hZ e0 Ar4 (j := (0 : Int32)) (inb_of S4 (⟨by decide, by decide⟩)) (g := (mkF m 31 #[(vr b), (vi 0), (vr t), (vi 0), (vi 1), (vi 0), (vi d0)] [(.int (d0.toInt8.toInt32)), (.int 0), (.ref t)])) rfl rfl (hb hby dqN_31)
 have k4 : AtQ p e below S0 T4 m 32 #[(vr b), (vi 0), (vr t), (vi 0), (vi 1), (vi 0), (vi d0)] [] := fun tt hq => k3 tt (st4 tt hq)
 have z4 : h4.size = h0.size := W4.size
 have V4 : Arv Z h4 t kt .byte (1 : Int32) [(.int (nar .byte (d0.toInt8.toInt32)))] (.int 0) := Arv.set Ar4 q4 S4 M4 G4 J4 (fits_nar_byte _) W4 0 rfl (Nat.le_of_ble_eq_true rfl)
 have N4 := Fr.snoc X4 N0 (by omega : n0 ≤ t)
 have k5 : AtQ p e below S0 T4 m 46 #[(vr b), (vi 1), (vr t), (vi 1), (vi 1), (vi 1), (vi d0)] [(.int 1)] := fun tt hq => k4 tt (by
  refine XS.iinc X4.here hx rfl (hb hby dqN_32) rfl (l' := #[(vr b), (vi 1), (vr t), (vi 0), (vi 1), (vi 0), (vi d0)]) rfl ?_
  refine XS.iinc X4.here hx rfl (hb hby dqN_35) rfl (l' := #[(vr b), (vi 1), (vr t), (vi 1), (vi 1), (vi 0), (vi d0)]) rfl ?_
  refine XS.iinc X4.here hx rfl (hb hby dqN_38) rfl (l' := #[(vr b), (vi 1), (vr t), (vi 1), (vi 1), (vi 1), (vi d0)]) rfl ?_
  refine XS.goto X4.here hx rfl (pc0 := 41) (pc' := 3) rfl (hb hby dqN_41) (by decide) (by decide) ?_
  refine XS.iload X4.here hx rfl (hb hby dqN_3) rfl ?_
  refine XS.iload X4.here hx rfl (hb hby dqN_5) rfl ?_
  refine XS.icmpYes X4.here hx rfl (pc0 := 7) (pc' := 44) rfl (hb hby dqN_7) rfl (flt (by decide)).2.1 (by decide) (by decide) ?_
  refine XS.iload X4.here hx rfl (hb hby dqN_44) rfl ?_
  exact hq)
 have hE := e4
 refine retInt X4 hx hret hlk (by simp) rfl (hb hby dqN_46) k5 ?_ (by decide) (by decide)
 try rw [hE]
 exact ⟨rfl, N4, ((Keep.refl h0 [t]).wr W4 (Or.inl (by simp))), V4⟩
theorem dqM_0 : decode jdk_52_method_16_code 0 = .ok (.iload_n 2, 1) := by decide +kernel
theorem dqM_1 : decode jdk_52_method_16_code 1 = .ok (.newarray .byte, 2) := by decide +kernel
theorem dqM_3 : decode jdk_52_method_16_code 3 = .ok (.astore_n 3, 1) := by decide +kernel
theorem dqM_4 : decode jdk_52_method_16_code 4 = .ok (.aload_n 0, 1) := by decide +kernel
theorem dqM_5 : decode jdk_52_method_16_code 5 = .ok (.iload_n 1, 1) := by decide +kernel
theorem dqM_6 : decode jdk_52_method_16_code 6 = .ok (.aload_n 3, 1) := by decide +kernel
theorem dqM_7 : decode jdk_52_method_16_code 7 = .ok (.iconst 0, 1) := by decide +kernel
theorem dqM_8 : decode jdk_52_method_16_code 8 = .ok (.iload_n 2, 1) := by decide +kernel
theorem dqM_9 : decode jdk_52_method_16_code 9 = .ok (.invokestatic 115, 3) := by decide +kernel
theorem dqM_12 : decode jdk_52_method_16_code 12 = .ok (.istore 4, 2) := by decide +kernel
theorem dqM_14 : decode jdk_52_method_16_code 14 = .ok (.iload 4, 2) := by decide +kernel
theorem dqM_16 : decode jdk_52_method_16_code 16 = .ok (.iload_n 2, 1) := by decide +kernel
theorem dqM_17 : decode jdk_52_method_16_code 17 = .ok (.if_icmp .eq 40, 3) := by decide +kernel
theorem dqM_20 : decode jdk_52_method_16_code 20 = .ok (.aload_n 0, 1) := by decide +kernel
theorem dqM_21 : decode jdk_52_method_16_code 21 = .ok (.iload_n 1, 1) := by decide +kernel
theorem dqM_22 : decode jdk_52_method_16_code 22 = .ok (.iload_n 2, 1) := by decide +kernel
theorem dqM_23 : decode jdk_52_method_16_code 23 = .ok (.invokestatic 119, 3) := by decide +kernel
theorem dqM_26 : decode jdk_52_method_16_code 26 = .ok (.astore 5, 2) := by decide +kernel
theorem dqM_28 : decode jdk_52_method_16_code 28 = .ok (.aload 5, 2) := by decide +kernel
theorem dqM_30 : decode jdk_52_method_16_code 30 = .ok (.iload 4, 2) := by decide +kernel
theorem dqM_32 : decode jdk_52_method_16_code 32 = .ok (.invokestatic 71, 3) := by decide +kernel
theorem dqM_35 : decode jdk_52_method_16_code 35 = .ok (.sipush 255, 3) := by decide +kernel
theorem dqM_38 : decode jdk_52_method_16_code 38 = .ok (.if_icmp .gt 16, 3) := by decide +kernel
theorem dqM_41 : decode jdk_52_method_16_code 41 = .ok (.aload 5, 2) := by decide +kernel
theorem dqM_43 : decode jdk_52_method_16_code 43 = .ok (.iconst 0, 1) := by decide +kernel
theorem dqM_44 : decode jdk_52_method_16_code 44 = .ok (.aload_n 3, 1) := by decide +kernel
theorem dqM_45 : decode jdk_52_method_16_code 45 = .ok (.iconst 0, 1) := by decide +kernel
theorem dqM_46 : decode jdk_52_method_16_code 46 = .ok (.iload_n 2, 1) := by decide +kernel
theorem dqM_47 : decode jdk_52_method_16_code 47 = .ok (.invokestatic 123, 3) := by decide +kernel
theorem dqM_50 : decode jdk_52_method_16_code 50 = .ok (.iload_n 2, 1) := by decide +kernel
theorem dqM_51 : decode jdk_52_method_16_code 51 = .ok (.if_icmp .eq 6, 3) := by decide +kernel
theorem dqM_54 : decode jdk_52_method_16_code 54 = .ok (.aload 5, 2) := by decide +kernel
theorem dqM_56 : decode jdk_52_method_16_code 56 = .ok (.areturn, 1) := by decide +kernel
theorem dqM_57 : decode jdk_52_method_16_code 57 = .ok (.aload_n 3, 1) := by decide +kernel
theorem dqM_58 : decode jdk_52_method_16_code 58 = .ok (.areturn, 1) := by decide +kernel
theorem pd_0 : parseMethodDescriptor "([CI[BII)I" = some ⟨[(.array .char), .int, (.array .byte), .int, .int], some .int⟩ := by decide +kernel
theorem rm_c3_1 (l : Launch) (Z : State) (a0 : Array Value) (hw : ∀ d ∈ tables_1, d.before a0 Z = true) (b : Addr) (kb : ClassId) (d0 : Int32) (h0 : Heap) (n0 : Nat) (hn0 : n0 ≤ h0.size) (P0 : Arv Z h0 b kb .char (1 : Int32) [(.int d0)] (.int 0)) (yb : @LT.lt Nat instLTNat b h0.size) (hd0 : ¬ d0 < (0 : Int32) ∧ ¬ (255 : Int32) < d0) :
  Con l Z yqB jdk_52_method_16_code 6 (some (.array .byte)) [] rqB #[(.ref b), (.int 0), (.int 1)] h0 (fun v h L => ∃ (t : Addr) (k : ClassId), v = some (.ref t) ∧ Fr n0 L ∧ h0.size ≤ t ∧ Keep h0 h [] ∧ Arv Z h t k .byte (1 : Int32) [(.int (nar .byte (d0.toInt8.toInt32)))] (.int 0)) := by
 refine enter (Ls := #[(vr b), (vi 0), (vi 1), .unset, .unset, .unset]) (plainFor_of_name pn_0) (fun m => by exact entry_eq rfl) ?_
 intro p e s m below meth cd_ s₁ S0 hx hby hml hret hlk hnm hown hZ X0 e0 k0
 have N0 := Fr.nil n0
 have k1 : AtQ p e below S0 s₁ m 1 #[(vr b), (vi 0), (vi 1), .unset, .unset, .unset] [(.int 1)] := fun tt hq => k0 tt (by
  refine XS.iloadN X0.here hx rfl (hb hby dqM_0) rfl ?_
  exact hq)
 obtain ⟨T2, h2, c2, X2, e2, E2, A2, st2⟩ := newP X0 hx hZ (wq hw 16 rfl) e0 (g := (mkF m 1 #[(vr b), (vi 0), (vi 1), .unset, .unset, .unset] [(.int 1)])) rfl (hb hby dqM_1) rfl (by decide) (cap := 1) (by decide) (by decide) (by decide) (by decide)
 obtain ⟨b2, g2⟩ : ∃ z, z = h0.size := ⟨_, rfl⟩
 rw [← g2] at A2 st2
 have k2 : AtQ p e below S0 T2 m 3 #[(vr b), (vi 0), (vi 1), .unset, .unset, .unset] [(.ref b2)] := fun tt hq => k1 tt (st2 tt hq)
 have z2 : h0.size ≤ h2.size := E2.1
 have V2 : Arv Z h2 b2 c2 .byte (1 : Int32) [(.int 0)] (.int 0) := (Arv.new A2 (by decide)).pad (pad_rep [] (.int 0) 1)
 have y2 : @LT.lt Nat instLTNat b2 h2.size := V2.lt
 have k3 : AtQ p e below S0 T2 m 9 #[(vr b), (vi 0), (vi 1), (vr b2), .unset, .unset] [(.int 1), (.int 0), (.ref b2), (.int 0), (.ref b)] := fun tt hq => k2 tt (by
  refine XS.astoreN X2.here hx rfl (hb hby dqM_3) rfl rfl (l' := #[(vr b), (vi 0), (vi 1), (vr b2), .unset, .unset]) rfl ?_
  refine XS.aloadN X2.here hx rfl (hb hby dqM_4) rfl rfl ?_
  refine XS.iloadN X2.here hx rfl (hb hby dqM_5) rfl ?_
  refine XS.aloadN X2.here hx rfl (hb hby dqM_6) rfl rfl ?_
  refine XS.iconst X2.here hx rfl (hb hby dqM_7) ?_
  refine XS.iloadN X2.here hx rfl (hb hby dqM_8) rfl ?_
  exact hq)
 have f4 : Arv Z h2 b kb .char (1 : Int32) [(.int d0)] (.int 0) := (P0.ext E2)
 obtain ⟨_, T5, L5, X5, ⟨rfl, Nq5, Kq5, V5⟩, k5a⟩ := callS' X2 hx hZ (y := yqA) hown (wq hw 37 rfl) (wq hw 38 rfl) (wq hw 35 rfl) (wq hw 39 rfl) (by decide) (backC (W := 0) (rm_c5_1 l Z a0 hw b kb b2 c2 d0 h2 n0 (by omega) f4 V2 (by omega) (by omega) hd0) hZ (wq hw 39 rfl) (wq hw 35 rfl) (by decide) (by decide)) e2 (argsL := [(.ref b), (.int 0), (.ref b2), (.int 0), (.int 1)]) (rest := []) rfl rfl pd_0 rfl (by rw [hml]; rfl) (hb hby dqM_9) (Nat.le_of_eq rfl) (by decide) (by decide) k3
 have k5 : AtQ p e below S0 T5 m 12 #[(vr b), (vi 0), (vi 1), (vr b2), .unset, .unset] [(.int 1)] := k5a
 have N5 := N0.app Nq5
 obtain ⟨h5, e5⟩ : ∃ z, T5.heap = z := ⟨_, rfl⟩
 rw [e5] at Kq5 V5
 have z5 : h2.size ≤ h5.size := Kq5.1
 have k6 : AtQ p e below S0 T5 m 58 #[(vr b), (vi 0), (vi 1), (vr b2), (vi 1), .unset] [(.ref b2)] := fun tt hq => k5 tt (by
  refine XS.istore X5.here hx rfl (hb hby dqM_12) rfl (l' := #[(vr b), (vi 0), (vi 1), (vr b2), (vi 1), .unset]) rfl ?_
  refine XS.iload X5.here hx rfl (hb hby dqM_14) rfl ?_
  refine XS.iloadN X5.here hx rfl (hb hby dqM_16) rfl ?_
  refine XS.icmpYes X5.here hx rfl (pc0 := 17) (pc' := 57) rfl (hb hby dqM_17) rfl (teq (by decide)).1 (by decide) (by decide) ?_
  refine XS.aloadN X5.here hx rfl (hb hby dqM_57) rfl rfl ?_
  exact hq)
 have hE := e5
 refine retRef X5 hx hret hlk rfl rfl (hb hby dqM_58) k6 ?_ (by decide) (by decide)
 try rw [hE]
 exact ⟨b2, _, rfl, N5, (by omega), (((Keep.refl h0 []).ext E2).trans Kq5 (allS (Or.inr (by omega)) all0)), V5⟩
theorem rm_c5_2 (l : Launch) (Z : State) (a0 : Array Value) (hw : ∀ d ∈ tables_1, d.before a0 Z = true) (b : Addr) (kb : ClassId) (t : Addr) (kt : ClassId) (d0 : Int32) (d1 : Int32) (h0 : Heap) (n0 : Nat) (hn0 : n0 ≤ h0.size) (P0 : Arv Z h0 b kb .char (2 : Int32) [(.int d0), (.int d1)] (.int 0)) (P1 : Arv Z h0 t kt .byte (2 : Int32) [(.int 0), (.int 0)] (.int 0)) (ga : n0 ≤ t) (nbt : ¬ (@Eq Nat b t)) (hd0 : ¬ d0 < (0 : Int32) ∧ ¬ (255 : Int32) < d0) (hd1 : ¬ d1 < (0 : Int32) ∧ ¬ (255 : Int32) < d1) :
  Con l Z yqA jdk_52_method_21_code 7 (some .int) [] rqA #[(.ref b), (.int 0), (.ref t), (.int 0), (.int 2)] h0 (fun v h L => v = some (.int 2) ∧ Fr n0 L ∧ Keep h0 h [t] ∧ Arv Z h t kt .byte (2 : Int32) [(.int (nar .byte (d0.toInt8.toInt32))), (.int (nar .byte (d1.toInt8.toInt32)))] (.int 0)) := by
 refine enter (Ls := #[(vr b), (vi 0), (vr t), (vi 0), (vi 2), .unset, .unset]) (plainFor_of_name pn_0) (fun m => by exact entry_eq rfl) ?_
 intro p e s m below meth cd_ s₁ S0 hx hby hml hret hlk hnm hown hZ X0 e0 k0
 have N0 := Fr.nil n0
 have k1 : AtQ p e below S0 s₁ m 12 #[(vr b), (vi 0), (vr t), (vi 0), (vi 2), (vi 0), .unset] [(.int 0), (.ref b)] := fun tt hq => k0 tt (by
  refine XS.iconst X0.here hx rfl (hb hby dqN_0) ?_
  refine XS.istore X0.here hx rfl (hb hby dqN_1) rfl (l' := #[(vr b), (vi 0), (vr t), (vi 0), (vi 2), (vi 0), .unset]) rfl ?_
  refine XS.iload X0.here hx rfl (hb hby dqN_3) rfl ?_
  refine XS.iload X0.here hx rfl (hb hby dqN_5) rfl ?_
  refine XS.icmpNo X0.here hx rfl (hb hby dqN_7) rfl (tlt (by decide)).2.1 ?_
  refine XS.aloadN X0.here hx rfl (hb hby dqN_10) rfl rfl ?_
  refine XS.iloadN X0.here hx rfl (hb hby dqN_11) rfl ?_
  exact hq)
 obtain ⟨cl2, Ar2, -, S2, -, G2, -⟩ := id P0
 have hi2 := inb_of (j := (0 : Int32)) S2 ⟨by decide, by decide⟩
 have st2 := fun tt => X0.caload hx (j := (0 : Int32)) (v := (.int d0)) (by rw [e0]; exact Ar2.1) (State.isArrayOf_alike hZ.alike Ar2.2.1) Ar2.2.2 hi2 (G2.at hi2 rfl) (g := (mkF m 12 #[(vr b), (vi 0), (vr t), (vi 0), (vi 2), (vi 0), .unset] [(.int 0), (.ref b)])) rfl rfl (hb hby dqN_12) tt
 have k2 : AtQ p e below S0 s₁ m 13 #[(vr b), (vi 0), (vr t), (vi 0), (vi 2), (vi 0), .unset] [(.int d0)] := fun tt hq => k1 tt (st2 tt hq)
 have k3 : AtQ p e below S0 s₁ m 31 #[(vr b), (vi 0), (vr t), (vi 0), (vi 2), (vi 0), (vi d0)] [(.int (d0.toInt8.toInt32)), (.int 0), (.ref t)] := fun tt hq => k2 tt (by
  refine XS.istore X0.here hx rfl (hb hby dqN_13) rfl (l' := #[(vr b), (vi 0), (vr t), (vi 0), (vi 2), (vi 0), (vi d0)]) rfl ?_
  refine XS.iload X0.here hx rfl (hb hby dqN_15) rfl ?_
  refine XS.sipush X0.here hx rfl (hb hby dqN_17) ?_
  refine XS.icmpYes X0.here hx rfl (pc0 := 20) (pc' := 26) rfl (hb hby dqN_20) rfl (flt hd0.2).2.2.2 (by decide) (by decide) ?_
  refine XS.aloadN X0.here hx rfl (hb hby dqN_26) rfl rfl ?_
  refine XS.iloadN X0.here hx rfl (hb hby dqN_27) rfl ?_
  refine XS.iload X0.here hx rfl (hb hby dqN_28) rfl ?_
  refine XS.i2b X0.here hx rfl (hb hby dqN_30) rfl ?_
  exact hq)
 obtain ⟨cl4, Ar4, q4, S4, M4, G4, J4⟩ := id P1
 obtain ⟨T4, h4, X4, e4, W4, st4⟩ := stB X0 hx hZ e0 Ar4 (j := (0 : Int32)) (inb_of S4 (⟨by decide, by decide⟩)) (g := (mkF m 31 #[(vr b), (vi 0), (vr t), (vi 0), (vi 2), (vi 0), (vi d0)] [(.int (d0.toInt8.toInt32)), (.int 0), (.ref t)])) rfl rfl (hb hby dqN_31)
 have k4 : AtQ p e below S0 T4 m 32 #[(vr b), (vi 0), (vr t), (vi 0), (vi 2), (vi 0), (vi d0)] [] := fun tt hq => k3 tt (st4 tt hq)
 have z4 : h4.size = h0.size := W4.size
 have V4 : Arv Z h4 t kt .byte (2 : Int32) [(.int (nar .byte (d0.toInt8.toInt32))), (.int 0)] (.int 0) := Arv.set Ar4 q4 S4 M4 G4 J4 (fits_nar_byte _) W4 0 rfl (Nat.le_of_ble_eq_true rfl)
 have N4 := Fr.snoc X4 N0 (by omega : n0 ≤ t)
 have f5 : Arv Z h4 b kb .char (2 : Int32) [(.int d0), (.int d1)] (.int 0) := (P0.other W4 (adr_ne (by omega)))
 have k6 : AtQ p e below S0 T4 m 12 #[(vr b), (vi 1), (vr t), (vi 1), (vi 2), (vi 1), (vi d0)] [(.int 1), (.ref b)] := fun tt hq => k4 tt (by
  refine XS.iinc X4.here hx rfl (hb hby dqN_32) rfl (l' := #[(vr b), (vi 1), (vr t), (vi 0), (vi 2), (vi 0), (vi d0)]) rfl ?_
  refine XS.iinc X4.here hx rfl (hb hby dqN_35) rfl (l' := #[(vr b), (vi 1), (vr t), (vi 1), (vi 2), (vi 0), (vi d0)]) rfl ?_
  refine XS.iinc X4.here hx rfl (hb hby dqN_38) rfl (l' := #[(vr b), (vi 1), (vr t), (vi 1), (vi 2), (vi 1), (vi d0)]) rfl ?_
  refine XS.goto X4.here hx rfl (pc0 := 41) (pc' := 3) rfl (hb hby dqN_41) (by decide) (by decide) ?_
  refine XS.iload X4.here hx rfl (hb hby dqN_3) rfl ?_
  refine XS.iload X4.here hx rfl (hb hby dqN_5) rfl ?_
  refine XS.icmpNo X4.here hx rfl (hb hby dqN_7) rfl (tlt (by decide)).2.1 ?_
  refine XS.aloadN X4.here hx rfl (hb hby dqN_10) rfl rfl ?_
  refine XS.iloadN X4.here hx rfl (hb hby dqN_11) rfl ?_
  exact hq)
 obtain ⟨cl7, Ar7, -, S7, -, G7, -⟩ := id f5
 have hi7 := inb_of (j := (1 : Int32)) S7 ⟨by decide, by decide⟩
 have st7 := fun tt => X4.caload hx (j := (1 : Int32)) (v := (.int d1)) (by rw [e4]; exact Ar7.1) (State.isArrayOf_alike hZ.alike Ar7.2.1) Ar7.2.2 hi7 (G7.at hi7 rfl) (g := (mkF m 12 #[(vr b), (vi 1), (vr t), (vi 1), (vi 2), (vi 1), (vi d0)] [(.int 1), (.ref b)])) rfl rfl (hb hby dqN_12) tt
 have k7 : AtQ p e below S0 T4 m 13 #[(vr b), (vi 1), (vr t), (vi 1), (vi 2), (vi 1), (vi d0)] [(.int d1)] := fun tt hq => k6 tt (st7 tt hq)
 have k8 : AtQ p e below S0 T4 m 31 #[(vr b), (vi 1), (vr t), (vi 1), (vi 2), (vi 1), (vi d1)] [(.int (d1.toInt8.toInt32)), (.int 1), (.ref t)] := fun tt hq => k7 tt (by
  refine XS.istore X4.here hx rfl (hb hby dqN_13) rfl (l' := #[(vr b), (vi 1), (vr t), (vi 1), (vi 2), (vi 1), (vi d1)]) rfl ?_
  refine XS.iload X4.here hx rfl (hb hby dqN_15) rfl ?_
  refine XS.sipush X4.here hx rfl (hb hby dqN_17) ?_
  refine XS.icmpYes X4.here hx rfl (pc0 := 20) (pc' := 26) rfl (hb hby dqN_20) rfl (flt hd1.2).2.2.2 (by decide) (by decide) ?_
  refine XS.aloadN X4.here hx rfl (hb hby dqN_26) rfl rfl ?_
  refine XS.iloadN X4.here hx rfl (hb hby dqN_27) rfl ?_
  refine XS.iload X4.here hx rfl (hb hby dqN_28) rfl ?_
  refine XS.i2b X4.here hx rfl (hb hby dqN_30) rfl ?_
  exact hq)
 obtain ⟨cl9, Ar9, q9, S9, M9, G9, J9⟩ := id V4
 obtain ⟨T9, h9, X9, e9, W9, st9⟩ := stB X4 hx hZ e4 Ar9 (j := (1 : Int32)) (inb_of S9 (⟨by decide, by decide⟩)) (g := (mkF m 31 #[(vr b), (vi 1), (vr t), (vi 1), (vi 2), (vi 1), (vi d1)] [(.int (d1.toInt8.toInt32)), (.int 1), (.ref t)])) rfl rfl (hb hby dqN_31)
 have k9 : AtQ p e below S0 T9 m 32 #[(vr b), (vi 1), (vr t), (vi 1), (vi 2), (vi 1), (vi d1)] [] := fun tt hq => k8 tt (st9 tt hq)
 have z9 : h9.size = h4.size := W9.size
 have V9 : Arv Z h9 t kt .byte (2 : Int32) [(.int (nar .byte (d0.toInt8.toInt32))), (.int (nar .byte (d1.toInt8.toInt32)))] (.int 0) := Arv.set Ar9 q9 S9 M9 G9 J9 (fits_nar_byte _) W9 1 rfl (Nat.le_of_ble_eq_true rfl)
 have N9 := Fr.snoc X9 N4 (by omega : n0 ≤ t)
 have k10 : AtQ p e below S0 T9 m 46 #[(vr b), (vi 2), (vr t), (vi 2), (vi 2), (vi 2), (vi d1)] [(.int 2)] := fun tt hq => k9 tt (by
  refine XS.iinc X9.here hx rfl (hb hby dqN_32) rfl (l' := #[(vr b), (vi 2), (vr t), (vi 1), (vi 2), (vi 1), (vi d1)]) rfl ?_
  refine XS.iinc X9.here hx rfl (hb hby dqN_35) rfl (l' := #[(vr b), (vi 2), (vr t), (vi 2), (vi 2), (vi 1), (vi d1)]) rfl ?_
  refine XS.iinc X9.here hx rfl (hb hby dqN_38) rfl (l' := #[(vr b), (vi 2), (vr t), (vi 2), (vi 2), (vi 2), (vi d1)]) rfl ?_
  refine XS.goto X9.here hx rfl (pc0 := 41) (pc' := 3) rfl (hb hby dqN_41) (by decide) (by decide) ?_
  refine XS.iload X9.here hx rfl (hb hby dqN_3) rfl ?_
  refine XS.iload X9.here hx rfl (hb hby dqN_5) rfl ?_
  refine XS.icmpYes X9.here hx rfl (pc0 := 7) (pc' := 44) rfl (hb hby dqN_7) rfl (flt (by decide)).2.1 (by decide) (by decide) ?_
  refine XS.iload X9.here hx rfl (hb hby dqN_44) rfl ?_
  exact hq)
 have hE := e9
 refine retInt X9 hx hret hlk (by simp) rfl (hb hby dqN_46) k10 ?_ (by decide) (by decide)
 try rw [hE]
 exact ⟨rfl, N9, (((Keep.refl h0 [t]).wr W4 (Or.inl (by simp))).wr W9 (Or.inl (by simp))), V9⟩
theorem rm_c3_2 (l : Launch) (Z : State) (a0 : Array Value) (hw : ∀ d ∈ tables_1, d.before a0 Z = true) (b : Addr) (kb : ClassId) (d0 : Int32) (d1 : Int32) (h0 : Heap) (n0 : Nat) (hn0 : n0 ≤ h0.size) (P0 : Arv Z h0 b kb .char (2 : Int32) [(.int d0), (.int d1)] (.int 0)) (yb : @LT.lt Nat instLTNat b h0.size) (hd0 : ¬ d0 < (0 : Int32) ∧ ¬ (255 : Int32) < d0) (hd1 : ¬ d1 < (0 : Int32) ∧ ¬ (255 : Int32) < d1) :
  Con l Z yqB jdk_52_method_16_code 6 (some (.array .byte)) [] rqB #[(.ref b), (.int 0), (.int 2)] h0 (fun v h L => ∃ (t : Addr) (k : ClassId), v = some (.ref t) ∧ Fr n0 L ∧ h0.size ≤ t ∧ Keep h0 h [] ∧ Arv Z h t k .byte (2 : Int32) [(.int (nar .byte (d0.toInt8.toInt32))), (.int (nar .byte (d1.toInt8.toInt32)))] (.int 0)) := by
 refine enter (Ls := #[(vr b), (vi 0), (vi 2), .unset, .unset, .unset]) (plainFor_of_name pn_0) (fun m => by exact entry_eq rfl) ?_
 intro p e s m below meth cd_ s₁ S0 hx hby hml hret hlk hnm hown hZ X0 e0 k0
 have N0 := Fr.nil n0
 have k1 : AtQ p e below S0 s₁ m 1 #[(vr b), (vi 0), (vi 2), .unset, .unset, .unset] [(.int 2)] := fun tt hq => k0 tt (by
  refine XS.iloadN X0.here hx rfl (hb hby dqM_0) rfl ?_
  exact hq)
 obtain ⟨T2, h2, c2, X2, e2, E2, A2, st2⟩ := newP X0 hx hZ (wq hw 16 rfl) e0 (g := (mkF m 1 #[(vr b), (vi 0), (vi 2), .unset, .unset, .unset] [(.int 2)])) rfl (hb hby dqM_1) rfl (by decide) (cap := 2) (by decide) (by decide) (by decide) (by decide)
 obtain ⟨b2, g2⟩ : ∃ z, z = h0.size := ⟨_, rfl⟩
 rw [← g2] at A2 st2
 have k2 : AtQ p e below S0 T2 m 3 #[(vr b), (vi 0), (vi 2), .unset, .unset, .unset] [(.ref b2)] := fun tt hq => k1 tt (st2 tt hq)
 have z2 : h0.size ≤ h2.size := E2.1
 have V2 : Arv Z h2 b2 c2 .byte (2 : Int32) [(.int 0), (.int 0)] (.int 0) := (Arv.new A2 (by decide)).pad (pad_rep [] (.int 0) 2)
 have y2 : @LT.lt Nat instLTNat b2 h2.size := V2.lt
 have k3 : AtQ p e below S0 T2 m 9 #[(vr b), (vi 0), (vi 2), (vr b2), .unset, .unset] [(.int 2), (.int 0), (.ref b2), (.int 0), (.ref b)] := fun tt hq => k2 tt (by
  refine XS.astoreN X2.here hx rfl (hb hby dqM_3) rfl rfl (l' := #[(vr b), (vi 0), (vi 2), (vr b2), .unset, .unset]) rfl ?_
  refine XS.aloadN X2.here hx rfl (hb hby dqM_4) rfl rfl ?_
  refine XS.iloadN X2.here hx rfl (hb hby dqM_5) rfl ?_
  refine XS.aloadN X2.here hx rfl (hb hby dqM_6) rfl rfl ?_
  refine XS.iconst X2.here hx rfl (hb hby dqM_7) ?_
  refine XS.iloadN X2.here hx rfl (hb hby dqM_8) rfl ?_
  exact hq)
 have f4 : Arv Z h2 b kb .char (2 : Int32) [(.int d0), (.int d1)] (.int 0) := (P0.ext E2)
 obtain ⟨_, T5, L5, X5, ⟨rfl, Nq5, Kq5, V5⟩, k5a⟩ := callS' X2 hx hZ (y := yqA) hown (wq hw 37 rfl) (wq hw 38 rfl) (wq hw 35 rfl) (wq hw 39 rfl) (by decide) (backC (W := 0) (rm_c5_2 l Z a0 hw b kb b2 c2 d0 d1 h2 n0 (by omega) f4 V2 (by omega) (by omega) hd0 hd1) hZ (wq hw 39 rfl) (wq hw 35 rfl) (by decide) (by decide)) e2 (argsL := [(.ref b), (.int 0), (.ref b2), (.int 0), (.int 2)]) (rest := []) rfl rfl pd_0 rfl (by rw [hml]; rfl) (hb hby dqM_9) (Nat.le_of_eq rfl) (by decide) (by decide) k3
 have k5 : AtQ p e below S0 T5 m 12 #[(vr b), (vi 0), (vi 2), (vr b2), .unset, .unset] [(.int 2)] := k5a
 have N5 := N0.app Nq5
 obtain ⟨h5, e5⟩ : ∃ z, T5.heap = z := ⟨_, rfl⟩
 rw [e5] at Kq5 V5
 have z5 : h2.size ≤ h5.size := Kq5.1
 have k6 : AtQ p e below S0 T5 m 58 #[(vr b), (vi 0), (vi 2), (vr b2), (vi 2), .unset] [(.ref b2)] := fun tt hq => k5 tt (by
  refine XS.istore X5.here hx rfl (hb hby dqM_12) rfl (l' := #[(vr b), (vi 0), (vi 2), (vr b2), (vi 2), .unset]) rfl ?_
  refine XS.iload X5.here hx rfl (hb hby dqM_14) rfl ?_
  refine XS.iloadN X5.here hx rfl (hb hby dqM_16) rfl ?_
  refine XS.icmpYes X5.here hx rfl (pc0 := 17) (pc' := 57) rfl (hb hby dqM_17) rfl (teq (by decide)).1 (by decide) (by decide) ?_
  refine XS.aloadN X5.here hx rfl (hb hby dqM_57) rfl rfl ?_
  exact hq)
 have hE := e5
 refine retRef X5 hx hret hlk rfl rfl (hb hby dqM_58) k6 ?_ (by decide) (by decide)
 try rw [hE]
 exact ⟨b2, _, rfl, N5, (by omega), (((Keep.refl h0 []).ext E2).trans Kq5 (allS (Or.inr (by omega)) all0)), V5⟩
theorem rm_c5_3 (l : Launch) (Z : State) (a0 : Array Value) (hw : ∀ d ∈ tables_1, d.before a0 Z = true) (b : Addr) (kb : ClassId) (t : Addr) (kt : ClassId) (d0 : Int32) (d1 : Int32) (d2 : Int32) (h0 : Heap) (n0 : Nat) (hn0 : n0 ≤ h0.size) (P0 : Arv Z h0 b kb .char (3 : Int32) [(.int d0), (.int d1), (.int d2)] (.int 0)) (P1 : Arv Z h0 t kt .byte (3 : Int32) [(.int 0), (.int 0), (.int 0)] (.int 0)) (ga : n0 ≤ t) (nbt : ¬ (@Eq Nat b t)) (hd0 : ¬ d0 < (0 : Int32) ∧ ¬ (255 : Int32) < d0) (hd1 : ¬ d1 < (0 : Int32) ∧ ¬ (255 : Int32) < d1) (hd2 : ¬ d2 < (0 : Int32) ∧ ¬ (255 : Int32) < d2) :
  Con l Z yqA jdk_52_method_21_code 7 (some .int) [] rqA #[(.ref b), (.int 0), (.ref t), (.int 0), (.int 3)] h0 (fun v h L => v = some (.int 3) ∧ Fr n0 L ∧ Keep h0 h [t] ∧ Arv Z h t kt .byte (3 : Int32) [(.int (nar .byte (d0.toInt8.toInt32))), (.int (nar .byte (d1.toInt8.toInt32))), (.int (nar .byte (d2.toInt8.toInt32)))] (.int 0)) := by
 refine enter (Ls := #[(vr b), (vi 0), (vr t), (vi 0), (vi 3), .unset, .unset]) (plainFor_of_name pn_0) (fun m => by exact entry_eq rfl) ?_
 intro p e s m below meth cd_ s₁ S0 hx hby hml hret hlk hnm hown hZ X0 e0 k0
 have N0 := Fr.nil n0
 have k1 : AtQ p e below S0 s₁ m 12 #[(vr b), (vi 0), (vr t), (vi 0), (vi 3), (vi 0), .unset] [(.int 0), (.ref b)] := fun tt hq => k0 tt (by
  refine XS.iconst X0.here hx rfl (hb hby dqN_0) ?_
  refine XS.istore X0.here hx rfl (hb hby dqN_1) rfl (l' := #[(vr b), (vi 0), (vr t), (vi 0), (vi 3), (vi 0), .unset]) rfl ?_
  refine XS.iload X0.here hx rfl (hb hby dqN_3) rfl ?_
  refine XS.iload X0.here hx rfl (hb hby dqN_5) rfl ?_
  refine XS.icmpNo X0.here hx rfl (hb hby dqN_7) rfl (tlt (by decide)).2.1 ?_
  refine XS.aloadN X0.here hx rfl (hb hby dqN_10) rfl rfl ?_
  refine XS.iloadN X0.here hx rfl (hb hby dqN_11) rfl ?_
  exact hq)
 obtain ⟨cl2, Ar2, -, S2, -, G2, -⟩ := id P0
 have hi2 := inb_of (j := (0 : Int32)) S2 ⟨by decide, by decide⟩
 have st2 := fun tt => X0.caload hx (j := (0 : Int32)) (v := (.int d0)) (by rw [e0]; exact Ar2.1) (State.isArrayOf_alike hZ.alike Ar2.2.1) Ar2.2.2 hi2 (G2.at hi2 rfl) (g := (mkF m 12 #[(vr b), (vi 0), (vr t), (vi 0), (vi 3), (vi 0), .unset] [(.int 0), (.ref b)])) rfl rfl (hb hby dqN_12) tt
 have k2 : AtQ p e below S0 s₁ m 13 #[(vr b), (vi 0), (vr t), (vi 0), (vi 3), (vi 0), .unset] [(.int d0)] := fun tt hq => k1 tt (st2 tt hq)
 have k3 : AtQ p e below S0 s₁ m 31 #[(vr b), (vi 0), (vr t), (vi 0), (vi 3), (vi 0), (vi d0)] [(.int (d0.toInt8.toInt32)), (.int 0), (.ref t)] := fun tt hq => k2 tt (by
  refine XS.istore X0.here hx rfl (hb hby dqN_13) rfl (l' := #[(vr b), (vi 0), (vr t), (vi 0), (vi 3), (vi 0), (vi d0)]) rfl ?_
  refine XS.iload X0.here hx rfl (hb hby dqN_15) rfl ?_
  refine XS.sipush X0.here hx rfl (hb hby dqN_17) ?_
  refine XS.icmpYes X0.here hx rfl (pc0 := 20) (pc' := 26) rfl (hb hby dqN_20) rfl (flt hd0.2).2.2.2 (by decide) (by decide) ?_
  refine XS.aloadN X0.here hx rfl (hb hby dqN_26) rfl rfl ?_
  refine XS.iloadN X0.here hx rfl (hb hby dqN_27) rfl ?_
  refine XS.iload X0.here hx rfl (hb hby dqN_28) rfl ?_
  refine XS.i2b X0.here hx rfl (hb hby dqN_30) rfl ?_
  exact hq)
 obtain ⟨cl4, Ar4, q4, S4, M4, G4, J4⟩ := id P1
 obtain ⟨T4, h4, X4, e4, W4, st4⟩ := stB X0 hx hZ e0 Ar4 (j := (0 : Int32)) (inb_of S4 (⟨by decide, by decide⟩)) (g := (mkF m 31 #[(vr b), (vi 0), (vr t), (vi 0), (vi 3), (vi 0), (vi d0)] [(.int (d0.toInt8.toInt32)), (.int 0), (.ref t)])) rfl rfl (hb hby dqN_31)
 have k4 : AtQ p e below S0 T4 m 32 #[(vr b), (vi 0), (vr t), (vi 0), (vi 3), (vi 0), (vi d0)] [] := fun tt hq => k3 tt (st4 tt hq)
 have z4 : h4.size = h0.size := W4.size
 have V4 : Arv Z h4 t kt .byte (3 : Int32) [(.int (nar .byte (d0.toInt8.toInt32))), (.int 0), (.int 0)] (.int 0) := Arv.set Ar4 q4 S4 M4 G4 J4 (fits_nar_byte _) W4 0 rfl (Nat.le_of_ble_eq_true rfl)
 have N4 := Fr.snoc X4 N0 (by omega : n0 ≤ t)
 have f5 : Arv Z h4 b kb .char (3 : Int32) [(.int d0), (.int d1), (.int d2)] (.int 0) := (P0.other W4 (adr_ne (by omega)))
 have k6 : AtQ p e below S0 T4 m 12 #[(vr b), (vi 1), (vr t), (vi 1), (vi 3), (vi 1), (vi d0)] [(.int 1), (.ref b)] := fun tt hq => k4 tt (by
  refine XS.iinc X4.here hx rfl (hb hby dqN_32) rfl (l' := #[(vr b), (vi 1), (vr t), (vi 0), (vi 3), (vi 0), (vi d0)]) rfl ?_
  refine XS.iinc X4.here hx rfl (hb hby dqN_35) rfl (l' := #[(vr b), (vi 1), (vr t), (vi 1), (vi 3), (vi 0), (vi d0)]) rfl ?_
  refine XS.iinc X4.here hx rfl (hb hby dqN_38) rfl (l' := #[(vr b), (vi 1), (vr t), (vi 1), (vi 3), (vi 1), (vi d0)]) rfl ?_
  refine XS.goto X4.here hx rfl (pc0 := 41) (pc' := 3) rfl (hb hby dqN_41) (by decide) (by decide) ?_
  refine XS.iload X4.here hx rfl (hb hby dqN_3) rfl ?_
  refine XS.iload X4.here hx rfl (hb hby dqN_5) rfl ?_
  refine XS.icmpNo X4.here hx rfl (hb hby dqN_7) rfl (tlt (by decide)).2.1 ?_
  refine XS.aloadN X4.here hx rfl (hb hby dqN_10) rfl rfl ?_
  refine XS.iloadN X4.here hx rfl (hb hby dqN_11) rfl ?_
  exact hq)
 obtain ⟨cl7, Ar7, -, S7, -, G7, -⟩ := id f5
 have hi7 := inb_of (j := (1 : Int32)) S7 ⟨by decide, by decide⟩
 have st7 := fun tt => X4.caload hx (j := (1 : Int32)) (v := (.int d1)) (by rw [e4]; exact Ar7.1) (State.isArrayOf_alike hZ.alike Ar7.2.1) Ar7.2.2 hi7 (G7.at hi7 rfl) (g := (mkF m 12 #[(vr b), (vi 1), (vr t), (vi 1), (vi 3), (vi 1), (vi d0)] [(.int 1), (.ref b)])) rfl rfl (hb hby dqN_12) tt
 have k7 : AtQ p e below S0 T4 m 13 #[(vr b), (vi 1), (vr t), (vi 1), (vi 3), (vi 1), (vi d0)] [(.int d1)] := fun tt hq => k6 tt (st7 tt hq)
 have k8 : AtQ p e below S0 T4 m 31 #[(vr b), (vi 1), (vr t), (vi 1), (vi 3), (vi 1), (vi d1)] [(.int (d1.toInt8.toInt32)), (.int 1), (.ref t)] := fun tt hq => k7 tt (by
  refine XS.istore X4.here hx rfl (hb hby dqN_13) rfl (l' := #[(vr b), (vi 1), (vr t), (vi 1), (vi 3), (vi 1), (vi d1)]) rfl ?_
  refine XS.iload X4.here hx rfl (hb hby dqN_15) rfl ?_
  refine XS.sipush X4.here hx rfl (hb hby dqN_17) ?_
  refine XS.icmpYes X4.here hx rfl (pc0 := 20) (pc' := 26) rfl (hb hby dqN_20) rfl (flt hd1.2).2.2.2 (by decide) (by decide) ?_
  refine XS.aloadN X4.here hx rfl (hb hby dqN_26) rfl rfl ?_
  refine XS.iloadN X4.here hx rfl (hb hby dqN_27) rfl ?_
  refine XS.iload X4.here hx rfl (hb hby dqN_28) rfl ?_
  refine XS.i2b X4.here hx rfl (hb hby dqN_30) rfl ?_
  exact hq)
 obtain ⟨cl9, Ar9, q9, S9, M9, G9, J9⟩ := id V4
 obtain ⟨T9, h9, X9, e9, W9, st9⟩ := stB X4 hx hZ e4 Ar9 (j := (1 : Int32)) (inb_of S9 (⟨by decide, by decide⟩)) (g := (mkF m 31 #[(vr b), (vi 1), (vr t), (vi 1), (vi 3), (vi 1), (vi d1)] [(.int (d1.toInt8.toInt32)), (.int 1), (.ref t)])) rfl rfl (hb hby dqN_31)
 have k9 : AtQ p e below S0 T9 m 32 #[(vr b), (vi 1), (vr t), (vi 1), (vi 3), (vi 1), (vi d1)] [] := fun tt hq => k8 tt (st9 tt hq)
 have z9 : h9.size = h4.size := W9.size
 have V9 : Arv Z h9 t kt .byte (3 : Int32) [(.int (nar .byte (d0.toInt8.toInt32))), (.int (nar .byte (d1.toInt8.toInt32))), (.int 0)] (.int 0) := Arv.set Ar9 q9 S9 M9 G9 J9 (fits_nar_byte _) W9 1 rfl (Nat.le_of_ble_eq_true rfl)
 have N9 := Fr.snoc X9 N4 (by omega : n0 ≤ t)
 have f10 : Arv Z h9 b kb .char (3 : Int32) [(.int d0), (.int d1), (.int d2)] (.int 0) := (f5.other W9 (adr_ne (by omega)))
 have k11 : AtQ p e below S0 T9 m 12 #[(vr b), (vi 2), (vr t), (vi 2), (vi 3), (vi 2), (vi d1)] [(.int 2), (.ref b)] := fun tt hq => k9 tt (by
  refine XS.iinc X9.here hx rfl (hb hby dqN_32) rfl (l' := #[(vr b), (vi 2), (vr t), (vi 1), (vi 3), (vi 1), (vi d1)]) rfl ?_
  refine XS.iinc X9.here hx rfl (hb hby dqN_35) rfl (l' := #[(vr b), (vi 2), (vr t), (vi 2), (vi 3), (vi 1), (vi d1)]) rfl ?_
  refine XS.iinc X9.here hx rfl (hb hby dqN_38) rfl (l' := #[(vr b), (vi 2), (vr t), (vi 2), (vi 3), (vi 2), (vi d1)]) rfl ?_
  refine XS.goto X9.here hx rfl (pc0 := 41) (pc' := 3) rfl (hb hby dqN_41) (by decide) (by decide) ?_
  refine XS.iload X9.here hx rfl (hb hby dqN_3) rfl ?_
  refine XS.iload X9.here hx rfl (hb hby dqN_5) rfl ?_
  refine XS.icmpNo X9.here hx rfl (hb hby dqN_7) rfl (tlt (by decide)).2.1 ?_
  refine XS.aloadN X9.here hx rfl (hb hby dqN_10) rfl rfl ?_
  refine XS.iloadN X9.here hx rfl (hb hby dqN_11) rfl ?_
  exact hq)
 obtain ⟨cl12, Ar12, -, S12, -, G12, -⟩ := id f10
 have hi12 := inb_of (j := (2 : Int32)) S12 ⟨by decide, by decide⟩
 have st12 := fun tt => X9.caload hx (j := (2 : Int32)) (v := (.int d2)) (by rw [e9]; exact Ar12.1) (State.isArrayOf_alike hZ.alike Ar12.2.1) Ar12.2.2 hi12 (G12.at hi12 rfl) (g := (mkF m 12 #[(vr b), (vi 2), (vr t), (vi 2), (vi 3), (vi 2), (vi d1)] [(.int 2), (.ref b)])) rfl rfl (hb hby dqN_12) tt
 have k12 : AtQ p e below S0 T9 m 13 #[(vr b), (vi 2), (vr t), (vi 2), (vi 3), (vi 2), (vi d1)] [(.int d2)] := fun tt hq => k11 tt (st12 tt hq)
 have k13 : AtQ p e below S0 T9 m 31 #[(vr b), (vi 2), (vr t), (vi 2), (vi 3), (vi 2), (vi d2)] [(.int (d2.toInt8.toInt32)), (.int 2), (.ref t)] := fun tt hq => k12 tt (by
  refine XS.istore X9.here hx rfl (hb hby dqN_13) rfl (l' := #[(vr b), (vi 2), (vr t), (vi 2), (vi 3), (vi 2), (vi d2)]) rfl ?_
  refine XS.iload X9.here hx rfl (hb hby dqN_15) rfl ?_
  refine XS.sipush X9.here hx rfl (hb hby dqN_17) ?_
  refine XS.icmpYes X9.here hx rfl (pc0 := 20) (pc' := 26) rfl (hb hby dqN_20) rfl (flt hd2.2).2.2.2 (by decide) (by decide) ?_
  refine XS.aloadN X9.here hx rfl (hb hby dqN_26) rfl rfl ?_
  refine XS.iloadN X9.here hx rfl (hb hby dqN_27) rfl ?_
  refine XS.iload X9.here hx rfl (hb hby dqN_28) rfl ?_
  refine XS.i2b X9.here hx rfl (hb hby dqN_30) rfl ?_
  exact hq)
 obtain ⟨cl14, Ar14, q14, S14, M14, G14, J14⟩ := id V9
 obtain ⟨T14, h14, X14, e14, W14, st14⟩ := stB X9 hx hZ e9 Ar14 (j := (2 : Int32)) (inb_of S14 (⟨by decide, by decide⟩)) (g := (mkF m 31 #[(vr b), (vi 2), (vr t), (vi 2), (vi 3), (vi 2), (vi d2)] [(.int (d2.toInt8.toInt32)), (.int 2), (.ref t)])) rfl rfl (hb hby dqN_31)
 have k14 : AtQ p e below S0 T14 m 32 #[(vr b), (vi 2), (vr t), (vi 2), (vi 3), (vi 2), (vi d2)] [] := fun tt hq => k13 tt (st14 tt hq)
 have z14 : h14.size = h9.size := W14.size
 have V14 : Arv Z h14 t kt .byte (3 : Int32) [(.int (nar .byte (d0.toInt8.toInt32))), (.int (nar .byte (d1.toInt8.toInt32))), (.int (nar .byte (d2.toInt8.toInt32)))] (.int 0) := Arv.set Ar14 q14 S14 M14 G14 J14 (fits_nar_byte _) W14 2 rfl (Nat.le_of_ble_eq_true rfl)
 have N14 := Fr.snoc X14 N9 (by omega : n0 ≤ t)
 have k15 : AtQ p e below S0 T14 m 46 #[(vr b), (vi 3), (vr t), (vi 3), (vi 3), (vi 3), (vi d2)] [(.int 3)] := fun tt hq => k14 tt (by
  refine XS.iinc X14.here hx rfl (hb hby dqN_32) rfl (l' := #[(vr b), (vi 3), (vr t), (vi 2), (vi 3), (vi 2), (vi d2)]) rfl ?_
  refine XS.iinc X14.here hx rfl (hb hby dqN_35) rfl (l' := #[(vr b), (vi 3), (vr t), (vi 3), (vi 3), (vi 2), (vi d2)]) rfl ?_
  refine XS.iinc X14.here hx rfl (hb hby dqN_38) rfl (l' := #[(vr b), (vi 3), (vr t), (vi 3), (vi 3), (vi 3), (vi d2)]) rfl ?_
  refine XS.goto X14.here hx rfl (pc0 := 41) (pc' := 3) rfl (hb hby dqN_41) (by decide) (by decide) ?_
  refine XS.iload X14.here hx rfl (hb hby dqN_3) rfl ?_
  refine XS.iload X14.here hx rfl (hb hby dqN_5) rfl ?_
  refine XS.icmpYes X14.here hx rfl (pc0 := 7) (pc' := 44) rfl (hb hby dqN_7) rfl (flt (by decide)).2.1 (by decide) (by decide) ?_
  refine XS.iload X14.here hx rfl (hb hby dqN_44) rfl ?_
  exact hq)
 have hE := e14
 refine retInt X14 hx hret hlk (by simp) rfl (hb hby dqN_46) k15 ?_ (by decide) (by decide)
 try rw [hE]
 exact ⟨rfl, N14, ((((Keep.refl h0 [t]).wr W4 (Or.inl (by simp))).wr W9 (Or.inl (by simp))).wr W14 (Or.inl (by simp))), V14⟩
theorem rm_c3_3 (l : Launch) (Z : State) (a0 : Array Value) (hw : ∀ d ∈ tables_1, d.before a0 Z = true) (b : Addr) (kb : ClassId) (d0 : Int32) (d1 : Int32) (d2 : Int32) (h0 : Heap) (n0 : Nat) (hn0 : n0 ≤ h0.size) (P0 : Arv Z h0 b kb .char (3 : Int32) [(.int d0), (.int d1), (.int d2)] (.int 0)) (yb : @LT.lt Nat instLTNat b h0.size) (hd0 : ¬ d0 < (0 : Int32) ∧ ¬ (255 : Int32) < d0) (hd1 : ¬ d1 < (0 : Int32) ∧ ¬ (255 : Int32) < d1) (hd2 : ¬ d2 < (0 : Int32) ∧ ¬ (255 : Int32) < d2) :
  Con l Z yqB jdk_52_method_16_code 6 (some (.array .byte)) [] rqB #[(.ref b), (.int 0), (.int 3)] h0 (fun v h L => ∃ (t : Addr) (k : ClassId), v = some (.ref t) ∧ Fr n0 L ∧ h0.size ≤ t ∧ Keep h0 h [] ∧ Arv Z h t k .byte (3 : Int32) [(.int (nar .byte (d0.toInt8.toInt32))), (.int (nar .byte (d1.toInt8.toInt32))), (.int (nar .byte (d2.toInt8.toInt32)))] (.int 0)) := by
 refine enter (Ls := #[(vr b), (vi 0), (vi 3), .unset, .unset, .unset]) (plainFor_of_name pn_0) (fun m => by exact entry_eq rfl) ?_
 intro p e s m below meth cd_ s₁ S0 hx hby hml hret hlk hnm hown hZ X0 e0 k0
 have N0 := Fr.nil n0
 have k1 : AtQ p e below S0 s₁ m 1 #[(vr b), (vi 0), (vi 3), .unset, .unset, .unset] [(.int 3)] := fun tt hq => k0 tt (by
  refine XS.iloadN X0.here hx rfl (hb hby dqM_0) rfl ?_
  exact hq)
 obtain ⟨T2, h2, c2, X2, e2, E2, A2, st2⟩ := newP X0 hx hZ (wq hw 16 rfl) e0 (g := (mkF m 1 #[(vr b), (vi 0), (vi 3), .unset, .unset, .unset] [(.int 3)])) rfl (hb hby dqM_1) rfl (by decide) (cap := 3) (by decide) (by decide) (by decide) (by decide)
 obtain ⟨b2, g2⟩ : ∃ z, z = h0.size := ⟨_, rfl⟩
 rw [← g2] at A2 st2
 have k2 : AtQ p e below S0 T2 m 3 #[(vr b), (vi 0), (vi 3), .unset, .unset, .unset] [(.ref b2)] := fun tt hq => k1 tt (st2 tt hq)
 have z2 : h0.size ≤ h2.size := E2.1
 have V2 : Arv Z h2 b2 c2 .byte (3 : Int32) [(.int 0), (.int 0), (.int 0)] (.int 0) := (Arv.new A2 (by decide)).pad (pad_rep [] (.int 0) 3)
 have y2 : @LT.lt Nat instLTNat b2 h2.size := V2.lt
 have k3 : AtQ p e below S0 T2 m 9 #[(vr b), (vi 0), (vi 3), (vr b2), .unset, .unset] [(.int 3), (.int 0), (.ref b2), (.int 0), (.ref b)] := fun tt hq => k2 tt (by
  refine XS.astoreN X2.here hx rfl (hb hby dqM_3) rfl rfl (l' := #[(vr b), (vi 0), (vi 3), (vr b2), .unset, .unset]) rfl ?_
  refine XS.aloadN X2.here hx rfl (hb hby dqM_4) rfl rfl ?_
  refine XS.iloadN X2.here hx rfl (hb hby dqM_5) rfl ?_
  refine XS.aloadN X2.here hx rfl (hb hby dqM_6) rfl rfl ?_
  refine XS.iconst X2.here hx rfl (hb hby dqM_7) ?_
  refine XS.iloadN X2.here hx rfl (hb hby dqM_8) rfl ?_
  exact hq)
 have f4 : Arv Z h2 b kb .char (3 : Int32) [(.int d0), (.int d1), (.int d2)] (.int 0) := (P0.ext E2)
 obtain ⟨_, T5, L5, X5, ⟨rfl, Nq5, Kq5, V5⟩, k5a⟩ := callS' X2 hx hZ (y := yqA) hown (wq hw 37 rfl) (wq hw 38 rfl) (wq hw 35 rfl) (wq hw 39 rfl) (by decide) (backC (W := 0) (rm_c5_3 l Z a0 hw b kb b2 c2 d0 d1 d2 h2 n0 (by omega) f4 V2 (by omega) (by omega) hd0 hd1 hd2) hZ (wq hw 39 rfl) (wq hw 35 rfl) (by decide) (by decide)) e2 (argsL := [(.ref b), (.int 0), (.ref b2), (.int 0), (.int 3)]) (rest := []) rfl rfl pd_0 rfl (by rw [hml]; rfl) (hb hby dqM_9) (Nat.le_of_eq rfl) (by decide) (by decide) k3
 have k5 : AtQ p e below S0 T5 m 12 #[(vr b), (vi 0), (vi 3), (vr b2), .unset, .unset] [(.int 3)] := k5a
 have N5 := N0.app Nq5
 obtain ⟨h5, e5⟩ : ∃ z, T5.heap = z := ⟨_, rfl⟩
 rw [e5] at Kq5 V5
 have z5 : h2.size ≤ h5.size := Kq5.1
 have k6 : AtQ p e below S0 T5 m 58 #[(vr b), (vi 0), (vi 3), (vr b2), (vi 3), .unset] [(.ref b2)] := fun tt hq => k5 tt (by
  refine XS.istore X5.here hx rfl (hb hby dqM_12) rfl (l' := #[(vr b), (vi 0), (vi 3), (vr b2), (vi 3), .unset]) rfl ?_
  refine XS.iload X5.here hx rfl (hb hby dqM_14) rfl ?_
  refine XS.iloadN X5.here hx rfl (hb hby dqM_16) rfl ?_
  refine XS.icmpYes X5.here hx rfl (pc0 := 17) (pc' := 57) rfl (hb hby dqM_17) rfl (teq (by decide)).1 (by decide) (by decide) ?_
  refine XS.aloadN X5.here hx rfl (hb hby dqM_57) rfl rfl ?_
  exact hq)
 have hE := e5
 refine retRef X5 hx hret hlk rfl rfl (hb hby dqM_58) k6 ?_ (by decide) (by decide)
 try rw [hE]
 exact ⟨b2, _, rfl, N5, (by omega), (((Keep.refl h0 []).ext E2).trans Kq5 (allS (Or.inr (by omega)) all0)), V5⟩
theorem dqD_0 : decode jdk_42_method_149_code 0 = .ok (.aload_n 0, 1) := by decide +kernel
theorem dqD_1 : decode jdk_42_method_149_code 1 = .ok (.invokespecial 1, 3) := by decide +kernel
theorem dqD_4 : decode jdk_42_method_149_code 4 = .ok (.iload_n 3, 1) := by decide +kernel
theorem dqD_5 : decode jdk_42_method_149_code 5 = .ok (.ifCond .ne 22, 3) := by decide +kernel
theorem dqD_8 : decode jdk_42_method_149_code 8 = .ok (.aload_n 0, 1) := by decide +kernel
theorem dqD_9 : decode jdk_42_method_149_code 9 = .ok (.ldc 7, 2) := by decide +kernel
theorem dqD_11 : decode jdk_42_method_149_code 11 = .ok (.getfield 9, 3) := by decide +kernel
theorem dqD_14 : decode jdk_42_method_149_code 14 = .ok (.putfield 9, 3) := by decide +kernel
theorem dqD_17 : decode jdk_42_method_149_code 17 = .ok (.aload_n 0, 1) := by decide +kernel
theorem dqD_18 : decode jdk_42_method_149_code 18 = .ok (.ldc 7, 2) := by decide +kernel
theorem dqD_20 : decode jdk_42_method_149_code 20 = .ok (.getfield 15, 3) := by decide +kernel
theorem dqD_23 : decode jdk_42_method_149_code 23 = .ok (.putfield 15, 3) := by decide +kernel
theorem dqD_26 : decode jdk_42_method_149_code 26 = .ok (.return_, 1) := by decide +kernel
theorem dqD_27 : decode jdk_42_method_149_code 27 = .ok (.getstatic 38, 3) := by decide +kernel
theorem dqD_30 : decode jdk_42_method_149_code 30 = .ok (.ifCond .eq 28, 3) := by decide +kernel
theorem dqD_33 : decode jdk_42_method_149_code 33 = .ok (.aload_n 1, 1) := by decide +kernel
theorem dqD_34 : decode jdk_42_method_149_code 34 = .ok (.iload_n 2, 1) := by decide +kernel
theorem dqD_35 : decode jdk_42_method_149_code 35 = .ok (.iload_n 3, 1) := by decide +kernel
theorem dqD_36 : decode jdk_42_method_149_code 36 = .ok (.invokestatic 177, 3) := by decide +kernel
theorem dqD_39 : decode jdk_42_method_149_code 39 = .ok (.astore 5, 2) := by decide +kernel
theorem dqD_41 : decode jdk_42_method_149_code 41 = .ok (.aload_n 0, 1) := by decide +kernel
theorem dqD_42 : decode jdk_42_method_149_code 42 = .ok (.aload 5, 2) := by decide +kernel
theorem dqD_44 : decode jdk_42_method_149_code 44 = .ok (.iload_n 3, 1) := by decide +kernel
theorem dqD_45 : decode jdk_42_method_149_code 45 = .ok (.invokestatic 47, 3) := by decide +kernel
theorem dqD_48 : decode jdk_42_method_149_code 48 = .ok (.putfield 15, 3) := by decide +kernel
theorem dqD_51 : decode jdk_42_method_149_code 51 = .ok (.aload_n 0, 1) := by decide +kernel
theorem dqD_52 : decode jdk_42_method_149_code 52 = .ok (.aload 5, 2) := by decide +kernel
theorem dqD_54 : decode jdk_42_method_149_code 54 = .ok (.putfield 9, 3) := by decide +kernel
theorem dqD_57 : decode jdk_42_method_149_code 57 = .ok (.return_, 1) := by decide +kernel
theorem dqD_58 : decode jdk_42_method_149_code 58 = .ok (.aload_n 0, 1) := by decide +kernel
theorem dqD_59 : decode jdk_42_method_149_code 59 = .ok (.iconst 1, 1) := by decide +kernel
theorem dqD_60 : decode jdk_42_method_149_code 60 = .ok (.putfield 15, 3) := by decide +kernel
theorem dqD_63 : decode jdk_42_method_149_code 63 = .ok (.aload_n 0, 1) := by decide +kernel
theorem dqD_64 : decode jdk_42_method_149_code 64 = .ok (.aload_n 1, 1) := by decide +kernel
theorem dqD_65 : decode jdk_42_method_149_code 65 = .ok (.iload_n 2, 1) := by decide +kernel
theorem dqD_66 : decode jdk_42_method_149_code 66 = .ok (.iload_n 3, 1) := by decide +kernel
theorem dqD_67 : decode jdk_42_method_149_code 67 = .ok (.invokestatic 180, 3) := by decide +kernel
theorem dqD_70 : decode jdk_42_method_149_code 70 = .ok (.putfield 9, 3) := by decide +kernel
theorem dqD_73 : decode jdk_42_method_149_code 73 = .ok (.return_, 1) := by decide +kernel
theorem pn_1 : plainName "java/lang/String" = true := by first | (simp [plainName, overriddenIn]; done) | decide +kernel
theorem rm_n4_0 (l : Launch) (Z : State) (a0 : Array Value) (hw : ∀ d ∈ tables_1, d.before a0 Z = true) (a : Addr) (b : Addr) (kb : ClassId) (u1 : Value) (u2 : Value) (h0 : Heap) (n0 : Nat) (hn0 : n0 ≤ h0.size) (E0 : Exa Z h0 a "java/lang/String") (F1 : FqA Z h0 a u1) (F2 : FqB Z h0 a u2) (P0 : Arv Z h0 b kb .char (0 : Int32) [] (.int 0)) (ga : n0 ≤ a) (ya : @LT.lt Nat instLTNat a h0.size) :
  ConW l Z own_EL yqC jdk_42_method_149_code 6 none [] rqC #[(.ref a), (.ref b), (.int 0), (.int 0), .null] h0 [a] (fun v h L => v = none ∧ Fr n0 L ∧ Keep h0 h [a] ∧ ∃ (t : Addr) (k : ClassId), (@LT.lt Nat instLTNat t h.size) ∧ Exa Z h a "java/lang/String" ∧ FqA Z h a (.ref t) ∧ FqB Z h a (.int 0) ∧ Arv Z h t k .byte (0 : Int32) [] (.int 0)) := by
 refine enterW (Ls := #[(vr a), (vr b), (vi 0), (vi 0), .val .null, .unset]) (plainFor_of_name pn_1) (fun m => by exact entry_eq rfl) ?_
 intro p e s m below meth cd_ s₁ S0 vm0 hx hby hml hret hlk hnm hown hZ X0 e0 k0 C0 hsf hS0
 have N0 := Fr.nil n0
 have Sf_a : Safe Z own_EL vm0 h0 a := hsf _ (List.mem_of_getElem? (i := 0) rfl)
 have k1 : AtQ p e below S0 s₁ m 1 #[(vr a), (vr b), (vi 0), (vi 0), .val .null, .unset] [(.ref a)] := fun tt hq => k0 tt (by
  refine XS.aloadN X0.here hx rfl (hb hby dqD_0) rfl rfl ?_
  exact hq)
 obtain ⟨T2, X2, e2, st2⟩ := initO X0 hx hZ hown (wq hw 29 rfl) (wq hw 30 rfl) (wq hw 31 rfl) e0 (g := (mkF m 1 #[(vr a), (vr b), (vi 0), (vi 0), .val .null, .unset] [(.ref a)])) rfl (by rw [hml]; rfl) rfl (hb hby dqD_1) (by decide) (W := 0) (by show 2 * 0 + _ ≤ _; exact Nat.le_of_eq rfl) (by decide)
 have k2 : AtQ p e below S0 T2 m 4 #[(vr a), (vr b), (vi 0), (vi 0), .val .null, .unset] [] := fun tt hq => k1 tt (st2 tt hq)
 have k3 : AtQ p e below S0 T2 m 9 #[(vr a), (vr b), (vi 0), (vi 0), .val .null, .unset] [(.ref a)] := fun tt hq => k2 tt (by
  refine XS.iloadN X2.here hx rfl (hb hby dqD_4) rfl ?_
  refine XS.ifNo X2.here hx rfl (hb hby dqD_5) rfl ((if0 _ _).trans (teq (by decide)).2) ?_
  refine XS.aloadN X2.here hx rfl (hb hby dqD_8) rfl rfl ?_
  exact hq)
 obtain ⟨a4, T4, h4, kk4, b4, c4, X4, e4, E4, hS4, hk4, hZ4a, hown4a, A4, Fc4, Fv4, V4, ya4, yb4, Cq4, -, hne4, st4⟩ := ldcCH X2 hx hZ hown (wq hw 158 rfl) (own_wS hw) e2 hS0 (by omega) (own_EW hw) (List.mem_of_getElem? (i := 1) rfl) C0.1 (vs := []) (z := (0 : Int32)) ⟨by decide, by decide⟩ (by decide) (by decide) (g := (mkF m 9 #[(vr a), (vr b), (vi 0), (vi 0), .val .null, .unset] [(.ref a)])) rfl (hb hby dqD_9) (n := 0) (by decide) (by decide) (by decide) (by decide)
 have k4 : AtQ p e below S0 T4 m 11 #[(vr a), (vr b), (vi 0), (vi 0), .val .null, .unset] [(.ref a4), (.ref a)] := fun tt hq => k3 tt (st4 tt hq)
 have hZ4 : Z.Warmed39 T4.vm := hZ4a
 have hown4 : T4.vm.findClass "java/lang/String" = some m.cls := hown4a
 have z4 : h0.size ≤ h4.size := E4.1
 have C4 := C0.trans Cq4
 have f5 : Safe Z own_EL T4.vm h4 a := (Cq4.safe (adr_lt (by omega)) Sf_a)
 have nx4_a : ¬ (@Eq Nat a a4) ∧ ¬ (@Eq Nat a b4) := hne4 a f5
 obtain ⟨T6, X6, e6, st6⟩ := getF X4 hx hZ4 hown4 (host := "") (Or.inl (wq hw 63 rfl)) Via.refl e4 Fv4 (g := (mkF m 11 #[(vr a), (vr b), (vi 0), (vi 0), .val .null, .unset] [(.ref a4), (.ref a)])) rfl rfl (hb hby dqD_11)
 have k6 : AtQ p e below S0 T6 m 14 #[(vr a), (vr b), (vi 0), (vi 0), .val .null, .unset] [(.ref b4), (.ref a)] := fun tt hq => k4 tt (st6 tt hq)
 have f7 : Exa Z h4 a "java/lang/String" := (E0.ext E4)
 have f8 : FqA Z h4 a u1 := (F1.ext E4)
 obtain ⟨T9, h9, X9, e9, W9, st9⟩ := putF X6 hx hZ4 hown4 (host := "") (Or.inl (wq hw 63 rfl)) Via.refl e6 f8 f7 (Or.inr ⟨(wq hw 17 rfl), rfl, hnm⟩) (wq hw 15 rfl) (ty := (.array .byte)) (by decide) rfl rfl (g := (mkF m 14 #[(vr a), (vr b), (vi 0), (vi 0), .val .null, .unset] [(.ref b4), (.ref a)])) rfl rfl (hb hby dqD_14)
 have k9 : AtQ p e below S0 T9 m 17 #[(vr a), (vr b), (vi 0), (vi 0), .val .null, .unset] [] := fun tt hq => k6 tt (st9 tt hq)
 have z9 : h9.size = h4.size := W9.size
 have F9 := f8.same W9
 have N9 := Fr.snoc X9 N0 (by omega : n0 ≤ a)
 have C9 := C4.trans (CHr.wr W9 f5 C4.1)
 have k10 : AtQ p e below S0 T9 m 18 #[(vr a), (vr b), (vi 0), (vi 0), .val .null, .unset] [(.ref a)] := fun tt hq => k9 tt (by
  refine XS.aloadN X9.here hx rfl (hb hby dqD_17) rfl rfl ?_
  exact hq)
 obtain ⟨a11, T11, h11, kk11, b11, c11, X11, e11, E11, hS11, hk11, hZ11a, hown11a, A11, Fc11, Fv11, V11, ya11, yb11, Cq11, -, hne11, st11⟩ := ldcCH X9 hx hZ4 hown4 (wq hw 158 rfl) (own_wS hw) e9 hS4 (by omega) (own_EW hw) (List.mem_of_getElem? (i := 1) rfl) C9.1 (vs := []) (z := (0 : Int32)) ⟨by decide, by decide⟩ (by decide) (by decide) (g := (mkF m 18 #[(vr a), (vr b), (vi 0), (vi 0), .val .null, .unset] [(.ref a)])) rfl (hb hby dqD_18) (n := 0) (by decide) (by decide) (by decide) (by decide)
 have k11 : AtQ p e below S0 T11 m 20 #[(vr a), (vr b), (vi 0), (vi 0), .val .null, .unset] [(.ref a11), (.ref a)] := fun tt hq => k10 tt (st11 tt hq)
 have hZ11 : Z.Warmed39 T11.vm := hZ11a
 have hown11 : T11.vm.findClass "java/lang/String" = some m.cls := hown11a
 have z11 : h9.size ≤ h11.size := E11.1
 have C11 := C9.trans Cq11
 have f12 : Safe Z own_EL T11.vm h11 a := (Cq11.safe (adr_lt (by omega)) (Safe.wr W9 f5 C4.1 f5))
 have nx11_a : ¬ (@Eq Nat a a11) ∧ ¬ (@Eq Nat a b11) := hne11 a f12
 obtain ⟨T13, X13, e13, st13⟩ := getF X11 hx hZ11 hown11 (host := "") (Or.inl (wq hw 62 rfl)) Via.refl e11 Fc11 (g := (mkF m 20 #[(vr a), (vr b), (vi 0), (vi 0), .val .null, .unset] [(.ref a11), (.ref a)])) rfl rfl (hb hby dqD_20)
 have k13 : AtQ p e below S0 T13 m 23 #[(vr a), (vr b), (vi 0), (vi 0), .val .null, .unset] [(.int 0), (.ref a)] := fun tt hq => k11 tt (st13 tt hq)
 have f14 : Exa Z h11 a "java/lang/String" := ((f7.wr W9).ext E11)
 have f15 : FqB Z h11 a u2 := (((F2.ext E4).other W9 (Or.inr (slot_ne (Or.inr (wq hw 18 rfl)) (Or.inr (wq hw 17 rfl)) (by decide) (t := .byte) (t' := (.array .byte)) (by decide) (by decide)))).ext E11)
 obtain ⟨T16, h16, X16, e16, W16, st16⟩ := putF X13 hx hZ11 hown11 (host := "") (Or.inl (wq hw 62 rfl)) Via.refl e13 f15 f14 (Or.inr ⟨(wq hw 18 rfl), rfl, hnm⟩) (wq hw 15 rfl) (ty := .byte) (by decide) rfl rfl (g := (mkF m 23 #[(vr a), (vr b), (vi 0), (vi 0), .val .null, .unset] [(.int 0), (.ref a)])) rfl rfl (hb hby dqD_23)
 have k16 : AtQ p e below S0 T16 m 26 #[(vr a), (vr b), (vi 0), (vi 0), .val .null, .unset] [] := fun tt hq => k13 tt (st16 tt hq)
 have z16 : h16.size = h11.size := W16.size
 have F16 := f15.same W16
 have N16 := Fr.snoc X16 N9 (by omega : n0 ≤ a)
 have C16 := C11.trans (CHr.wr W16 f12 C11.1)
 have f17 : Arv Z h16 b4 c4 .byte (0 : Int32) [] (.int 0) := (((V4.other W9 (adr_ne (by omega))).ext E11).other W16 (adr_ne (by omega)))
 have f18 : Exa Z h16 a "java/lang/String" := (f14.wr W16)
 have f19 : FqA Z h16 a (.ref b4) := ((F9.ext E11).other W16 (Or.inr (slot_ne (Or.inr (wq hw 17 rfl)) (Or.inr (wq hw 18 rfl)) (by decide) (t := (.array .byte)) (t' := .byte) (by decide) (by decide))))
 refine retVoidW X16 hx hZ11 (own_EW hw) hS11 (by omega) C16 e16 hret hlk (hb hby dqD_26) k16 ?_ (by decide) (by decide)
 exact ⟨rfl, N16, (((((Keep.refl h0 [a]).ext E4).wr W9 (Or.inl (by simp))).ext E11).wr W16 (Or.inl (by simp))), b4, c4, f17.lt, f18, f19, F16, f17⟩
theorem dqH_0 : decode jdk_42_method_3_code 0 = .ok (.aload_n 0, 1) := by decide +kernel
theorem dqH_1 : decode jdk_42_method_3_code 1 = .ok (.aload_n 1, 1) := by decide +kernel
theorem dqH_2 : decode jdk_42_method_3_code 2 = .ok (.iconst 0, 1) := by decide +kernel
theorem dqH_3 : decode jdk_42_method_3_code 3 = .ok (.aload_n 1, 1) := by decide +kernel
theorem dqH_4 : decode jdk_42_method_3_code 4 = .ok (.arraylength, 1) := by decide +kernel
theorem dqH_5 : decode jdk_42_method_3_code 5 = .ok (.aconst_null, 1) := by decide +kernel
theorem dqH_6 : decode jdk_42_method_3_code 6 = .ok (.invokespecial 27, 3) := by decide +kernel
theorem dqH_9 : decode jdk_42_method_3_code 9 = .ok (.return_, 1) := by decide +kernel
theorem pd_1 : parseMethodDescriptor "([CIILjava/lang/Void;)V" = some ⟨[(.array .char), .int, .int, (.object "java/lang/Void")], none⟩ := by decide +kernel
theorem rm_n1_0 (l : Launch) (Z : State) (a0 : Array Value) (hw : ∀ d ∈ tables_1, d.before a0 Z = true) (a : Addr) (b : Addr) (kb : ClassId) (u1 : Value) (u2 : Value) (h0 : Heap) (n0 : Nat) (hn0 : n0 ≤ h0.size) (E0 : Exa Z h0 a "java/lang/String") (F1 : FqA Z h0 a u1) (F2 : FqB Z h0 a u2) (P0 : Arv Z h0 b kb .char (0 : Int32) [] (.int 0)) (ga : n0 ≤ a) (ya : @LT.lt Nat instLTNat a h0.size) :
  ConW l Z own_EL yqD jdk_42_method_3_code 2 none [] rqD #[(.ref a), (.ref b)] h0 [a] (fun v h L => v = none ∧ Fr n0 L ∧ Keep h0 h [a] ∧ ∃ (t : Addr) (k : ClassId), (@LT.lt Nat instLTNat t h.size) ∧ Exa Z h a "java/lang/String" ∧ FqA Z h a (.ref t) ∧ FqB Z h a (.int 0) ∧ Arv Z h t k .byte (0 : Int32) [] (.int 0)) := by
 refine enterW (Ls := #[(vr a), (vr b)]) (plainFor_of_name pn_1) (fun m => by exact entry_eq rfl) ?_
 intro p e s m below meth cd_ s₁ S0 vm0 hx hby hml hret hlk hnm hown hZ X0 e0 k0 C0 hsf hS0
 have N0 := Fr.nil n0
 have Sf_a : Safe Z own_EL vm0 h0 a := hsf _ (List.mem_of_getElem? (i := 0) rfl)
 have k1 : AtQ p e below S0 s₁ m 4 #[(vr a), (vr b)] [(.ref b), (.int 0), (.ref b), (.ref a)] := fun tt hq => k0 tt (by
  refine XS.aloadN X0.here hx rfl (hb hby dqH_0) rfl rfl ?_
  refine XS.aloadN X0.here hx rfl (hb hby dqH_1) rfl rfl ?_
  refine XS.iconst X0.here hx rfl (hb hby dqH_2) ?_
  refine XS.aloadN X0.here hx rfl (hb hby dqH_3) rfl rfl ?_
  exact hq)
 obtain ⟨cl2, Ar2, -, S2, M2, -, -⟩ := id P0
 have st2 := fun tt => X0.arraylength hx (by rw [e0]; exact Ar2.1) (State.isArrayOf_alike hZ.alike Ar2.2.1) (g := (mkF m 4 #[(vr a), (vr b)] [(.ref b), (.int 0), (.ref b), (.ref a)])) rfl rfl (hb hby dqH_4) tt
 rw [len_of S2 M2] at st2
 have k2 : AtQ p e below S0 s₁ m 5 #[(vr a), (vr b)] [(.int 0), (.int 0), (.ref b), (.ref a)] := fun tt hq => k1 tt (st2 tt hq)
 have k3 : AtQ p e below S0 s₁ m 6 #[(vr a), (vr b)] [.null, (.int 0), (.int 0), (.ref b), (.ref a)] := fun tt hq => k2 tt (by
  refine XS.aconstNull X0.here hx rfl (hb hby dqH_5) ?_
  exact hq)
 obtain ⟨_, T4, L4, X4, ⟨rfl, Nq4, Kq4, t4, kt4, gt4, P40, P41, P42, P43⟩, k4a, Cq4, hS4, hZ4, hown4⟩ := callCW X0 hx hZ (y := yqC) rfl hown hS0 (by omega) (wq hw 25 rfl) (wq hw 26 rfl) (wq hw 28 rfl) (by decide) (backOfW (W := 0) (rm_n4_0 l Z a0 hw a b kb u1 u2 h0 n0 (by omega) E0 F1 F2 P0 (by omega) (by omega)) hZ (wq hw 28 rfl) (wq hw 14 rfl) (by decide) (by decide) (own_EW hw) C0.1 (allS ⟨adr_lt (by omega), Sf_a⟩ all0)) e0 (argsL := [(.ref b), (.int 0), (.int 0), .null]) (rest := []) rfl rfl pd_1 rfl (by rw [hml]; rfl) (hb hby dqH_6) (Nat.le_of_eq rfl) (by decide) (by decide) k3
 have k4 : AtQ p e below S0 T4 m 9 #[(vr a), (vr b)] [] := k4a
 have N4 := N0.app Nq4
 obtain ⟨h4, e4⟩ : ∃ z, T4.heap = z := ⟨_, rfl⟩
 rw [e4] at Kq4 gt4 P40 P41 P42 P43 Cq4 hS4
 have z4 : h0.size ≤ h4.size := Kq4.1
 have C4 := C0.trans Cq4
 refine retVoidW X4 hx hZ4 (own_EW hw) hS4 (by omega) C4 e4 hret hlk (hb hby dqH_9) k4 ?_ (by decide) (by decide)
 exact ⟨rfl, N4, ((Keep.refl h0 [a]).trans Kq4 (allS (Or.inl (by simp)) all0)), t4, kt4, P43.lt, P40, P41, P42, P43⟩
theorem dqF_0 : decode jdk_42_method_154_code 0 = .ok (.getstatic 38, 3) := by decide +kernel
theorem dqF_3 : decode jdk_42_method_154_code 3 = .ok (.ifCond .eq 14, 3) := by decide +kernel
theorem dqF_6 : decode jdk_42_method_154_code 6 = .ok (.aload_n 0, 1) := by decide +kernel
theorem dqF_7 : decode jdk_42_method_154_code 7 = .ok (.getfield 15, 3) := by decide +kernel
theorem dqF_10 : decode jdk_42_method_154_code 10 = .ok (.ifCond .ne 7, 3) := by decide +kernel
theorem dqF_13 : decode jdk_42_method_154_code 13 = .ok (.iconst 1, 1) := by decide +kernel
theorem dqF_14 : decode jdk_42_method_154_code 14 = .ok (.goto 4, 3) := by decide +kernel
theorem dqF_17 : decode jdk_42_method_154_code 17 = .ok (.iconst 0, 1) := by decide +kernel
theorem dqF_18 : decode jdk_42_method_154_code 18 = .ok (.ireturn, 1) := by decide +kernel
theorem rm_latin (l : Launch) (Z : State) (a0 : Array Value) (hw : ∀ d ∈ tables_1, d.before a0 Z = true) (zc : Int32) (a : Addr) (h0 : Heap) (n0 : Nat) (hn0 : n0 ≤ h0.size) (S_c : Sta Z Z.heap "java/lang/String" "COMPACT_STRINGS" "Z" (.int zc)) (hzc : ¬ zc = (0 : Int32)) (O0 : Old Z n0 h0) (F0 : FqB Z h0 a (.int 0)) :
  Con l Z yqE jdk_42_method_154_code 1 (some .boolean) [] rqA #[(.ref a)] h0 (fun v h L => v = some (.int 1) ∧ Fr n0 L ∧ h = h0) := by
 refine enter (Ls := #[(vr a)]) (plainFor_of_name pn_1) (fun m => by exact entry_eq rfl) ?_
 intro p e s m below meth cd_ s₁ S0 hx hby hml hret hlk hnm hown hZ X0 e0 k0
 have N0 := Fr.nil n0
 obtain ⟨T1, X1, e1, st1⟩ := getS2 X0 hx hZ hown (host := "") (Or.inl (wq hw 32 rfl)) Via.refl e0 (staOld S_c O0) (g := (mkF m 0 #[(vr a)] [])) rfl (hb hby dqF_0)
 have k1 : AtQ p e below S0 T1 m 3 #[(vr a)] [(.int zc)] := fun tt hq => k0 tt (st1 tt hq)
 have k2 : AtQ p e below S0 T1 m 7 #[(vr a)] [(.ref a)] := fun tt hq => k1 tt (by
  refine XS.ifNo X1.here hx rfl (hb hby dqF_3) rfl ((if0 _ _).trans (feq hzc).1) ?_
  refine XS.aloadN X1.here hx rfl (hb hby dqF_6) rfl rfl ?_
  exact hq)
 obtain ⟨T3, X3, e3, st3⟩ := getF X1 hx hZ hown (host := "") (Or.inl (wq hw 62 rfl)) Via.refl e1 F0 (g := (mkF m 7 #[(vr a)] [(.ref a)])) rfl rfl (hb hby dqF_7)
 have k3 : AtQ p e below S0 T3 m 10 #[(vr a)] [(.int 0)] := fun tt hq => k2 tt (st3 tt hq)
 have k4 : AtQ p e below S0 T3 m 18 #[(vr a)] [(.int 1)] := fun tt hq => k3 tt (by
  refine XS.ifNo X3.here hx rfl (hb hby dqF_10) rfl ((if0 _ _).trans (teq (by decide)).2) ?_
  refine XS.iconst X3.here hx rfl (hb hby dqF_13) ?_
  refine XS.goto X3.here hx rfl (pc0 := 14) (pc' := 18) rfl (hb hby dqF_14) (by decide) (by decide) ?_
  exact hq)
 have hE := e3
 refine retInt X3 hx hret hlk (by simp) rfl (hb hby dqF_18) k4 ?_ (by decide) (by decide)
 try rw [hE]
 exact ⟨rfl, N0, rfl⟩
theorem dqC_0 : decode jdk_41_method_11_code 0 = .ok (.iload_n 0, 1) := by decide +kernel
theorem dqC_1 : decode jdk_41_method_11_code 1 = .ok (.ifCond .lt 8, 3) := by decide +kernel
theorem dqC_4 : decode jdk_41_method_11_code 4 = .ok (.iload_n 0, 1) := by decide +kernel
theorem dqC_5 : decode jdk_41_method_11_code 5 = .ok (.iload_n 1, 1) := by decide +kernel
theorem dqC_6 : decode jdk_41_method_11_code 6 = .ok (.if_icmp .lt 10, 3) := by decide +kernel
theorem dqC_9 : decode jdk_41_method_11_code 9 = .ok (.aload_n 2, 1) := by decide +kernel
theorem dqC_10 : decode jdk_41_method_11_code 10 = .ok (.iload_n 0, 1) := by decide +kernel
theorem dqC_11 : decode jdk_41_method_11_code 11 = .ok (.iload_n 1, 1) := by decide +kernel
theorem dqC_12 : decode jdk_41_method_11_code 12 = .ok (.invokestatic 95, 3) := by decide +kernel
theorem dqC_15 : decode jdk_41_method_11_code 15 = .ok (.athrow, 1) := by decide +kernel
theorem dqC_16 : decode jdk_41_method_11_code 16 = .ok (.iload_n 0, 1) := by decide +kernel
theorem dqC_17 : decode jdk_41_method_11_code 17 = .ok (.ireturn, 1) := by decide +kernel
theorem pn_2 : plainName "jdk/internal/util/Preconditions" = true := by first | (simp [plainName, overriddenIn]; done) | decide +kernel
theorem rm_pchk (l : Launch) (Z : State) (a0 : Array Value) (hw : ∀ d ∈ tables_1, d.before a0 Z = true) (i : Int32) (n : Int32) (fm : Value) (h0 : Heap) (n0 : Nat) (hn0 : n0 ≤ h0.size) (hfm : fm.isRef = true) (hi0 : ¬ i < (0 : Int32)) (hi1 : i < n) :
  Con l Z yqF jdk_41_method_11_code 3 (some .int) [] rqA #[(.int i), (.int n), fm] h0 (fun v h L => v = some (.int i) ∧ Fr n0 L ∧ h = h0) := by
 refine enter (Ls := #[(vi i), (vi n), .val fm]) (plainFor_of_name pn_2) (fun m => by rcases ref_cases hfm with rfl | ⟨z, rfl⟩ <;> exact entry_eq rfl) ?_
 intro p e s m below meth cd_ s₁ S0 hx hby hml hret hlk hnm hown hZ X0 e0 k0
 have N0 := Fr.nil n0
 have k1 : AtQ p e below S0 s₁ m 17 #[(vi i), (vi n), .val fm] [(.int i)] := fun tt hq => k0 tt (by
  refine XS.iloadN X0.here hx rfl (hb hby dqC_0) rfl ?_
  refine XS.ifNo X0.here hx rfl (hb hby dqC_1) rfl ((if0 _ _).trans (flt hi0).1) ?_
  refine XS.iloadN X0.here hx rfl (hb hby dqC_4) rfl ?_
  refine XS.iloadN X0.here hx rfl (hb hby dqC_5) rfl ?_
  refine XS.icmpYes X0.here hx rfl (pc0 := 6) (pc' := 16) rfl (hb hby dqC_6) rfl (tlt hi1).1 (by decide) (by decide) ?_
  refine XS.iloadN X0.here hx rfl (hb hby dqC_16) rfl ?_
  exact hq)
 have hE := e0
 refine retInt X0 hx hret hlk (by simp) rfl (hb hby dqC_17) k1 ?_ (by decide) (by decide)
 try rw [hE]
 exact ⟨rfl, N0, rfl⟩
theorem dqG_0 : decode jdk_42_method_155_code 0 = .ok (.iload_n 0, 1) := by decide +kernel
theorem dqG_1 : decode jdk_42_method_155_code 1 = .ok (.iload_n 1, 1) := by decide +kernel
theorem dqG_2 : decode jdk_42_method_155_code 2 = .ok (.getstatic 1053, 3) := by decide +kernel
theorem dqG_5 : decode jdk_42_method_155_code 5 = .ok (.invokestatic 1059, 3) := by decide +kernel
theorem dqG_8 : decode jdk_42_method_155_code 8 = .ok (.pop, 1) := by decide +kernel
theorem dqG_9 : decode jdk_42_method_155_code 9 = .ok (.return_, 1) := by decide +kernel
theorem pd_2 : parseMethodDescriptor "(IILjava/util/function/BiFunction;)I" = some ⟨[.int, .int, (.object "java/util/function/BiFunction")], some .int⟩ := by decide +kernel
theorem rm_chk (l : Launch) (Z : State) (a0 : Array Value) (hw : ∀ d ∈ tables_1, d.before a0 Z = true) (fm : Value) (i : Int32) (n : Int32) (h0 : Heap) (n0 : Nat) (hn0 : n0 ≤ h0.size) (S_f : Sta Z Z.heap "jdk/internal/util/Preconditions" "SIOOBE_FORMATTER" "Ljava/util/function/BiFunction;" fm) (hfm : fm.isRef = true) (O0 : Old Z n0 h0) (hi0 : ¬ i < (0 : Int32)) (hi1 : i < n) :
  Con l Z yqG jdk_42_method_155_code 2 none [] rqE #[(.int i), (.int n)] h0 (fun v h L => v = none ∧ Fr n0 L ∧ h = h0) := by
 refine enter (Ls := #[(vi i), (vi n)]) (plainFor_of_name pn_1) (fun m => by exact entry_eq rfl) ?_
 intro p e s m below meth cd_ s₁ S0 hx hby hml hret hlk hnm hown hZ X0 e0 k0
 have N0 := Fr.nil n0
 have k1 : AtQ p e below S0 s₁ m 2 #[(vi i), (vi n)] [(.int n), (.int i)] := fun tt hq => k0 tt (by
  refine XS.iloadN X0.here hx rfl (hb hby dqG_0) rfl ?_
  refine XS.iloadN X0.here hx rfl (hb hby dqG_1) rfl ?_
  exact hq)
 obtain ⟨T2, X2, e2, st2⟩ := getS2 X0 hx hZ hown (host := "") (Or.inl (wq hw 114 rfl)) Via.refl e0 (staOld S_f O0) (g := (mkF m 2 #[(vi i), (vi n)] [(.int n), (.int i)])) rfl (hb hby dqG_2)
 have k2 : AtQ p e below S0 T2 m 5 #[(vi i), (vi n)] [fm, (.int n), (.int i)] := fun tt hq => k1 tt (st2 tt hq)
 obtain ⟨_, T3, L3, X3, ⟨rfl, Nq3, eq3⟩, k3a⟩ := callS' X2 hx hZ (y := yqF) hown (wq hw 116 rfl) (wq hw 117 rfl) (wq hw 115 rfl) (wq hw 118 rfl) (by decide) (backC (W := 0) (rm_pchk l Z a0 hw i n fm h0 n0 (by omega) hfm hi0 hi1) hZ (wq hw 118 rfl) (wq hw 115 rfl) (by decide) (by decide)) e2 (argsL := [(.int i), (.int n), fm]) (rest := []) rfl rfl pd_2 rfl (by rw [hml]; rfl) (hb hby dqG_5) (Nat.le_of_eq rfl) (by decide) (by decide) k2
 have k3 : AtQ p e below S0 T3 m 8 #[(vi i), (vi n)] [(.int i)] := k3a
 have N3 := N0.app Nq3
 have e3 : T3.heap = h0 := eq3
 have k4 : AtQ p e below S0 T3 m 9 #[(vi i), (vi n)] [] := fun tt hq => k3 tt (by
  refine XS.pop X3.here hx rfl (hb hby dqG_8) rfl rfl ?_
  exact hq)
 have hE := e3
 refine retVoid X3 hx hret hlk (hb hby dqG_9) k4 ?_ (by decide) (by decide)
 try rw [hE]
 exact ⟨rfl, N3, rfl⟩
theorem dqJ_0 : decode jdk_42_method_57_code 0 = .ok (.aload_n 0, 1) := by decide +kernel
theorem dqJ_1 : decode jdk_42_method_57_code 1 = .ok (.invokevirtual 492, 3) := by decide +kernel
theorem dqJ_4 : decode jdk_42_method_57_code 4 = .ok (.ifCond .eq 23, 3) := by decide +kernel
theorem dqJ_7 : decode jdk_42_method_57_code 7 = .ok (.iload_n 1, 1) := by decide +kernel
theorem dqJ_8 : decode jdk_42_method_57_code 8 = .ok (.aload_n 0, 1) := by decide +kernel
theorem dqJ_9 : decode jdk_42_method_57_code 9 = .ok (.getfield 9, 3) := by decide +kernel
theorem dqJ_12 : decode jdk_42_method_57_code 12 = .ok (.arraylength, 1) := by decide +kernel
theorem dqJ_13 : decode jdk_42_method_57_code 13 = .ok (.invokestatic 499, 3) := by decide +kernel
theorem dqJ_16 : decode jdk_42_method_57_code 16 = .ok (.aload_n 0, 1) := by decide +kernel
theorem dqJ_17 : decode jdk_42_method_57_code 17 = .ok (.getfield 9, 3) := by decide +kernel
theorem dqJ_20 : decode jdk_42_method_57_code 20 = .ok (.iload_n 1, 1) := by decide +kernel
theorem dqJ_21 : decode jdk_42_method_57_code 21 = .ok (.baload, 1) := by decide +kernel
theorem dqJ_22 : decode jdk_42_method_57_code 22 = .ok (.sipush 255, 3) := by decide +kernel
theorem dqJ_25 : decode jdk_42_method_57_code 25 = .ok (.iand, 1) := by decide +kernel
theorem dqJ_26 : decode jdk_42_method_57_code 26 = .ok (.ireturn, 1) := by decide +kernel
theorem dqJ_27 : decode jdk_42_method_57_code 27 = .ok (.aload_n 0, 1) := by decide +kernel
theorem dqJ_28 : decode jdk_42_method_57_code 28 = .ok (.getfield 9, 3) := by decide +kernel
theorem dqJ_31 : decode jdk_42_method_57_code 31 = .ok (.arraylength, 1) := by decide +kernel
theorem dqJ_32 : decode jdk_42_method_57_code 32 = .ok (.iconst 1, 1) := by decide +kernel
theorem dqJ_33 : decode jdk_42_method_57_code 33 = .ok (.ishr, 1) := by decide +kernel
theorem dqJ_34 : decode jdk_42_method_57_code 34 = .ok (.istore_n 2, 1) := by decide +kernel
theorem dqJ_35 : decode jdk_42_method_57_code 35 = .ok (.iload_n 1, 1) := by decide +kernel
theorem dqJ_36 : decode jdk_42_method_57_code 36 = .ok (.iload_n 2, 1) := by decide +kernel
theorem dqJ_37 : decode jdk_42_method_57_code 37 = .ok (.invokestatic 499, 3) := by decide +kernel
theorem dqJ_40 : decode jdk_42_method_57_code 40 = .ok (.aload_n 0, 1) := by decide +kernel
theorem dqJ_41 : decode jdk_42_method_57_code 41 = .ok (.getfield 9, 3) := by decide +kernel
theorem dqJ_44 : decode jdk_42_method_57_code 44 = .ok (.iload_n 1, 1) := by decide +kernel
theorem dqJ_45 : decode jdk_42_method_57_code 45 = .ok (.iload_n 2, 1) := by decide +kernel
theorem dqJ_46 : decode jdk_42_method_57_code 46 = .ok (.invokestatic 502, 3) := by decide +kernel
theorem dqJ_49 : decode jdk_42_method_57_code 49 = .ok (.ireturn, 1) := by decide +kernel
theorem pd_3 : parseMethodDescriptor "()Z" = some ⟨[], some .boolean⟩ := by decide +kernel
theorem pd_4 : parseMethodDescriptor "(II)V" = some ⟨[.int, .int], none⟩ := by decide +kernel
theorem rm_cp1_0 (l : Launch) (Z : State) (a0 : Array Value) (hw : ∀ d ∈ tables_1, d.before a0 Z = true) (zc : Int32) (fm : Value) (a : Addr) (t : Addr) (kt : ClassId) (c0 : Int32) (h0 : Heap) (n0 : Nat) (hn0 : n0 ≤ h0.size) (S_c : Sta Z Z.heap "java/lang/String" "COMPACT_STRINGS" "Z" (.int zc)) (hzc : ¬ zc = (0 : Int32)) (S_f : Sta Z Z.heap "jdk/internal/util/Preconditions" "SIOOBE_FORMATTER" "Ljava/util/function/BiFunction;" fm) (hfm : fm.isRef = true) (O0 : Old Z n0 h0) (P0 : Exa Z h0 a "java/lang/String") (P1 : FqA Z h0 a (.ref t)) (P2 : FqB Z h0 a (.int 0)) (P3 : Arv Z h0 t kt .byte (1 : Int32) [(.int c0)] (.int 0)) :
  Con l Z yqH jdk_42_method_57_code 3 (some .int) [] rqF #[(.ref a), (.int 0)] h0 (fun v h L => v = some (.int (c0 &&& (255 : Int32))) ∧ Fr n0 L ∧ h = h0) := by
 refine enter (Ls := #[(vr a), (vi 0), .unset]) (plainFor_of_name pn_1) (fun m => by exact entry_eq rfl) ?_
 intro p e s m below meth cd_ s₁ S0 hx hby hml hret hlk hnm hown hZ X0 e0 k0
 have N0 := Fr.nil n0
 have k1 : AtQ p e below S0 s₁ m 1 #[(vr a), (vi 0), .unset] [(.ref a)] := fun tt hq => k0 tt (by
  refine XS.aloadN X0.here hx rfl (hb hby dqJ_0) rfl rfl ?_
  exact hq)
 obtain ⟨_, T2, L2, X2, ⟨rfl, Nq2, eq2⟩, k2a⟩ := callV' X0 hx hZ (y := yqE) (z := yqE) hown (wq hw 106 rfl) (wq hw 107 rfl) (notFace_of_selects (args := #[]) (mvT hZ (wq hw 109 rfl))) (wq hw 109 rfl) (wq hw 108 rfl) (by decide) P0 (backC (W := 0) (rm_latin l Z a0 hw zc a h0 n0 (by omega) S_c hzc O0 P2) hZ (wq hw 110 rfl) (wq hw 14 rfl) (by decide) (by decide)) e0 (argsL := []) (rest := []) rfl rfl pd_3 rfl (by rw [hml]; rfl) (hb hby dqJ_1) (Nat.le_of_eq rfl) (by decide) (by decide) k1
 have k2 : AtQ p e below S0 T2 m 4 #[(vr a), (vi 0), .unset] [(.int 1)] := k2a
 have N2 := N0.app Nq2
 have e2 : T2.heap = h0 := eq2
 have k3 : AtQ p e below S0 T2 m 9 #[(vr a), (vi 0), .unset] [(.ref a), (.int 0)] := fun tt hq => k2 tt (by
  refine XS.ifNo X2.here hx rfl (hb hby dqJ_4) rfl ((if0 _ _).trans (feq (by decide)).1) ?_
  refine XS.iloadN X2.here hx rfl (hb hby dqJ_7) rfl ?_
  refine XS.aloadN X2.here hx rfl (hb hby dqJ_8) rfl rfl ?_
  exact hq)
 obtain ⟨T4, X4, e4, st4⟩ := getF X2 hx hZ hown (host := "") (Or.inl (wq hw 63 rfl)) Via.refl e2 P1 (g := (mkF m 9 #[(vr a), (vi 0), .unset] [(.ref a), (.int 0)])) rfl rfl (hb hby dqJ_9)
 have k4 : AtQ p e below S0 T4 m 12 #[(vr a), (vi 0), .unset] [(.ref t), (.int 0)] := fun tt hq => k3 tt (st4 tt hq)
 obtain ⟨cl5, Ar5, -, S5, M5, -, -⟩ := id P3
 have st5 := fun tt => X4.arraylength hx (by rw [e4]; exact Ar5.1) (State.isArrayOf_alike hZ.alike Ar5.2.1) (g := (mkF m 12 #[(vr a), (vi 0), .unset] [(.ref t), (.int 0)])) rfl rfl (hb hby dqJ_12) tt
 rw [len_of S5 M5] at st5
 have k5 : AtQ p e below S0 T4 m 13 #[(vr a), (vi 0), .unset] [(.int 1), (.int 0)] := fun tt hq => k4 tt (st5 tt hq)
 obtain ⟨_, T6, L6, X6, ⟨rfl, Nq6, eq6⟩, k6a⟩ := callS' X4 hx hZ (y := yqG) hown (wq hw 111 rfl) (wq hw 112 rfl) (wq hw 14 rfl) (wq hw 113 rfl) (by decide) (backC (W := 0) (rm_chk l Z a0 hw fm (0 : Int32) (1 : Int32) h0 n0 (by omega) S_f hfm O0 (by decide) (by decide)) hZ (wq hw 113 rfl) (wq hw 14 rfl) (by decide) (by decide)) e4 (argsL := [(.int 0), (.int 1)]) (rest := []) rfl rfl pd_4 rfl (by rw [hml]; rfl) (hb hby dqJ_13) (Nat.le_of_eq rfl) (by decide) (by decide) k5
 have k6 : AtQ p e below S0 T6 m 16 #[(vr a), (vi 0), .unset] [] := k6a
 have N6 := N2.app Nq6
 have e6 : T6.heap = h0 := eq6
 have k7 : AtQ p e below S0 T6 m 17 #[(vr a), (vi 0), .unset] [(.ref a)] := fun tt hq => k6 tt (by
  refine XS.aloadN X6.here hx rfl (hb hby dqJ_16) rfl rfl ?_
  exact hq)
 obtain ⟨T8, X8, e8, st8⟩ := getF X6 hx hZ hown (host := "") (Or.inl (wq hw 63 rfl)) Via.refl e6 P1 (g := (mkF m 17 #[(vr a), (vi 0), .unset] [(.ref a)])) rfl rfl (hb hby dqJ_17)
 have k8 : AtQ p e below S0 T8 m 20 #[(vr a), (vi 0), .unset] [(.ref t)] := fun tt hq => k7 tt (st8 tt hq)
 have k9 : AtQ p e below S0 T8 m 21 #[(vr a), (vi 0), .unset] [(.int 0), (.ref t)] := fun tt hq => k8 tt (by
  refine XS.iloadN X8.here hx rfl (hb hby dqJ_20) rfl ?_
  exact hq)
 obtain ⟨cl10, Ar10, -, S10, -, G10, -⟩ := id P3
 have hi10 := inb_of (j := (0 : Int32)) S10 ⟨by decide, by decide⟩
 have st10 := fun tt => X8.baloadBytes hx (j := (0 : Int32)) (v := (.int c0)) (by rw [e8]; exact Ar10.1) (State.isArrayOf_alike hZ.alike Ar10.2.1) Ar10.2.2 hi10 (G10.at hi10 rfl) (g := (mkF m 21 #[(vr a), (vi 0), .unset] [(.int 0), (.ref t)])) rfl rfl (hb hby dqJ_21) tt
 have k10 : AtQ p e below S0 T8 m 22 #[(vr a), (vi 0), .unset] [(.int c0)] := fun tt hq => k9 tt (st10 tt hq)
 have k11 : AtQ p e below S0 T8 m 26 #[(vr a), (vi 0), .unset] [(.int (c0 &&& (255 : Int32)))] := fun tt hq => k10 tt (by
  refine XS.sipush X8.here hx rfl (hb hby dqJ_22) ?_
  refine XS.iand X8.here hx rfl (hb hby dqJ_25) rfl ?_
  exact hq)
 have hE := e8
 refine retInt X8 hx hret hlk (by simp) rfl (hb hby dqJ_26) k11 ?_ (by decide) (by decide)
 try rw [hE]
 exact ⟨rfl, N6, rfl⟩
theorem rm_cp2_0 (l : Launch) (Z : State) (a0 : Array Value) (hw : ∀ d ∈ tables_1, d.before a0 Z = true) (zc : Int32) (fm : Value) (a : Addr) (t : Addr) (kt : ClassId) (c0 : Int32) (c1 : Int32) (h0 : Heap) (n0 : Nat) (hn0 : n0 ≤ h0.size) (S_c : Sta Z Z.heap "java/lang/String" "COMPACT_STRINGS" "Z" (.int zc)) (hzc : ¬ zc = (0 : Int32)) (S_f : Sta Z Z.heap "jdk/internal/util/Preconditions" "SIOOBE_FORMATTER" "Ljava/util/function/BiFunction;" fm) (hfm : fm.isRef = true) (O0 : Old Z n0 h0) (P0 : Exa Z h0 a "java/lang/String") (P1 : FqA Z h0 a (.ref t)) (P2 : FqB Z h0 a (.int 0)) (P3 : Arv Z h0 t kt .byte (2 : Int32) [(.int c0), (.int c1)] (.int 0)) :
  Con l Z yqH jdk_42_method_57_code 3 (some .int) [] rqF #[(.ref a), (.int 0)] h0 (fun v h L => v = some (.int (c0 &&& (255 : Int32))) ∧ Fr n0 L ∧ h = h0) := by
 refine enter (Ls := #[(vr a), (vi 0), .unset]) (plainFor_of_name pn_1) (fun m => by exact entry_eq rfl) ?_
 intro p e s m below meth cd_ s₁ S0 hx hby hml hret hlk hnm hown hZ X0 e0 k0
 have N0 := Fr.nil n0
 have k1 : AtQ p e below S0 s₁ m 1 #[(vr a), (vi 0), .unset] [(.ref a)] := fun tt hq => k0 tt (by
  refine XS.aloadN X0.here hx rfl (hb hby dqJ_0) rfl rfl ?_
  exact hq)
 obtain ⟨_, T2, L2, X2, ⟨rfl, Nq2, eq2⟩, k2a⟩ := callV' X0 hx hZ (y := yqE) (z := yqE) hown (wq hw 106 rfl) (wq hw 107 rfl) (notFace_of_selects (args := #[]) (mvT hZ (wq hw 109 rfl))) (wq hw 109 rfl) (wq hw 108 rfl) (by decide) P0 (backC (W := 0) (rm_latin l Z a0 hw zc a h0 n0 (by omega) S_c hzc O0 P2) hZ (wq hw 110 rfl) (wq hw 14 rfl) (by decide) (by decide)) e0 (argsL := []) (rest := []) rfl rfl pd_3 rfl (by rw [hml]; rfl) (hb hby dqJ_1) (Nat.le_of_eq rfl) (by decide) (by decide) k1
 have k2 : AtQ p e below S0 T2 m 4 #[(vr a), (vi 0), .unset] [(.int 1)] := k2a
 have N2 := N0.app Nq2
 have e2 : T2.heap = h0 := eq2
 have k3 : AtQ p e below S0 T2 m 9 #[(vr a), (vi 0), .unset] [(.ref a), (.int 0)] := fun tt hq => k2 tt (by
  refine XS.ifNo X2.here hx rfl (hb hby dqJ_4) rfl ((if0 _ _).trans (feq (by decide)).1) ?_
  refine XS.iloadN X2.here hx rfl (hb hby dqJ_7) rfl ?_
  refine XS.aloadN X2.here hx rfl (hb hby dqJ_8) rfl rfl ?_
  exact hq)
 obtain ⟨T4, X4, e4, st4⟩ := getF X2 hx hZ hown (host := "") (Or.inl (wq hw 63 rfl)) Via.refl e2 P1 (g := (mkF m 9 #[(vr a), (vi 0), .unset] [(.ref a), (.int 0)])) rfl rfl (hb hby dqJ_9)
 have k4 : AtQ p e below S0 T4 m 12 #[(vr a), (vi 0), .unset] [(.ref t), (.int 0)] := fun tt hq => k3 tt (st4 tt hq)
 obtain ⟨cl5, Ar5, -, S5, M5, -, -⟩ := id P3
 have st5 := fun tt => X4.arraylength hx (by rw [e4]; exact Ar5.1) (State.isArrayOf_alike hZ.alike Ar5.2.1) (g := (mkF m 12 #[(vr a), (vi 0), .unset] [(.ref t), (.int 0)])) rfl rfl (hb hby dqJ_12) tt
 rw [len_of S5 M5] at st5
 have k5 : AtQ p e below S0 T4 m 13 #[(vr a), (vi 0), .unset] [(.int 2), (.int 0)] := fun tt hq => k4 tt (st5 tt hq)
 obtain ⟨_, T6, L6, X6, ⟨rfl, Nq6, eq6⟩, k6a⟩ := callS' X4 hx hZ (y := yqG) hown (wq hw 111 rfl) (wq hw 112 rfl) (wq hw 14 rfl) (wq hw 113 rfl) (by decide) (backC (W := 0) (rm_chk l Z a0 hw fm (0 : Int32) (2 : Int32) h0 n0 (by omega) S_f hfm O0 (by decide) (by decide)) hZ (wq hw 113 rfl) (wq hw 14 rfl) (by decide) (by decide)) e4 (argsL := [(.int 0), (.int 2)]) (rest := []) rfl rfl pd_4 rfl (by rw [hml]; rfl) (hb hby dqJ_13) (Nat.le_of_eq rfl) (by decide) (by decide) k5
 have k6 : AtQ p e below S0 T6 m 16 #[(vr a), (vi 0), .unset] [] := k6a
 have N6 := N2.app Nq6
 have e6 : T6.heap = h0 := eq6
 have k7 : AtQ p e below S0 T6 m 17 #[(vr a), (vi 0), .unset] [(.ref a)] := fun tt hq => k6 tt (by
  refine XS.aloadN X6.here hx rfl (hb hby dqJ_16) rfl rfl ?_
  exact hq)
 obtain ⟨T8, X8, e8, st8⟩ := getF X6 hx hZ hown (host := "") (Or.inl (wq hw 63 rfl)) Via.refl e6 P1 (g := (mkF m 17 #[(vr a), (vi 0), .unset] [(.ref a)])) rfl rfl (hb hby dqJ_17)
 have k8 : AtQ p e below S0 T8 m 20 #[(vr a), (vi 0), .unset] [(.ref t)] := fun tt hq => k7 tt (st8 tt hq)
 have k9 : AtQ p e below S0 T8 m 21 #[(vr a), (vi 0), .unset] [(.int 0), (.ref t)] := fun tt hq => k8 tt (by
  refine XS.iloadN X8.here hx rfl (hb hby dqJ_20) rfl ?_
  exact hq)
 obtain ⟨cl10, Ar10, -, S10, -, G10, -⟩ := id P3
 have hi10 := inb_of (j := (0 : Int32)) S10 ⟨by decide, by decide⟩
 have st10 := fun tt => X8.baloadBytes hx (j := (0 : Int32)) (v := (.int c0)) (by rw [e8]; exact Ar10.1) (State.isArrayOf_alike hZ.alike Ar10.2.1) Ar10.2.2 hi10 (G10.at hi10 rfl) (g := (mkF m 21 #[(vr a), (vi 0), .unset] [(.int 0), (.ref t)])) rfl rfl (hb hby dqJ_21) tt
 have k10 : AtQ p e below S0 T8 m 22 #[(vr a), (vi 0), .unset] [(.int c0)] := fun tt hq => k9 tt (st10 tt hq)
 have k11 : AtQ p e below S0 T8 m 26 #[(vr a), (vi 0), .unset] [(.int (c0 &&& (255 : Int32)))] := fun tt hq => k10 tt (by
  refine XS.sipush X8.here hx rfl (hb hby dqJ_22) ?_
  refine XS.iand X8.here hx rfl (hb hby dqJ_25) rfl ?_
  exact hq)
 have hE := e8
 refine retInt X8 hx hret hlk (by simp) rfl (hb hby dqJ_26) k11 ?_ (by decide) (by decide)
 try rw [hE]
 exact ⟨rfl, N6, rfl⟩
theorem rm_cp2_1 (l : Launch) (Z : State) (a0 : Array Value) (hw : ∀ d ∈ tables_1, d.before a0 Z = true) (zc : Int32) (fm : Value) (a : Addr) (t : Addr) (kt : ClassId) (c0 : Int32) (c1 : Int32) (h0 : Heap) (n0 : Nat) (hn0 : n0 ≤ h0.size) (S_c : Sta Z Z.heap "java/lang/String" "COMPACT_STRINGS" "Z" (.int zc)) (hzc : ¬ zc = (0 : Int32)) (S_f : Sta Z Z.heap "jdk/internal/util/Preconditions" "SIOOBE_FORMATTER" "Ljava/util/function/BiFunction;" fm) (hfm : fm.isRef = true) (O0 : Old Z n0 h0) (P0 : Exa Z h0 a "java/lang/String") (P1 : FqA Z h0 a (.ref t)) (P2 : FqB Z h0 a (.int 0)) (P3 : Arv Z h0 t kt .byte (2 : Int32) [(.int c0), (.int c1)] (.int 0)) :
  Con l Z yqH jdk_42_method_57_code 3 (some .int) [] rqF #[(.ref a), (.int 1)] h0 (fun v h L => v = some (.int (c1 &&& (255 : Int32))) ∧ Fr n0 L ∧ h = h0) := by
 refine enter (Ls := #[(vr a), (vi 1), .unset]) (plainFor_of_name pn_1) (fun m => by exact entry_eq rfl) ?_
 intro p e s m below meth cd_ s₁ S0 hx hby hml hret hlk hnm hown hZ X0 e0 k0
 have N0 := Fr.nil n0
 have k1 : AtQ p e below S0 s₁ m 1 #[(vr a), (vi 1), .unset] [(.ref a)] := fun tt hq => k0 tt (by
  refine XS.aloadN X0.here hx rfl (hb hby dqJ_0) rfl rfl ?_
  exact hq)
 obtain ⟨_, T2, L2, X2, ⟨rfl, Nq2, eq2⟩, k2a⟩ := callV' X0 hx hZ (y := yqE) (z := yqE) hown (wq hw 106 rfl) (wq hw 107 rfl) (notFace_of_selects (args := #[]) (mvT hZ (wq hw 109 rfl))) (wq hw 109 rfl) (wq hw 108 rfl) (by decide) P0 (backC (W := 0) (rm_latin l Z a0 hw zc a h0 n0 (by omega) S_c hzc O0 P2) hZ (wq hw 110 rfl) (wq hw 14 rfl) (by decide) (by decide)) e0 (argsL := []) (rest := []) rfl rfl pd_3 rfl (by rw [hml]; rfl) (hb hby dqJ_1) (Nat.le_of_eq rfl) (by decide) (by decide) k1
 have k2 : AtQ p e below S0 T2 m 4 #[(vr a), (vi 1), .unset] [(.int 1)] := k2a
 have N2 := N0.app Nq2
 have e2 : T2.heap = h0 := eq2
 have k3 : AtQ p e below S0 T2 m 9 #[(vr a), (vi 1), .unset] [(.ref a), (.int 1)] := fun tt hq => k2 tt (by
  refine XS.ifNo X2.here hx rfl (hb hby dqJ_4) rfl ((if0 _ _).trans (feq (by decide)).1) ?_
  refine XS.iloadN X2.here hx rfl (hb hby dqJ_7) rfl ?_
  refine XS.aloadN X2.here hx rfl (hb hby dqJ_8) rfl rfl ?_
  exact hq)
 obtain ⟨T4, X4, e4, st4⟩ := getF X2 hx hZ hown (host := "") (Or.inl (wq hw 63 rfl)) Via.refl e2 P1 (g := (mkF m 9 #[(vr a), (vi 1), .unset] [(.ref a), (.int 1)])) rfl rfl (hb hby dqJ_9)
 have k4 : AtQ p e below S0 T4 m 12 #[(vr a), (vi 1), .unset] [(.ref t), (.int 1)] := fun tt hq => k3 tt (st4 tt hq)
 obtain ⟨cl5, Ar5, -, S5, M5, -, -⟩ := id P3
 have st5 := fun tt => X4.arraylength hx (by rw [e4]; exact Ar5.1) (State.isArrayOf_alike hZ.alike Ar5.2.1) (g := (mkF m 12 #[(vr a), (vi 1), .unset] [(.ref t), (.int 1)])) rfl rfl (hb hby dqJ_12) tt
 rw [len_of S5 M5] at st5
 have k5 : AtQ p e below S0 T4 m 13 #[(vr a), (vi 1), .unset] [(.int 2), (.int 1)] := fun tt hq => k4 tt (st5 tt hq)
 obtain ⟨_, T6, L6, X6, ⟨rfl, Nq6, eq6⟩, k6a⟩ := callS' X4 hx hZ (y := yqG) hown (wq hw 111 rfl) (wq hw 112 rfl) (wq hw 14 rfl) (wq hw 113 rfl) (by decide) (backC (W := 0) (rm_chk l Z a0 hw fm (1 : Int32) (2 : Int32) h0 n0 (by omega) S_f hfm O0 (by decide) (by decide)) hZ (wq hw 113 rfl) (wq hw 14 rfl) (by decide) (by decide)) e4 (argsL := [(.int 1), (.int 2)]) (rest := []) rfl rfl pd_4 rfl (by rw [hml]; rfl) (hb hby dqJ_13) (Nat.le_of_eq rfl) (by decide) (by decide) k5
 have k6 : AtQ p e below S0 T6 m 16 #[(vr a), (vi 1), .unset] [] := k6a
 have N6 := N2.app Nq6
 have e6 : T6.heap = h0 := eq6
 have k7 : AtQ p e below S0 T6 m 17 #[(vr a), (vi 1), .unset] [(.ref a)] := fun tt hq => k6 tt (by
  refine XS.aloadN X6.here hx rfl (hb hby dqJ_16) rfl rfl ?_
  exact hq)
 obtain ⟨T8, X8, e8, st8⟩ := getF X6 hx hZ hown (host := "") (Or.inl (wq hw 63 rfl)) Via.refl e6 P1 (g := (mkF m 17 #[(vr a), (vi 1), .unset] [(.ref a)])) rfl rfl (hb hby dqJ_17)
 have k8 : AtQ p e below S0 T8 m 20 #[(vr a), (vi 1), .unset] [(.ref t)] := fun tt hq => k7 tt (st8 tt hq)
 have k9 : AtQ p e below S0 T8 m 21 #[(vr a), (vi 1), .unset] [(.int 1), (.ref t)] := fun tt hq => k8 tt (by
  refine XS.iloadN X8.here hx rfl (hb hby dqJ_20) rfl ?_
  exact hq)
 obtain ⟨cl10, Ar10, -, S10, -, G10, -⟩ := id P3
 have hi10 := inb_of (j := (1 : Int32)) S10 ⟨by decide, by decide⟩
 have st10 := fun tt => X8.baloadBytes hx (j := (1 : Int32)) (v := (.int c1)) (by rw [e8]; exact Ar10.1) (State.isArrayOf_alike hZ.alike Ar10.2.1) Ar10.2.2 hi10 (G10.at hi10 rfl) (g := (mkF m 21 #[(vr a), (vi 1), .unset] [(.int 1), (.ref t)])) rfl rfl (hb hby dqJ_21) tt
 have k10 : AtQ p e below S0 T8 m 22 #[(vr a), (vi 1), .unset] [(.int c1)] := fun tt hq => k9 tt (st10 tt hq)
 have k11 : AtQ p e below S0 T8 m 26 #[(vr a), (vi 1), .unset] [(.int (c1 &&& (255 : Int32)))] := fun tt hq => k10 tt (by
  refine XS.sipush X8.here hx rfl (hb hby dqJ_22) ?_
  refine XS.iand X8.here hx rfl (hb hby dqJ_25) rfl ?_
  exact hq)
 have hE := e8
 refine retInt X8 hx hret hlk (by simp) rfl (hb hby dqJ_26) k11 ?_ (by decide) (by decide)
 try rw [hE]
 exact ⟨rfl, N6, rfl⟩
theorem rm_cp3_0 (l : Launch) (Z : State) (a0 : Array Value) (hw : ∀ d ∈ tables_1, d.before a0 Z = true) (zc : Int32) (fm : Value) (a : Addr) (t : Addr) (kt : ClassId) (c0 : Int32) (c1 : Int32) (c2 : Int32) (h0 : Heap) (n0 : Nat) (hn0 : n0 ≤ h0.size) (S_c : Sta Z Z.heap "java/lang/String" "COMPACT_STRINGS" "Z" (.int zc)) (hzc : ¬ zc = (0 : Int32)) (S_f : Sta Z Z.heap "jdk/internal/util/Preconditions" "SIOOBE_FORMATTER" "Ljava/util/function/BiFunction;" fm) (hfm : fm.isRef = true) (O0 : Old Z n0 h0) (P0 : Exa Z h0 a "java/lang/String") (P1 : FqA Z h0 a (.ref t)) (P2 : FqB Z h0 a (.int 0)) (P3 : Arv Z h0 t kt .byte (3 : Int32) [(.int c0), (.int c1), (.int c2)] (.int 0)) :
  Con l Z yqH jdk_42_method_57_code 3 (some .int) [] rqF #[(.ref a), (.int 0)] h0 (fun v h L => v = some (.int (c0 &&& (255 : Int32))) ∧ Fr n0 L ∧ h = h0) := by
 refine enter (Ls := #[(vr a), (vi 0), .unset]) (plainFor_of_name pn_1) (fun m => by exact entry_eq rfl) ?_
 intro p e s m below meth cd_ s₁ S0 hx hby hml hret hlk hnm hown hZ X0 e0 k0
 have N0 := Fr.nil n0
 have k1 : AtQ p e below S0 s₁ m 1 #[(vr a), (vi 0), .unset] [(.ref a)] := fun tt hq => k0 tt (by
  refine XS.aloadN X0.here hx rfl (hb hby dqJ_0) rfl rfl ?_
  exact hq)
 obtain ⟨_, T2, L2, X2, ⟨rfl, Nq2, eq2⟩, k2a⟩ := callV' X0 hx hZ (y := yqE) (z := yqE) hown (wq hw 106 rfl) (wq hw 107 rfl) (notFace_of_selects (args := #[]) (mvT hZ (wq hw 109 rfl))) (wq hw 109 rfl) (wq hw 108 rfl) (by decide) P0 (backC (W := 0) (rm_latin l Z a0 hw zc a h0 n0 (by omega) S_c hzc O0 P2) hZ (wq hw 110 rfl) (wq hw 14 rfl) (by decide) (by decide)) e0 (argsL := []) (rest := []) rfl rfl pd_3 rfl (by rw [hml]; rfl) (hb hby dqJ_1) (Nat.le_of_eq rfl) (by decide) (by decide) k1
 have k2 : AtQ p e below S0 T2 m 4 #[(vr a), (vi 0), .unset] [(.int 1)] := k2a
 have N2 := N0.app Nq2
 have e2 : T2.heap = h0 := eq2
 have k3 : AtQ p e below S0 T2 m 9 #[(vr a), (vi 0), .unset] [(.ref a), (.int 0)] := fun tt hq => k2 tt (by
  refine XS.ifNo X2.here hx rfl (hb hby dqJ_4) rfl ((if0 _ _).trans (feq (by decide)).1) ?_
  refine XS.iloadN X2.here hx rfl (hb hby dqJ_7) rfl ?_
  refine XS.aloadN X2.here hx rfl (hb hby dqJ_8) rfl rfl ?_
  exact hq)
 obtain ⟨T4, X4, e4, st4⟩ := getF X2 hx hZ hown (host := "") (Or.inl (wq hw 63 rfl)) Via.refl e2 P1 (g := (mkF m 9 #[(vr a), (vi 0), .unset] [(.ref a), (.int 0)])) rfl rfl (hb hby dqJ_9)
 have k4 : AtQ p e below S0 T4 m 12 #[(vr a), (vi 0), .unset] [(.ref t), (.int 0)] := fun tt hq => k3 tt (st4 tt hq)
 obtain ⟨cl5, Ar5, -, S5, M5, -, -⟩ := id P3
 have st5 := fun tt => X4.arraylength hx (by rw [e4]; exact Ar5.1) (State.isArrayOf_alike hZ.alike Ar5.2.1) (g := (mkF m 12 #[(vr a), (vi 0), .unset] [(.ref t), (.int 0)])) rfl rfl (hb hby dqJ_12) tt
 rw [len_of S5 M5] at st5
 have k5 : AtQ p e below S0 T4 m 13 #[(vr a), (vi 0), .unset] [(.int 3), (.int 0)] := fun tt hq => k4 tt (st5 tt hq)
 obtain ⟨_, T6, L6, X6, ⟨rfl, Nq6, eq6⟩, k6a⟩ := callS' X4 hx hZ (y := yqG) hown (wq hw 111 rfl) (wq hw 112 rfl) (wq hw 14 rfl) (wq hw 113 rfl) (by decide) (backC (W := 0) (rm_chk l Z a0 hw fm (0 : Int32) (3 : Int32) h0 n0 (by omega) S_f hfm O0 (by decide) (by decide)) hZ (wq hw 113 rfl) (wq hw 14 rfl) (by decide) (by decide)) e4 (argsL := [(.int 0), (.int 3)]) (rest := []) rfl rfl pd_4 rfl (by rw [hml]; rfl) (hb hby dqJ_13) (Nat.le_of_eq rfl) (by decide) (by decide) k5
 have k6 : AtQ p e below S0 T6 m 16 #[(vr a), (vi 0), .unset] [] := k6a
 have N6 := N2.app Nq6
 have e6 : T6.heap = h0 := eq6
 have k7 : AtQ p e below S0 T6 m 17 #[(vr a), (vi 0), .unset] [(.ref a)] := fun tt hq => k6 tt (by
  refine XS.aloadN X6.here hx rfl (hb hby dqJ_16) rfl rfl ?_
  exact hq)
 obtain ⟨T8, X8, e8, st8⟩ := getF X6 hx hZ hown (host := "") (Or.inl (wq hw 63 rfl)) Via.refl e6 P1 (g := (mkF m 17 #[(vr a), (vi 0), .unset] [(.ref a)])) rfl rfl (hb hby dqJ_17)
 have k8 : AtQ p e below S0 T8 m 20 #[(vr a), (vi 0), .unset] [(.ref t)] := fun tt hq => k7 tt (st8 tt hq)
 have k9 : AtQ p e below S0 T8 m 21 #[(vr a), (vi 0), .unset] [(.int 0), (.ref t)] := fun tt hq => k8 tt (by
  refine XS.iloadN X8.here hx rfl (hb hby dqJ_20) rfl ?_
  exact hq)
 obtain ⟨cl10, Ar10, -, S10, -, G10, -⟩ := id P3
 have hi10 := inb_of (j := (0 : Int32)) S10 ⟨by decide, by decide⟩
 have st10 := fun tt => X8.baloadBytes hx (j := (0 : Int32)) (v := (.int c0)) (by rw [e8]; exact Ar10.1) (State.isArrayOf_alike hZ.alike Ar10.2.1) Ar10.2.2 hi10 (G10.at hi10 rfl) (g := (mkF m 21 #[(vr a), (vi 0), .unset] [(.int 0), (.ref t)])) rfl rfl (hb hby dqJ_21) tt
 have k10 : AtQ p e below S0 T8 m 22 #[(vr a), (vi 0), .unset] [(.int c0)] := fun tt hq => k9 tt (st10 tt hq)
 have k11 : AtQ p e below S0 T8 m 26 #[(vr a), (vi 0), .unset] [(.int (c0 &&& (255 : Int32)))] := fun tt hq => k10 tt (by
  refine XS.sipush X8.here hx rfl (hb hby dqJ_22) ?_
  refine XS.iand X8.here hx rfl (hb hby dqJ_25) rfl ?_
  exact hq)
 have hE := e8
 refine retInt X8 hx hret hlk (by simp) rfl (hb hby dqJ_26) k11 ?_ (by decide) (by decide)
 try rw [hE]
 exact ⟨rfl, N6, rfl⟩
theorem rm_cp3_1 (l : Launch) (Z : State) (a0 : Array Value) (hw : ∀ d ∈ tables_1, d.before a0 Z = true) (zc : Int32) (fm : Value) (a : Addr) (t : Addr) (kt : ClassId) (c0 : Int32) (c1 : Int32) (c2 : Int32) (h0 : Heap) (n0 : Nat) (hn0 : n0 ≤ h0.size) (S_c : Sta Z Z.heap "java/lang/String" "COMPACT_STRINGS" "Z" (.int zc)) (hzc : ¬ zc = (0 : Int32)) (S_f : Sta Z Z.heap "jdk/internal/util/Preconditions" "SIOOBE_FORMATTER" "Ljava/util/function/BiFunction;" fm) (hfm : fm.isRef = true) (O0 : Old Z n0 h0) (P0 : Exa Z h0 a "java/lang/String") (P1 : FqA Z h0 a (.ref t)) (P2 : FqB Z h0 a (.int 0)) (P3 : Arv Z h0 t kt .byte (3 : Int32) [(.int c0), (.int c1), (.int c2)] (.int 0)) :
  Con l Z yqH jdk_42_method_57_code 3 (some .int) [] rqF #[(.ref a), (.int 1)] h0 (fun v h L => v = some (.int (c1 &&& (255 : Int32))) ∧ Fr n0 L ∧ h = h0) := by
 refine enter (Ls := #[(vr a), (vi 1), .unset]) (plainFor_of_name pn_1) (fun m => by exact entry_eq rfl) ?_
 intro p e s m below meth cd_ s₁ S0 hx hby hml hret hlk hnm hown hZ X0 e0 k0
 have N0 := Fr.nil n0
 have k1 : AtQ p e below S0 s₁ m 1 #[(vr a), (vi 1), .unset] [(.ref a)] := fun tt hq => k0 tt (by
  refine XS.aloadN X0.here hx rfl (hb hby dqJ_0) rfl rfl ?_
  exact hq)
 obtain ⟨_, T2, L2, X2, ⟨rfl, Nq2, eq2⟩, k2a⟩ := callV' X0 hx hZ (y := yqE) (z := yqE) hown (wq hw 106 rfl) (wq hw 107 rfl) (notFace_of_selects (args := #[]) (mvT hZ (wq hw 109 rfl))) (wq hw 109 rfl) (wq hw 108 rfl) (by decide) P0 (backC (W := 0) (rm_latin l Z a0 hw zc a h0 n0 (by omega) S_c hzc O0 P2) hZ (wq hw 110 rfl) (wq hw 14 rfl) (by decide) (by decide)) e0 (argsL := []) (rest := []) rfl rfl pd_3 rfl (by rw [hml]; rfl) (hb hby dqJ_1) (Nat.le_of_eq rfl) (by decide) (by decide) k1
 have k2 : AtQ p e below S0 T2 m 4 #[(vr a), (vi 1), .unset] [(.int 1)] := k2a
 have N2 := N0.app Nq2
 have e2 : T2.heap = h0 := eq2
 have k3 : AtQ p e below S0 T2 m 9 #[(vr a), (vi 1), .unset] [(.ref a), (.int 1)] := fun tt hq => k2 tt (by
  refine XS.ifNo X2.here hx rfl (hb hby dqJ_4) rfl ((if0 _ _).trans (feq (by decide)).1) ?_
  refine XS.iloadN X2.here hx rfl (hb hby dqJ_7) rfl ?_
  refine XS.aloadN X2.here hx rfl (hb hby dqJ_8) rfl rfl ?_
  exact hq)
 obtain ⟨T4, X4, e4, st4⟩ := getF X2 hx hZ hown (host := "") (Or.inl (wq hw 63 rfl)) Via.refl e2 P1 (g := (mkF m 9 #[(vr a), (vi 1), .unset] [(.ref a), (.int 1)])) rfl rfl (hb hby dqJ_9)
 have k4 : AtQ p e below S0 T4 m 12 #[(vr a), (vi 1), .unset] [(.ref t), (.int 1)] := fun tt hq => k3 tt (st4 tt hq)
 obtain ⟨cl5, Ar5, -, S5, M5, -, -⟩ := id P3
 have st5 := fun tt => X4.arraylength hx (by rw [e4]; exact Ar5.1) (State.isArrayOf_alike hZ.alike Ar5.2.1) (g := (mkF m 12 #[(vr a), (vi 1), .unset] [(.ref t), (.int 1)])) rfl rfl (hb hby dqJ_12) tt
 rw [len_of S5 M5] at st5
 have k5 : AtQ p e below S0 T4 m 13 #[(vr a), (vi 1), .unset] [(.int 3), (.int 1)] := fun tt hq => k4 tt (st5 tt hq)
 obtain ⟨_, T6, L6, X6, ⟨rfl, Nq6, eq6⟩, k6a⟩ := callS' X4 hx hZ (y := yqG) hown (wq hw 111 rfl) (wq hw 112 rfl) (wq hw 14 rfl) (wq hw 113 rfl) (by decide) (backC (W := 0) (rm_chk l Z a0 hw fm (1 : Int32) (3 : Int32) h0 n0 (by omega) S_f hfm O0 (by decide) (by decide)) hZ (wq hw 113 rfl) (wq hw 14 rfl) (by decide) (by decide)) e4 (argsL := [(.int 1), (.int 3)]) (rest := []) rfl rfl pd_4 rfl (by rw [hml]; rfl) (hb hby dqJ_13) (Nat.le_of_eq rfl) (by decide) (by decide) k5
 have k6 : AtQ p e below S0 T6 m 16 #[(vr a), (vi 1), .unset] [] := k6a
 have N6 := N2.app Nq6
 have e6 : T6.heap = h0 := eq6
 have k7 : AtQ p e below S0 T6 m 17 #[(vr a), (vi 1), .unset] [(.ref a)] := fun tt hq => k6 tt (by
  refine XS.aloadN X6.here hx rfl (hb hby dqJ_16) rfl rfl ?_
  exact hq)
 obtain ⟨T8, X8, e8, st8⟩ := getF X6 hx hZ hown (host := "") (Or.inl (wq hw 63 rfl)) Via.refl e6 P1 (g := (mkF m 17 #[(vr a), (vi 1), .unset] [(.ref a)])) rfl rfl (hb hby dqJ_17)
 have k8 : AtQ p e below S0 T8 m 20 #[(vr a), (vi 1), .unset] [(.ref t)] := fun tt hq => k7 tt (st8 tt hq)
 have k9 : AtQ p e below S0 T8 m 21 #[(vr a), (vi 1), .unset] [(.int 1), (.ref t)] := fun tt hq => k8 tt (by
  refine XS.iloadN X8.here hx rfl (hb hby dqJ_20) rfl ?_
  exact hq)
 obtain ⟨cl10, Ar10, -, S10, -, G10, -⟩ := id P3
 have hi10 := inb_of (j := (1 : Int32)) S10 ⟨by decide, by decide⟩
 have st10 := fun tt => X8.baloadBytes hx (j := (1 : Int32)) (v := (.int c1)) (by rw [e8]; exact Ar10.1) (State.isArrayOf_alike hZ.alike Ar10.2.1) Ar10.2.2 hi10 (G10.at hi10 rfl) (g := (mkF m 21 #[(vr a), (vi 1), .unset] [(.int 1), (.ref t)])) rfl rfl (hb hby dqJ_21) tt
 have k10 : AtQ p e below S0 T8 m 22 #[(vr a), (vi 1), .unset] [(.int c1)] := fun tt hq => k9 tt (st10 tt hq)
 have k11 : AtQ p e below S0 T8 m 26 #[(vr a), (vi 1), .unset] [(.int (c1 &&& (255 : Int32)))] := fun tt hq => k10 tt (by
  refine XS.sipush X8.here hx rfl (hb hby dqJ_22) ?_
  refine XS.iand X8.here hx rfl (hb hby dqJ_25) rfl ?_
  exact hq)
 have hE := e8
 refine retInt X8 hx hret hlk (by simp) rfl (hb hby dqJ_26) k11 ?_ (by decide) (by decide)
 try rw [hE]
 exact ⟨rfl, N6, rfl⟩
theorem rm_cp3_2 (l : Launch) (Z : State) (a0 : Array Value) (hw : ∀ d ∈ tables_1, d.before a0 Z = true) (zc : Int32) (fm : Value) (a : Addr) (t : Addr) (kt : ClassId) (c0 : Int32) (c1 : Int32) (c2 : Int32) (h0 : Heap) (n0 : Nat) (hn0 : n0 ≤ h0.size) (S_c : Sta Z Z.heap "java/lang/String" "COMPACT_STRINGS" "Z" (.int zc)) (hzc : ¬ zc = (0 : Int32)) (S_f : Sta Z Z.heap "jdk/internal/util/Preconditions" "SIOOBE_FORMATTER" "Ljava/util/function/BiFunction;" fm) (hfm : fm.isRef = true) (O0 : Old Z n0 h0) (P0 : Exa Z h0 a "java/lang/String") (P1 : FqA Z h0 a (.ref t)) (P2 : FqB Z h0 a (.int 0)) (P3 : Arv Z h0 t kt .byte (3 : Int32) [(.int c0), (.int c1), (.int c2)] (.int 0)) :
  Con l Z yqH jdk_42_method_57_code 3 (some .int) [] rqF #[(.ref a), (.int 2)] h0 (fun v h L => v = some (.int (c2 &&& (255 : Int32))) ∧ Fr n0 L ∧ h = h0) := by
 refine enter (Ls := #[(vr a), (vi 2), .unset]) (plainFor_of_name pn_1) (fun m => by exact entry_eq rfl) ?_
 intro p e s m below meth cd_ s₁ S0 hx hby hml hret hlk hnm hown hZ X0 e0 k0
 have N0 := Fr.nil n0
 have k1 : AtQ p e below S0 s₁ m 1 #[(vr a), (vi 2), .unset] [(.ref a)] := fun tt hq => k0 tt (by
  refine XS.aloadN X0.here hx rfl (hb hby dqJ_0) rfl rfl ?_
  exact hq)
 obtain ⟨_, T2, L2, X2, ⟨rfl, Nq2, eq2⟩, k2a⟩ := callV' X0 hx hZ (y := yqE) (z := yqE) hown (wq hw 106 rfl) (wq hw 107 rfl) (notFace_of_selects (args := #[]) (mvT hZ (wq hw 109 rfl))) (wq hw 109 rfl) (wq hw 108 rfl) (by decide) P0 (backC (W := 0) (rm_latin l Z a0 hw zc a h0 n0 (by omega) S_c hzc O0 P2) hZ (wq hw 110 rfl) (wq hw 14 rfl) (by decide) (by decide)) e0 (argsL := []) (rest := []) rfl rfl pd_3 rfl (by rw [hml]; rfl) (hb hby dqJ_1) (Nat.le_of_eq rfl) (by decide) (by decide) k1
 have k2 : AtQ p e below S0 T2 m 4 #[(vr a), (vi 2), .unset] [(.int 1)] := k2a
 have N2 := N0.app Nq2
 have e2 : T2.heap = h0 := eq2
 have k3 : AtQ p e below S0 T2 m 9 #[(vr a), (vi 2), .unset] [(.ref a), (.int 2)] := fun tt hq => k2 tt (by
  refine XS.ifNo X2.here hx rfl (hb hby dqJ_4) rfl ((if0 _ _).trans (feq (by decide)).1) ?_
  refine XS.iloadN X2.here hx rfl (hb hby dqJ_7) rfl ?_
  refine XS.aloadN X2.here hx rfl (hb hby dqJ_8) rfl rfl ?_
  exact hq)
 obtain ⟨T4, X4, e4, st4⟩ := getF X2 hx hZ hown (host := "") (Or.inl (wq hw 63 rfl)) Via.refl e2 P1 (g := (mkF m 9 #[(vr a), (vi 2), .unset] [(.ref a), (.int 2)])) rfl rfl (hb hby dqJ_9)
 have k4 : AtQ p e below S0 T4 m 12 #[(vr a), (vi 2), .unset] [(.ref t), (.int 2)] := fun tt hq => k3 tt (st4 tt hq)
 obtain ⟨cl5, Ar5, -, S5, M5, -, -⟩ := id P3
 have st5 := fun tt => X4.arraylength hx (by rw [e4]; exact Ar5.1) (State.isArrayOf_alike hZ.alike Ar5.2.1) (g := (mkF m 12 #[(vr a), (vi 2), .unset] [(.ref t), (.int 2)])) rfl rfl (hb hby dqJ_12) tt
 rw [len_of S5 M5] at st5
 have k5 : AtQ p e below S0 T4 m 13 #[(vr a), (vi 2), .unset] [(.int 3), (.int 2)] := fun tt hq => k4 tt (st5 tt hq)
 obtain ⟨_, T6, L6, X6, ⟨rfl, Nq6, eq6⟩, k6a⟩ := callS' X4 hx hZ (y := yqG) hown (wq hw 111 rfl) (wq hw 112 rfl) (wq hw 14 rfl) (wq hw 113 rfl) (by decide) (backC (W := 0) (rm_chk l Z a0 hw fm (2 : Int32) (3 : Int32) h0 n0 (by omega) S_f hfm O0 (by decide) (by decide)) hZ (wq hw 113 rfl) (wq hw 14 rfl) (by decide) (by decide)) e4 (argsL := [(.int 2), (.int 3)]) (rest := []) rfl rfl pd_4 rfl (by rw [hml]; rfl) (hb hby dqJ_13) (Nat.le_of_eq rfl) (by decide) (by decide) k5
 have k6 : AtQ p e below S0 T6 m 16 #[(vr a), (vi 2), .unset] [] := k6a
 have N6 := N2.app Nq6
 have e6 : T6.heap = h0 := eq6
 have k7 : AtQ p e below S0 T6 m 17 #[(vr a), (vi 2), .unset] [(.ref a)] := fun tt hq => k6 tt (by
  refine XS.aloadN X6.here hx rfl (hb hby dqJ_16) rfl rfl ?_
  exact hq)
 obtain ⟨T8, X8, e8, st8⟩ := getF X6 hx hZ hown (host := "") (Or.inl (wq hw 63 rfl)) Via.refl e6 P1 (g := (mkF m 17 #[(vr a), (vi 2), .unset] [(.ref a)])) rfl rfl (hb hby dqJ_17)
 have k8 : AtQ p e below S0 T8 m 20 #[(vr a), (vi 2), .unset] [(.ref t)] := fun tt hq => k7 tt (st8 tt hq)
 have k9 : AtQ p e below S0 T8 m 21 #[(vr a), (vi 2), .unset] [(.int 2), (.ref t)] := fun tt hq => k8 tt (by
  refine XS.iloadN X8.here hx rfl (hb hby dqJ_20) rfl ?_
  exact hq)
 obtain ⟨cl10, Ar10, -, S10, -, G10, -⟩ := id P3
 have hi10 := inb_of (j := (2 : Int32)) S10 ⟨by decide, by decide⟩
 have st10 := fun tt => X8.baloadBytes hx (j := (2 : Int32)) (v := (.int c2)) (by rw [e8]; exact Ar10.1) (State.isArrayOf_alike hZ.alike Ar10.2.1) Ar10.2.2 hi10 (G10.at hi10 rfl) (g := (mkF m 21 #[(vr a), (vi 2), .unset] [(.int 2), (.ref t)])) rfl rfl (hb hby dqJ_21) tt
 have k10 : AtQ p e below S0 T8 m 22 #[(vr a), (vi 2), .unset] [(.int c2)] := fun tt hq => k9 tt (st10 tt hq)
 have k11 : AtQ p e below S0 T8 m 26 #[(vr a), (vi 2), .unset] [(.int (c2 &&& (255 : Int32)))] := fun tt hq => k10 tt (by
  refine XS.sipush X8.here hx rfl (hb hby dqJ_22) ?_
  refine XS.iand X8.here hx rfl (hb hby dqJ_25) rfl ?_
  exact hq)
 have hE := e8
 refine retInt X8 hx hret hlk (by simp) rfl (hb hby dqJ_26) k11 ?_ (by decide) (by decide)
 try rw [hE]
 exact ⟨rfl, N6, rfl⟩
abbrev ulo (d : Int32) : Int32 := nar .byte ((d >>> ((0 : Int32) &&& 31)).toInt8.toInt32)
abbrev uhi (d : Int32) : Int32 := nar .byte ((d >>> ((8 : Int32) &&& 31)).toInt8.toInt32)
theorem own_m8 : ∀ j, j < 32 → (255 : Int32).toBitVec.getLsbD j = decide (j < 8) := by decide
theorem own_nb (x : Int32) : (nar .byte (x.toInt8.toInt32)) &&& (255 : Int32) = x &&& (255 : Int32) := by
  rw [← Int32.toBitVec_inj]
  have e : (nar .byte (x.toInt8.toInt32)).toBitVec = (x.toBitVec.signExtend 8).signExtend 32 := by
    simp [nar, narrow]
  rw [Int32.toBitVec_and, Int32.toBitVec_and, e]
  apply BitVec.eq_of_getLsbD_eq
  intro i hi
  simp only [BitVec.getLsbD_and, own_m8 i hi]
  by_cases h : i < 8
  · rw [BitVec.getLsbD_signExtend, BitVec.getLsbD_signExtend]; simp [h, hi, show i < 32 from hi]
  · simp [h]
theorem own_u16 (d : Int32) (h0 : ¬ d < (0 : Int32)) (h1 : d < (65536 : Int32)) : (((d >>> ((0 : Int32) &&& 31)) &&& (255 : Int32)) <<< ((0 : Int32) &&& 31)) ||| (((d >>> ((8 : Int32) &&& 31)) &&& (255 : Int32)) <<< ((8 : Int32) &&& 31)) = d := by
  have hb : ∀ i, 16 ≤ i → d.toBitVec.getLsbD i = false := by
    intro i hi
    have e : d.toBitVec.toNat < 65536 := by
      rw [Int32.lt_iff_toInt_lt] at h0 h1
      have a0 : (0 : Int32).toInt = 0 := rfl
      have a1 : (65536 : Int32).toInt = 65536 := rfl
      have a2 : d.toInt = d.toBitVec.toInt := rfl
      have a3 := BitVec.toInt_eq_toNat_cond d.toBitVec
      have a4 := d.toBitVec.isLt
      split at a3 <;> omega
    rw [BitVec.getLsbD, Nat.testBit_lt_two_pow]
    exact Nat.lt_of_lt_of_le e (Nat.pow_le_pow_right (n := 2) (by decide) hi)
  have hs : d.toBitVec.msb = false := by rw [BitVec.msb_eq_getLsbD_last]; exact hb _ (by decide)
  rw [← Int32.toBitVec_inj]
  have s0 : ((0 : Int32) &&& 31) = 0 := by decide
  have s8 : ((8 : Int32) &&& 31) = 8 := by decide
  rw [s0, s8]
  simp only [Int32.toBitVec_or, Int32.toBitVec_and, Int32.toBitVec_shiftLeft, Int32.toBitVec_shiftRight]
  have z0 : ((0 : Int32).toBitVec.smod 32) = 0#32 := by decide
  have z8 : ((8 : Int32).toBitVec.smod 32) = 8#32 := by decide
  rw [z0, z8]
  apply BitVec.eq_of_getLsbD_eq
  intro i hi
  simp only [BitVec.shiftLeft_eq', BitVec.getLsbD_or, BitVec.getLsbD_shiftLeft, BitVec.getLsbD_and, BitVec.sshiftRight_eq', BitVec.getLsbD_sshiftRight, hs, show (0#32).toNat = 0 from rfl, show (8#32).toNat = 8 from rfl, Nat.sub_zero, Nat.zero_add]
  by_cases c1 : i < 8
  · have := own_m8 i hi
    simp only [this, c1, hi, show ¬ (32 ≤ i) by omega, show i < 32 from hi]
    simp
  · by_cases c2 : i < 16
    · have := own_m8 i hi; have t := own_m8 (i - 8) (by omega)
      simp only [this, t, c1, hi, show i - 8 < 8 by omega, show 8 + (i - 8) = i by omega, show 8 + (i - 8) < 32 by omega, show ¬ (32 ≤ i - 8) by omega]
      simp [hi]
    · have := own_m8 i hi; have t := own_m8 (i - 8) (by omega)
      simp only [this, t, c1, hi, show ¬ (i - 8 < 8) by omega, hb i (by omega)]
      simp
theorem own_c16 {d : Int32} (h0 : ¬ d < (0 : Int32)) (h1 : d < (65536 : Int32)) : d.toUInt32.toUInt16.toUInt32.toInt32 = d := by
  have e : d.toBitVec.toNat < 65536 := by
    rw [Int32.lt_iff_toInt_lt] at h0 h1
    have a0 : (0 : Int32).toInt = 0 := rfl
    have a1 : (65536 : Int32).toInt = 65536 := rfl
    have a2 : d.toInt = d.toBitVec.toInt := rfl
    have a3 := BitVec.toInt_eq_toNat_cond d.toBitVec
    have a4 := d.toBitVec.isLt
    split at a3 <;> omega
  rw [← Int32.toBitVec_inj]
  apply BitVec.eq_of_toNat_eq
  simp
  omega
theorem own_nar16 {d : Int32} (h0 : ¬ d < (0 : Int32)) (h1 : d < (65536 : Int32)) : narrow .char (.int d) = .int d := by
  show Value.int (d.toUInt32.toUInt16.toUInt32.toInt32) = .int d
  rw [own_c16 h0 h1]
theorem own_gc {d : Int32} (h0 : ¬ d < (0 : Int32)) (h1 : d < (65536 : Int32)) : ((((ulo d) &&& (255 : Int32)) <<< ((0 : Int32) &&& 31)) ||| (((uhi d) &&& (255 : Int32)) <<< ((8 : Int32) &&& 31))).toUInt32.toUInt16.toUInt32.toInt32 = d := by
  unfold ulo uhi
  rw [own_nb, own_nb, own_u16 d h0 h1, own_c16 h0 h1]
theorem own_lt16 {d : Int32} (h : ¬ d < (0 : Int32) ∧ ¬ (255 : Int32) < d) : d < (65536 : Int32) := by
  have h := h.2
  rw [Int32.lt_iff_toInt_lt] at h ⊢
  have e1 : (65536 : Int32).toInt = 65536 := by decide
  have e2 : (255 : Int32).toInt = 255 := by decide
  omega
theorem own_lt55 {d : Int32} (h : ¬ d < (0 : Int32) ∧ ¬ (255 : Int32) < d) : d < (55296 : Int32) := by
  have h := h.2
  rw [Int32.lt_iff_toInt_lt] at h ⊢
  have e1 : (55296 : Int32).toInt = 55296 := by decide
  have e2 : (255 : Int32).toInt = 255 := by decide
  omega

theorem dqE_0 : decode jdk_42_method_152_code 0 = .ok (.getstatic 38, 3) := by decide +kernel
theorem dqE_3 : decode jdk_42_method_152_code 3 = .ok (.ifCond .eq 10, 3) := by decide +kernel
theorem dqE_6 : decode jdk_42_method_152_code 6 = .ok (.aload_n 0, 1) := by decide +kernel
theorem dqE_7 : decode jdk_42_method_152_code 7 = .ok (.getfield 15, 3) := by decide +kernel
theorem dqE_10 : decode jdk_42_method_152_code 10 = .ok (.goto 4, 3) := by decide +kernel
theorem dqE_13 : decode jdk_42_method_152_code 13 = .ok (.iconst 1, 1) := by decide +kernel
theorem dqE_14 : decode jdk_42_method_152_code 14 = .ok (.ireturn, 1) := by decide +kernel
theorem rm_cod (l : Launch) (Z : State) (a0 : Array Value) (hw : ∀ d ∈ tables_1, d.before a0 Z = true) (zc : Int32) (a : Addr) (cd : Int32) (h0 : Heap) (n0 : Nat) (hn0 : n0 ≤ h0.size) (S_c : Sta Z Z.heap "java/lang/String" "COMPACT_STRINGS" "Z" (.int zc)) (hzc : ¬ zc = (0 : Int32)) (O0 : Old Z n0 h0) (hcd : narrow .byte (.int cd) = .int cd) (F0 : FqB Z h0 a (.int cd)) :
  Con l Z yqI jdk_42_method_152_code 1 (some .byte) [] rqA #[(.ref a)] h0 (fun v h L => v = some (.int cd) ∧ Fr n0 L ∧ h = h0) := by
 refine enter (Ls := #[(vr a)]) (plainFor_of_name pn_1) (fun m => by exact entry_eq rfl) ?_
 intro p e s m below meth cd_ s₁ S0 hx hby hml hret hlk hnm hown hZ X0 e0 k0
 have N0 := Fr.nil n0
 obtain ⟨T1, X1, e1, st1⟩ := getS2 X0 hx hZ hown (host := "") (Or.inl (wq hw 32 rfl)) Via.refl e0 (staOld S_c O0) (g := (mkF m 0 #[(vr a)] [])) rfl (hb hby dqE_0)
 have k1 : AtQ p e below S0 T1 m 3 #[(vr a)] [(.int zc)] := fun tt hq => k0 tt (st1 tt hq)
 have k2 : AtQ p e below S0 T1 m 7 #[(vr a)] [(.ref a)] := fun tt hq => k1 tt (by
  refine XS.ifNo X1.here hx rfl (hb hby dqE_3) rfl ((if0 _ _).trans (feq hzc).1) ?_
  refine XS.aloadN X1.here hx rfl (hb hby dqE_6) rfl rfl ?_
  exact hq)
 obtain ⟨T3, X3, e3, st3⟩ := getF X1 hx hZ hown (host := "") (Or.inl (wq hw 62 rfl)) Via.refl e1 F0 (g := (mkF m 7 #[(vr a)] [(.ref a)])) rfl rfl (hb hby dqE_7)
 have k3 : AtQ p e below S0 T3 m 10 #[(vr a)] [(.int cd)] := fun tt hq => k2 tt (st3 tt hq)
 have k4 : AtQ p e below S0 T3 m 14 #[(vr a)] [(.int cd)] := fun tt hq => k3 tt (by
  refine XS.goto X3.here hx rfl (pc0 := 10) (pc' := 14) rfl (hb hby dqE_10) (by decide) (by decide) ?_
  exact hq)
 have hE := e3
 refine retInt X3 hx hret hlk (by simp) hcd (hb hby dqE_14) k4 ?_ (by decide) (by decide)
 try rw [hE]
 exact ⟨rfl, N0, rfl⟩
theorem dqI_0 : decode jdk_42_method_54_code 0 = .ok (.aload_n 0, 1) := by decide +kernel
theorem dqI_1 : decode jdk_42_method_54_code 1 = .ok (.getfield 9, 3) := by decide +kernel
theorem dqI_4 : decode jdk_42_method_54_code 4 = .ok (.arraylength, 1) := by decide +kernel
theorem dqI_5 : decode jdk_42_method_54_code 5 = .ok (.aload_n 0, 1) := by decide +kernel
theorem dqI_6 : decode jdk_42_method_54_code 6 = .ok (.invokevirtual 335, 3) := by decide +kernel
theorem dqI_9 : decode jdk_42_method_54_code 9 = .ok (.ishr, 1) := by decide +kernel
theorem dqI_10 : decode jdk_42_method_54_code 10 = .ok (.ireturn, 1) := by decide +kernel
theorem pd_5 : parseMethodDescriptor "()B" = some ⟨[], some .byte⟩ := by decide +kernel
theorem rm_lenu (l : Launch) (Z : State) (a0 : Array Value) (hw : ∀ d ∈ tables_1, d.before a0 Z = true) (zc : Int32) (a : Addr) (t : Addr) (kt : ClassId) (nb : Int32) (vs : List Value) (cd : Int32) (ln : Int32) (h0 : Heap) (n0 : Nat) (hn0 : n0 ≤ h0.size) (S_c : Sta Z Z.heap "java/lang/String" "COMPACT_STRINGS" "Z" (.int zc)) (hzc : ¬ zc = (0 : Int32)) (O0 : Old Z n0 h0) (hcd : narrow .byte (.int cd) = .int cd) (hln : (nb >>> (cd &&& 31)) = ln) (P0 : Exa Z h0 a "java/lang/String") (P1 : FqA Z h0 a (.ref t)) (P2 : FqB Z h0 a (.int cd)) (P3 : Arv Z h0 t kt .byte nb vs (.int 0)) :
  Con l Z yqJ jdk_42_method_54_code 1 (some .int) [] rqG #[(.ref a)] h0 (fun v h L => v = some (.int ln) ∧ Fr n0 L ∧ h = h0) := by
 refine enter (Ls := #[(vr a)]) (plainFor_of_name pn_1) (fun m => by exact entry_eq rfl) ?_
 intro p e s m below meth cd_ s₁ S0 hx hby hml hret hlk hnm hown hZ X0 e0 k0
 have N0 := Fr.nil n0
 have k1 : AtQ p e below S0 s₁ m 1 #[(vr a)] [(.ref a)] := fun tt hq => k0 tt (by
  refine XS.aloadN X0.here hx rfl (hb hby dqI_0) rfl rfl ?_
  exact hq)
 obtain ⟨T2, X2, e2, st2⟩ := getF X0 hx hZ hown (host := "") (Or.inl (wq hw 63 rfl)) Via.refl e0 P1 (g := (mkF m 1 #[(vr a)] [(.ref a)])) rfl rfl (hb hby dqI_1)
 have k2 : AtQ p e below S0 T2 m 4 #[(vr a)] [(.ref t)] := fun tt hq => k1 tt (st2 tt hq)
 obtain ⟨cl3, Ar3, -, S3, M3, -, -⟩ := id P3
 have st3 := fun tt => X2.arraylength hx (by rw [e2]; exact Ar3.1) (State.isArrayOf_alike hZ.alike Ar3.2.1) (g := (mkF m 4 #[(vr a)] [(.ref t)])) rfl rfl (hb hby dqI_4) tt
 rw [len_of S3 M3] at st3
 have k3 : AtQ p e below S0 T2 m 5 #[(vr a)] [(.int nb)] := fun tt hq => k2 tt (st3 tt hq)
 have k4 : AtQ p e below S0 T2 m 6 #[(vr a)] [(.ref a), (.int nb)] := fun tt hq => k3 tt (by
  refine XS.aloadN X2.here hx rfl (hb hby dqI_5) rfl rfl ?_
  exact hq)
 obtain ⟨_, T5, L5, X5, ⟨rfl, Nq5, eq5⟩, k5a⟩ := callV' X2 hx hZ (y := yqI) (z := yqI) hown (wq hw 153 rfl) (wq hw 154 rfl) (notFace_of_selects (args := #[]) (mvT hZ (wq hw 156 rfl))) (wq hw 156 rfl) (wq hw 155 rfl) (by decide) P0 (backC (W := 1) (rm_cod l Z a0 hw zc a cd h0 n0 (by omega) S_c hzc O0 hcd P2) hZ (wq hw 157 rfl) (wq hw 14 rfl) (by decide) (by decide)) e2 (argsL := []) (rest := [(.int nb)]) rfl rfl pd_5 rfl (by rw [hml]; rfl) (hb hby dqI_6) (Nat.le_of_eq rfl) (by decide) (by decide) k4
 have k5 : AtQ p e below S0 T5 m 9 #[(vr a)] [(.int cd), (.int nb)] := k5a
 have N5 := N0.app Nq5
 have e5 : T5.heap = h0 := eq5
 have k6 : AtQ p e below S0 T5 m 10 #[(vr a)] [(.int (nb >>> (cd &&& 31)))] := fun tt hq => k5 tt (by
  refine XS.ishr X5.here hx rfl (hb hby dqI_9) rfl ?_
  exact hq)
 have hE := e5
 refine retInt X5 hx hret hlk (by simp) rfl (hb hby dqI_10) k6 ?_ (by decide) (by decide)
 try rw [hE]
 exact ⟨by rw [hln], N5, rfl⟩
theorem dqA_0 : decode jdk_29_method_69_code 0 = .ok (.iload_n 0, 1) := by decide +kernel
theorem dqA_1 : decode jdk_29_method_69_code 1 = .ok (.iload_n 1, 1) := by decide +kernel
theorem dqA_2 : decode jdk_29_method_69_code 2 = .ok (.if_icmp .gt 7, 3) := by decide +kernel
theorem dqA_5 : decode jdk_29_method_69_code 5 = .ok (.iload_n 0, 1) := by decide +kernel
theorem dqA_6 : decode jdk_29_method_69_code 6 = .ok (.goto 4, 3) := by decide +kernel
theorem dqA_9 : decode jdk_29_method_69_code 9 = .ok (.iload_n 1, 1) := by decide +kernel
theorem dqA_10 : decode jdk_29_method_69_code 10 = .ok (.ireturn, 1) := by decide +kernel
theorem rm_min (l : Launch) (Z : State) (a0 : Array Value) (hw : ∀ d ∈ tables_1, d.before a0 Z = true) (a : Int32) (b : Int32) (c : Int32) (h0 : Heap) (n0 : Nat) (hn0 : n0 ≤ h0.size) (hc : (if b < a then b else a) = c) :
  Con l Z yqK jdk_29_method_69_code 2 (some .int) [] rqA #[(.int a), (.int b)] h0 (fun v h L => v = some (.int c) ∧ Fr n0 L ∧ h = h0) := by
 refine enter (Ls := #[(vi a), (vi b)]) (Jvm.Free.JP.mathPlain rfl (by decide +kernel)) (fun m => by exact entry_eq rfl) ?_
 intro p e s m below meth cd_ s₁ S0 hx hby hml hret hlk hnm hown hZ X0 e0 k0
 have N0 := Fr.nil n0
 have k1 : AtQ p e below S0 s₁ m 2 #[(vi a), (vi b)] [(.int b), (.int a)] := fun tt hq => k0 tt (by
  refine XS.iloadN X0.here hx rfl (hb hby dqA_0) rfl ?_
  refine XS.iloadN X0.here hx rfl (hb hby dqA_1) rfl ?_
  exact hq)
 by_cases hc2_2 : b < a
 ·
  have k3 : AtQ p e below S0 s₁ m 10 #[(vi a), (vi b)] [(.int b)] := fun tt hq => k1 tt (by
   refine XS.icmpYes X0.here hx rfl (pc0 := 2) (pc' := 9) rfl (hb hby dqA_2) rfl (tlt hc2_2).2.2.1 (by decide) (by decide) ?_
   refine XS.iloadN X0.here hx rfl (hb hby dqA_9) rfl ?_
   exact hq)
  have hE := e0
  refine retInt X0 hx hret hlk (by simp) rfl (hb hby dqA_10) k3 ?_ (by decide) (by decide)
  try rw [hE]
  exact ⟨by rw [← hc, if_pos hc2_2], N0, rfl⟩
 ·
  have k4 : AtQ p e below S0 s₁ m 10 #[(vi a), (vi b)] [(.int a)] := fun tt hq => k1 tt (by
   refine XS.icmpNo X0.here hx rfl (hb hby dqA_2) rfl (flt hc2_2).2.2.1 ?_
   refine XS.iloadN X0.here hx rfl (hb hby dqA_5) rfl ?_
   refine XS.goto X0.here hx rfl (pc0 := 6) (pc' := 10) rfl (hb hby dqA_6) (by decide) (by decide) ?_
   exact hq)
  have hE := e0
  refine retInt X0 hx hret hlk (by simp) rfl (hb hby dqA_10) k4 ?_ (by decide) (by decide)
  try rw [hE]
  exact ⟨by rw [← hc, if_neg hc2_2], N0, rfl⟩
theorem dqB_0 : decode jdk_30_method_1_code 0 = .ok (.aload_n 0, 1) := by decide +kernel
theorem dqB_1 : decode jdk_30_method_1_code 1 = .ok (.invokespecial 1, 3) := by decide +kernel
theorem dqB_4 : decode jdk_30_method_1_code 4 = .ok (.return_, 1) := by decide +kernel
theorem pn_3 : plainName "java/lang/Record" = true := by first | (simp [plainName, overriddenIn]; done) | decide +kernel
theorem rm_rec (l : Launch) (Z : State) (a0 : Array Value) (hw : ∀ d ∈ tables_1, d.before a0 Z = true) (a : Addr) (h0 : Heap) (n0 : Nat) (hn0 : n0 ≤ h0.size)  :
  Con l Z yqL jdk_30_method_1_code 1 none [] rqH #[(.ref a)] h0 (fun v h L => v = none ∧ Fr n0 L ∧ h = h0) := by
 refine enter (Ls := #[(vr a)]) (plainFor_of_name pn_3) (fun m => by exact entry_eq rfl) ?_
 intro p e s m below meth cd_ s₁ S0 hx hby hml hret hlk hnm hown hZ X0 e0 k0
 have N0 := Fr.nil n0
 have k1 : AtQ p e below S0 s₁ m 1 #[(vr a)] [(.ref a)] := fun tt hq => k0 tt (by
  refine XS.aloadN X0.here hx rfl (hb hby dqB_0) rfl rfl ?_
  exact hq)
 obtain ⟨T2, X2, e2, st2⟩ := initO X0 hx hZ hown (wq hw 72 rfl) (wq hw 30 rfl) (wq hw 31 rfl) e0 (g := (mkF m 1 #[(vr a)] [(.ref a)])) rfl (by rw [hml]; rfl) rfl (hb hby dqB_1) (by decide) (W := 0) (by show 2 * 0 + _ ≤ _; exact Nat.le_of_eq rfl) (by decide)
 have k2 : AtQ p e below S0 T2 m 4 #[(vr a)] [] := fun tt hq => k1 tt (st2 tt hq)
 have hE := e2
 refine retVoid X2 hx hret hlk (hb hby dqB_4) k2 ?_ (by decide) (by decide)
 try rw [hE]
 exact ⟨rfl, N0, rfl⟩
theorem dqY_0 : decode prog_120_method_1_code 0 = .ok (.aload_n 0, 1) := by decide +kernel
theorem dqY_1 : decode prog_120_method_1_code 1 = .ok (.invokespecial 1, 3) := by decide +kernel
theorem dqY_4 : decode prog_120_method_1_code 4 = .ok (.aload_n 0, 1) := by decide +kernel
theorem dqY_5 : decode prog_120_method_1_code 5 = .ok (.aload_n 1, 1) := by decide +kernel
theorem dqY_6 : decode prog_120_method_1_code 6 = .ok (.putfield 7, 3) := by decide +kernel
theorem dqY_9 : decode prog_120_method_1_code 9 = .ok (.aload_n 0, 1) := by decide +kernel
theorem dqY_10 : decode prog_120_method_1_code 10 = .ok (.aload_n 2, 1) := by decide +kernel
theorem dqY_11 : decode prog_120_method_1_code 11 = .ok (.putfield 13, 3) := by decide +kernel
theorem dqY_14 : decode prog_120_method_1_code 14 = .ok (.return_, 1) := by decide +kernel
theorem pn_4 : plainName "com/example/ceruline/ceruline/source/SourceFile" = true := by first | (simp [plainName, overriddenIn]; done) | decide +kernel
theorem pd_6 : parseMethodDescriptor "()V" = some ⟨[], none⟩ := by decide +kernel
theorem rm_sfi (l : Launch) (Z : State) (a0 : Array Value) (hw : ∀ d ∈ tables_1, d.before a0 Z = true) (a : Addr) (u1 : Addr) (u2 : Addr) (h0 : Heap) (n0 : Nat) (hn0 : n0 ≤ h0.size) (P0 : Exa Z h0 a "com/example/ceruline/ceruline/source/SourceFile") (P1 : FqC Z h0 a .null) (P2 : FqD Z h0 a .null) (ga : n0 ≤ a) :
  Con l Z yqM prog_120_method_1_code 3 none [] rqI #[(.ref a), (.ref u1), (.ref u2)] h0 (fun v h L => v = none ∧ Fr n0 L ∧ Keep h0 h [a] ∧ Exa Z h a "com/example/ceruline/ceruline/source/SourceFile" ∧ FqC Z h a (.ref u1) ∧ FqD Z h a (.ref u2)) := by
 refine enter (Ls := #[(vr a), (vr u1), (vr u2)]) (plainFor_of_name pn_4) (fun m => by exact entry_eq rfl) ?_
 intro p e s m below meth cd_ s₁ S0 hx hby hml hret hlk hnm hown hZ X0 e0 k0
 have N0 := Fr.nil n0
 have k1 : AtQ p e below S0 s₁ m 1 #[(vr a), (vr u1), (vr u2)] [(.ref a)] := fun tt hq => k0 tt (by
  refine XS.aloadN X0.here hx rfl (hb hby dqY_0) rfl rfl ?_
  exact hq)
 obtain ⟨_, T2, L2, X2, ⟨rfl, Nq2, eq2⟩, k2a⟩ := callC' X0 hx hZ (y := yqL) rfl hown (wq hw 67 rfl) (wq hw 68 rfl) (wq hw 71 rfl) (by decide) (backC (W := 0) (rm_rec l Z a0 hw a h0 n0 (by omega)) hZ (wq hw 71 rfl) (wq hw 70 rfl) (by decide) (by decide)) e0 (argsL := []) (rest := []) rfl rfl pd_6 rfl (by rw [hml]; rfl) (hb hby dqY_1) (Nat.le_of_eq rfl) (by decide) (by decide) k1
 have k2 : AtQ p e below S0 T2 m 4 #[(vr a), (vr u1), (vr u2)] [] := k2a
 have N2 := N0.app Nq2
 have e2 : T2.heap = h0 := eq2
 have k3 : AtQ p e below S0 T2 m 6 #[(vr a), (vr u1), (vr u2)] [(.ref u1), (.ref a)] := fun tt hq => k2 tt (by
  refine XS.aloadN X2.here hx rfl (hb hby dqY_4) rfl rfl ?_
  refine XS.aloadN X2.here hx rfl (hb hby dqY_5) rfl rfl ?_
  exact hq)
 obtain ⟨T4, h4, X4, e4, W4, st4⟩ := putF X2 hx hZ hown (host := "") (Or.inl (wq hw 73 rfl)) Via.refl e2 P1 P0 (Or.inr ⟨(wq hw 74 rfl), rfl, hnm⟩) (wq hw 11 rfl) (ty := (.object "java/lang/String")) (by decide) rfl rfl (g := (mkF m 6 #[(vr a), (vr u1), (vr u2)] [(.ref u1), (.ref a)])) rfl rfl (hb hby dqY_6)
 have k4 : AtQ p e below S0 T4 m 9 #[(vr a), (vr u1), (vr u2)] [] := fun tt hq => k3 tt (st4 tt hq)
 have z4 : h4.size = h0.size := W4.size
 have F4 := P1.same W4
 have N4 := Fr.snoc X4 N2 (by omega : n0 ≤ a)
 have f5 : Exa Z h4 a "com/example/ceruline/ceruline/source/SourceFile" := (P0.wr W4)
 have f6 : FqD Z h4 a .null := (P2.other W4 (Or.inr (slot_ne (Or.inr (wq hw 76 rfl)) (Or.inr (wq hw 74 rfl)) (by decide) (t := (.object "java/lang/String")) (t' := (.object "java/lang/String")) (by decide) (by decide))))
 have k7 : AtQ p e below S0 T4 m 11 #[(vr a), (vr u1), (vr u2)] [(.ref u2), (.ref a)] := fun tt hq => k4 tt (by
  refine XS.aloadN X4.here hx rfl (hb hby dqY_9) rfl rfl ?_
  refine XS.aloadN X4.here hx rfl (hb hby dqY_10) rfl rfl ?_
  exact hq)
 obtain ⟨T8, h8, X8, e8, W8, st8⟩ := putF X4 hx hZ hown (host := "") (Or.inl (wq hw 75 rfl)) Via.refl e4 f6 f5 (Or.inr ⟨(wq hw 76 rfl), rfl, hnm⟩) (wq hw 11 rfl) (ty := (.object "java/lang/String")) (by decide) rfl rfl (g := (mkF m 11 #[(vr a), (vr u1), (vr u2)] [(.ref u2), (.ref a)])) rfl rfl (hb hby dqY_11)
 have k8 : AtQ p e below S0 T8 m 14 #[(vr a), (vr u1), (vr u2)] [] := fun tt hq => k7 tt (st8 tt hq)
 have z8 : h8.size = h4.size := W8.size
 have F8 := f6.same W8
 have N8 := Fr.snoc X8 N4 (by omega : n0 ≤ a)
 have f9 : Exa Z h8 a "com/example/ceruline/ceruline/source/SourceFile" := (f5.wr W8)
 have f10 : FqC Z h8 a (.ref u1) := (F4.other W8 (Or.inr (slot_ne (Or.inr (wq hw 74 rfl)) (Or.inr (wq hw 76 rfl)) (by decide) (t := (.object "java/lang/String")) (t' := (.object "java/lang/String")) (by decide) (by decide))))
 have hE := e8
 refine retVoid X8 hx hret hlk (hb hby dqY_14) k8 ?_ (by decide) (by decide)
 try rw [hE]
 exact ⟨rfl, N8, (((Keep.refl h0 [a]).wr W4 (Or.inl (by simp))).wr W8 (Or.inl (by simp))), f9, f10, F8⟩
theorem dqZ_0 : decode prog_120_method_7_code 0 = .ok (.aload_n 0, 1) := by decide +kernel
theorem dqZ_1 : decode prog_120_method_7_code 1 = .ok (.getfield 13, 3) := by decide +kernel
theorem dqZ_4 : decode prog_120_method_7_code 4 = .ok (.areturn, 1) := by decide +kernel
theorem rm_sft (l : Launch) (Z : State) (a0 : Array Value) (hw : ∀ d ∈ tables_1, d.before a0 Z = true) (a : Addr) (u : Addr) (h0 : Heap) (n0 : Nat) (hn0 : n0 ≤ h0.size) (F0 : FqD Z h0 a (.ref u)) :
  Con l Z yqN prog_120_method_7_code 1 (some (.object "java/lang/String")) [] rqA #[(.ref a)] h0 (fun v h L => v = some (.ref u) ∧ Fr n0 L ∧ h = h0) := by
 refine enter (Ls := #[(vr a)]) (plainFor_of_name pn_4) (fun m => by exact entry_eq rfl) ?_
 intro p e s m below meth cd_ s₁ S0 hx hby hml hret hlk hnm hown hZ X0 e0 k0
 have N0 := Fr.nil n0
 have k1 : AtQ p e below S0 s₁ m 1 #[(vr a)] [(.ref a)] := fun tt hq => k0 tt (by
  refine XS.aloadN X0.here hx rfl (hb hby dqZ_0) rfl rfl ?_
  exact hq)
 obtain ⟨T2, X2, e2, st2⟩ := getF X0 hx hZ hown (host := "") (Or.inl (wq hw 75 rfl)) Via.refl e0 F0 (g := (mkF m 1 #[(vr a)] [(.ref a)])) rfl rfl (hb hby dqZ_1)
 have k2 : AtQ p e below S0 T2 m 4 #[(vr a)] [(.ref u)] := fun tt hq => k1 tt (st2 tt hq)
 have hE := e2
 refine retRef X2 hx hret hlk rfl rfl (hb hby dqZ_4) k2 ?_ (by decide) (by decide)
 try rw [hE]
 exact ⟨rfl, N0, rfl⟩
theorem dqAA_0 : decode prog_66_method_1_code 0 = .ok (.aload_n 0, 1) := by decide +kernel
theorem dqAA_1 : decode prog_66_method_1_code 1 = .ok (.invokespecial 1, 3) := by decide +kernel
theorem dqAA_4 : decode prog_66_method_1_code 4 = .ok (.aload_n 0, 1) := by decide +kernel
theorem dqAA_5 : decode prog_66_method_1_code 5 = .ok (.iconst 1, 1) := by decide +kernel
theorem dqAA_6 : decode prog_66_method_1_code 6 = .ok (.putfield 7, 3) := by decide +kernel
theorem dqAA_9 : decode prog_66_method_1_code 9 = .ok (.aload_n 0, 1) := by decide +kernel
theorem dqAA_10 : decode prog_66_method_1_code 10 = .ok (.iconst 1, 1) := by decide +kernel
theorem dqAA_11 : decode prog_66_method_1_code 11 = .ok (.putfield 13, 3) := by decide +kernel
theorem dqAA_14 : decode prog_66_method_1_code 14 = .ok (.aload_n 0, 1) := by decide +kernel
theorem dqAA_15 : decode prog_66_method_1_code 15 = .ok (.aload_n 1, 1) := by decide +kernel
theorem dqAA_16 : decode prog_66_method_1_code 16 = .ok (.putfield 16, 3) := by decide +kernel
theorem dqAA_19 : decode prog_66_method_1_code 19 = .ok (.aload_n 0, 1) := by decide +kernel
theorem dqAA_20 : decode prog_66_method_1_code 20 = .ok (.aload_n 1, 1) := by decide +kernel
theorem dqAA_21 : decode prog_66_method_1_code 21 = .ok (.invokevirtual 20, 3) := by decide +kernel
theorem dqAA_24 : decode prog_66_method_1_code 24 = .ok (.putfield 26, 3) := by decide +kernel
theorem dqAA_27 : decode prog_66_method_1_code 27 = .ok (.return_, 1) := by decide +kernel
theorem pn_5 : plainName "com/example/ceruline/ceruline/parsing/SourceReader" = true := by first | (simp [plainName, overriddenIn]; done) | decide +kernel
theorem pd_7 : parseMethodDescriptor "()Ljava/lang/String;" = some ⟨[], some (.object "java/lang/String")⟩ := by decide +kernel
theorem rm_sri (l : Launch) (Z : State) (a0 : Array Value) (hw : ∀ d ∈ tables_1, d.before a0 Z = true) (a : Addr) (b : Addr) (u : Addr) (h0 : Heap) (n0 : Nat) (hn0 : n0 ≤ h0.size) (P0 : Exa Z h0 a "com/example/ceruline/ceruline/parsing/SourceReader") (P1 : FqE Z h0 a .null) (P2 : FqF Z h0 a .null) (P3 : FqG Z h0 a (.int 0)) (P4 : FqH Z h0 a (.int 0)) (P5 : FqI Z h0 a (.int 0)) (E1 : Exa Z h0 b "com/example/ceruline/ceruline/source/SourceFile") (F1 : FqD Z h0 b (.ref u)) (ga : n0 ≤ a) (nab : ¬ (@Eq Nat b a)) :
  Con l Z yqO prog_66_method_1_code 2 none [] rqG #[(.ref a), (.ref b)] h0 (fun v h L => v = none ∧ Fr n0 L ∧ Keep h0 h [a] ∧ Exa Z h a "com/example/ceruline/ceruline/parsing/SourceReader" ∧ FqE Z h a (.ref b) ∧ FqF Z h a (.ref u) ∧ FqG Z h a (.int 0) ∧ FqH Z h a (.int 1) ∧ FqI Z h a (.int 1)) := by
 refine enter (Ls := #[(vr a), (vr b)]) (plainFor_of_name pn_5) (fun m => by exact entry_eq rfl) ?_
 intro p e s m below meth cd_ s₁ S0 hx hby hml hret hlk hnm hown hZ X0 e0 k0
 have N0 := Fr.nil n0
 have k1 : AtQ p e below S0 s₁ m 1 #[(vr a), (vr b)] [(.ref a)] := fun tt hq => k0 tt (by
  refine XS.aloadN X0.here hx rfl (hb hby dqAA_0) rfl rfl ?_
  exact hq)
 obtain ⟨T2, X2, e2, st2⟩ := initO X0 hx hZ hown (wq hw 80 rfl) (wq hw 30 rfl) (wq hw 31 rfl) e0 (g := (mkF m 1 #[(vr a), (vr b)] [(.ref a)])) rfl (by rw [hml]; rfl) rfl (hb hby dqAA_1) (by decide) (W := 0) (by show 2 * 0 + _ ≤ _; exact Nat.le_of_eq rfl) (by decide)
 have k2 : AtQ p e below S0 T2 m 4 #[(vr a), (vr b)] [] := fun tt hq => k1 tt (st2 tt hq)
 have k3 : AtQ p e below S0 T2 m 6 #[(vr a), (vr b)] [(.int 1), (.ref a)] := fun tt hq => k2 tt (by
  refine XS.aloadN X2.here hx rfl (hb hby dqAA_4) rfl rfl ?_
  refine XS.iconst X2.here hx rfl (hb hby dqAA_5) ?_
  exact hq)
 obtain ⟨T4, h4, X4, e4, W4, st4⟩ := putF X2 hx hZ hown (host := "") (Or.inl (wq hw 81 rfl)) Via.refl e2 P4 P0 (Or.inl (wq hw 82 rfl)) (wq hw 8 rfl) (ty := .int) (by decide) rfl rfl (g := (mkF m 6 #[(vr a), (vr b)] [(.int 1), (.ref a)])) rfl rfl (hb hby dqAA_6)
 have k4 : AtQ p e below S0 T4 m 9 #[(vr a), (vr b)] [] := fun tt hq => k3 tt (st4 tt hq)
 have z4 : h4.size = h0.size := W4.size
 have F4 := P4.same W4
 have N4 := Fr.snoc X4 N0 (by omega : n0 ≤ a)
 have f5 : Exa Z h4 a "com/example/ceruline/ceruline/parsing/SourceReader" := (P0.wr W4)
 have f6 : FqI Z h4 a (.int 0) := (P5.other W4 (Or.inr (slot_ne (Or.inl (wq hw 84 rfl)) (Or.inl (wq hw 82 rfl)) (by decide) (t := .int) (t' := .int) (by decide) (by decide))))
 have k7 : AtQ p e below S0 T4 m 11 #[(vr a), (vr b)] [(.int 1), (.ref a)] := fun tt hq => k4 tt (by
  refine XS.aloadN X4.here hx rfl (hb hby dqAA_9) rfl rfl ?_
  refine XS.iconst X4.here hx rfl (hb hby dqAA_10) ?_
  exact hq)
 obtain ⟨T8, h8, X8, e8, W8, st8⟩ := putF X4 hx hZ hown (host := "") (Or.inl (wq hw 83 rfl)) Via.refl e4 f6 f5 (Or.inl (wq hw 84 rfl)) (wq hw 8 rfl) (ty := .int) (by decide) rfl rfl (g := (mkF m 11 #[(vr a), (vr b)] [(.int 1), (.ref a)])) rfl rfl (hb hby dqAA_11)
 have k8 : AtQ p e below S0 T8 m 14 #[(vr a), (vr b)] [] := fun tt hq => k7 tt (st8 tt hq)
 have z8 : h8.size = h4.size := W8.size
 have F8 := f6.same W8
 have N8 := Fr.snoc X8 N4 (by omega : n0 ≤ a)
 have f9 : Exa Z h8 a "com/example/ceruline/ceruline/parsing/SourceReader" := (f5.wr W8)
 have f10 : FqE Z h8 a .null := ((P1.other W4 (Or.inr (slot_ne (Or.inr (wq hw 86 rfl)) (Or.inl (wq hw 82 rfl)) (by decide) (t := (.object "com/example/ceruline/ceruline/source/SourceFile")) (t' := .int) (by decide) (by decide)))).other W8 (Or.inr (slot_ne (Or.inr (wq hw 86 rfl)) (Or.inl (wq hw 84 rfl)) (by decide) (t := (.object "com/example/ceruline/ceruline/source/SourceFile")) (t' := .int) (by decide) (by decide))))
 have k11 : AtQ p e below S0 T8 m 16 #[(vr a), (vr b)] [(.ref b), (.ref a)] := fun tt hq => k8 tt (by
  refine XS.aloadN X8.here hx rfl (hb hby dqAA_14) rfl rfl ?_
  refine XS.aloadN X8.here hx rfl (hb hby dqAA_15) rfl rfl ?_
  exact hq)
 obtain ⟨T12, h12, X12, e12, W12, st12⟩ := putF X8 hx hZ hown (host := "") (Or.inl (wq hw 85 rfl)) Via.refl e8 f10 f9 (Or.inr ⟨(wq hw 86 rfl), rfl, hnm⟩) (wq hw 8 rfl) (ty := (.object "com/example/ceruline/ceruline/source/SourceFile")) (by decide) rfl rfl (g := (mkF m 16 #[(vr a), (vr b)] [(.ref b), (.ref a)])) rfl rfl (hb hby dqAA_16)
 have k12 : AtQ p e below S0 T12 m 19 #[(vr a), (vr b)] [] := fun tt hq => k11 tt (st12 tt hq)
 have z12 : h12.size = h8.size := W12.size
 have F12 := f10.same W12
 have N12 := Fr.snoc X12 N8 (by omega : n0 ≤ a)
 have k13 : AtQ p e below S0 T12 m 21 #[(vr a), (vr b)] [(.ref b), (.ref a)] := fun tt hq => k12 tt (by
  refine XS.aloadN X12.here hx rfl (hb hby dqAA_19) rfl rfl ?_
  refine XS.aloadN X12.here hx rfl (hb hby dqAA_20) rfl rfl ?_
  exact hq)
 have f14 : FqD Z h12 b (.ref u) := (((F1.other W4 (Or.inl (adr_ne (by omega)))).other W8 (Or.inl (adr_ne (by omega)))).other W12 (Or.inl (adr_ne (by omega))))
 have f16 : Exa Z h12 b "com/example/ceruline/ceruline/source/SourceFile" := (((E1.wr W4).wr W8).wr W12)
 obtain ⟨_, T15, L15, X15, ⟨rfl, Nq15, eq15⟩, k15a⟩ := callV' X12 hx hZ (y := yqN) (z := yqN) hown (wq hw 87 rfl) (wq hw 88 rfl) (notFace_of_selects (args := #[]) (mvT hZ (wq hw 90 rfl))) (wq hw 90 rfl) (wq hw 89 rfl) (by decide) f16 (backC (W := 1) (rm_sft l Z a0 hw b u h12 n0 (by omega) f14) hZ (wq hw 91 rfl) (wq hw 12 rfl) (by decide) (by decide)) e12 (argsL := []) (rest := [(.ref a)]) rfl rfl pd_7 rfl (by rw [hml]; rfl) (hb hby dqAA_21) (Nat.le_of_eq rfl) (by decide) (by decide) k13
 have k15 : AtQ p e below S0 T15 m 24 #[(vr a), (vr b)] [(.ref u), (.ref a)] := k15a
 have N15 := N12.app Nq15
 have e15 : T15.heap = h12 := eq15
 have f17 : Exa Z h12 a "com/example/ceruline/ceruline/parsing/SourceReader" := (f9.wr W12)
 have f18 : FqF Z h12 a .null := (((P2.other W4 (Or.inr (slot_ne (Or.inr (wq hw 93 rfl)) (Or.inl (wq hw 82 rfl)) (by decide) (t := (.object "java/lang/String")) (t' := .int) (by decide) (by decide)))).other W8 (Or.inr (slot_ne (Or.inr (wq hw 93 rfl)) (Or.inl (wq hw 84 rfl)) (by decide) (t := (.object "java/lang/String")) (t' := .int) (by decide) (by decide)))).other W12 (Or.inr (slot_ne (Or.inr (wq hw 93 rfl)) (Or.inr (wq hw 86 rfl)) (by decide) (t := (.object "java/lang/String")) (t' := (.object "com/example/ceruline/ceruline/source/SourceFile")) (by decide) (by decide))))
 obtain ⟨T19, h19, X19, e19, W19, st19⟩ := putF X15 hx hZ hown (host := "") (Or.inl (wq hw 92 rfl)) Via.refl e15 f18 f17 (Or.inr ⟨(wq hw 93 rfl), rfl, hnm⟩) (wq hw 8 rfl) (ty := (.object "java/lang/String")) (by decide) rfl rfl (g := (mkF m 24 #[(vr a), (vr b)] [(.ref u), (.ref a)])) rfl rfl (hb hby dqAA_24)
 have k19 : AtQ p e below S0 T19 m 27 #[(vr a), (vr b)] [] := fun tt hq => k15 tt (st19 tt hq)
 have z19 : h19.size = h12.size := W19.size
 have F19 := f18.same W19
 have N19 := Fr.snoc X19 N15 (by omega : n0 ≤ a)
 have f20 : Exa Z h19 a "com/example/ceruline/ceruline/parsing/SourceReader" := (f17.wr W19)
 have f21 : FqE Z h19 a (.ref b) := (F12.other W19 (Or.inr (slot_ne (Or.inr (wq hw 86 rfl)) (Or.inr (wq hw 93 rfl)) (by decide) (t := (.object "com/example/ceruline/ceruline/source/SourceFile")) (t' := (.object "java/lang/String")) (by decide) (by decide))))
 have f22 : FqG Z h19 a (.int 0) := ((((P3.other W4 (Or.inr (slot_ne (Or.inl (wq hw 100 rfl)) (Or.inl (wq hw 82 rfl)) (by decide) (t := .int) (t' := .int) (by decide) (by decide)))).other W8 (Or.inr (slot_ne (Or.inl (wq hw 100 rfl)) (Or.inl (wq hw 84 rfl)) (by decide) (t := .int) (t' := .int) (by decide) (by decide)))).other W12 (Or.inr (slot_ne (Or.inl (wq hw 100 rfl)) (Or.inr (wq hw 86 rfl)) (by decide) (t := .int) (t' := (.object "com/example/ceruline/ceruline/source/SourceFile")) (by decide) (by decide)))).other W19 (Or.inr (slot_ne (Or.inl (wq hw 100 rfl)) (Or.inr (wq hw 93 rfl)) (by decide) (t := .int) (t' := (.object "java/lang/String")) (by decide) (by decide))))
 have f23 : FqH Z h19 a (.int 1) := (((F4.other W8 (Or.inr (slot_ne (Or.inl (wq hw 82 rfl)) (Or.inl (wq hw 84 rfl)) (by decide) (t := .int) (t' := .int) (by decide) (by decide)))).other W12 (Or.inr (slot_ne (Or.inl (wq hw 82 rfl)) (Or.inr (wq hw 86 rfl)) (by decide) (t := .int) (t' := (.object "com/example/ceruline/ceruline/source/SourceFile")) (by decide) (by decide)))).other W19 (Or.inr (slot_ne (Or.inl (wq hw 82 rfl)) (Or.inr (wq hw 93 rfl)) (by decide) (t := .int) (t' := (.object "java/lang/String")) (by decide) (by decide))))
 have f24 : FqI Z h19 a (.int 1) := ((F8.other W12 (Or.inr (slot_ne (Or.inl (wq hw 84 rfl)) (Or.inr (wq hw 86 rfl)) (by decide) (t := .int) (t' := (.object "com/example/ceruline/ceruline/source/SourceFile")) (by decide) (by decide)))).other W19 (Or.inr (slot_ne (Or.inl (wq hw 84 rfl)) (Or.inr (wq hw 93 rfl)) (by decide) (t := .int) (t' := (.object "java/lang/String")) (by decide) (by decide))))
 have hE := e19
 refine retVoid X19 hx hret hlk (hb hby dqAA_27) k19 ?_ (by decide) (by decide)
 try rw [hE]
 exact ⟨rfl, N19, (((((Keep.refl h0 [a]).wr W4 (Or.inl (by simp))).wr W8 (Or.inl (by simp))).wr W12 (Or.inl (by simp))).wr W19 (Or.inl (by simp))), f20, f21, F19, f22, f23, f24⟩
theorem dqW_0 : decode jdk_89_method_18_code 0 = .ok (.iload_n 0, 1) := by decide +kernel
theorem dqW_1 : decode jdk_89_method_18_code 1 = .ok (.ldc 73, 2) := by decide +kernel
theorem dqW_3 : decode jdk_89_method_18_code 3 = .ok (.if_icmp .lt 7, 3) := by decide +kernel
theorem dqW_6 : decode jdk_89_method_18_code 6 = .ok (.iconst 2, 1) := by decide +kernel
theorem dqW_7 : decode jdk_89_method_18_code 7 = .ok (.goto 4, 3) := by decide +kernel
theorem dqW_10 : decode jdk_89_method_18_code 10 = .ok (.iconst 1, 1) := by decide +kernel
theorem dqW_11 : decode jdk_89_method_18_code 11 = .ok (.ireturn, 1) := by decide +kernel
theorem pn_6 : plainName "java/lang/Character" = true := by first | (simp [plainName, overriddenIn]; done) | decide +kernel
theorem rm_cc1 (l : Launch) (Z : State) (a0 : Array Value) (hw : ∀ d ∈ tables_1, d.before a0 Z = true) (a : Int32) (h0 : Heap) (n0 : Nat) (hn0 : n0 ≤ h0.size) (hs : a < (65536 : Int32)) :
  Con l Z yqP jdk_89_method_18_code 1 (some .int) [] rqA #[(.int a)] h0 (fun v h L => v = some (.int 1) ∧ Fr n0 L ∧ h = h0) := by
 refine enter (Ls := #[(vi a)]) (plainFor_of_name pn_6) (fun m => by exact entry_eq rfl) ?_
 intro p e s m below meth cd_ s₁ S0 hx hby hml hret hlk hnm hown hZ X0 e0 k0
 have N0 := Fr.nil n0
 have k1 : AtQ p e below S0 s₁ m 11 #[(vi a)] [(.int 1)] := fun tt hq => k0 tt (by
  refine XS.iloadN X0.here hx rfl (hb hby dqW_0) rfl ?_
  refine X0.ldcInt hx hown (mvT hZ (wq hw 142 rfl)) (g := (mkF m 1 #[(vi a)] [(.int a)])) rfl (hb hby dqW_1) _ ?_
  refine XS.icmpYes X0.here hx rfl (pc0 := 3) (pc' := 10) rfl (hb hby dqW_3) rfl (tlt hs).1 (by decide) (by decide) ?_
  refine XS.iconst X0.here hx rfl (hb hby dqW_10) ?_
  exact hq)
 have hE := e0
 refine retInt X0 hx hret hlk (by simp) rfl (hb hby dqW_11) k1 ?_ (by decide) (by decide)
 try rw [hE]
 exact ⟨rfl, N0, rfl⟩
theorem rm_cc2 (l : Launch) (Z : State) (a0 : Array Value) (hw : ∀ d ∈ tables_1, d.before a0 Z = true) (a : Int32) (h0 : Heap) (n0 : Nat) (hn0 : n0 ≤ h0.size) (hs : ¬ a < (65536 : Int32)) :
  Con l Z yqP jdk_89_method_18_code 1 (some .int) [] rqA #[(.int a)] h0 (fun v h L => v = some (.int 2) ∧ Fr n0 L ∧ h = h0) := by
 refine enter (Ls := #[(vi a)]) (plainFor_of_name pn_6) (fun m => by exact entry_eq rfl) ?_
 intro p e s m below meth cd_ s₁ S0 hx hby hml hret hlk hnm hown hZ X0 e0 k0
 have N0 := Fr.nil n0
 have k1 : AtQ p e below S0 s₁ m 11 #[(vi a)] [(.int 2)] := fun tt hq => k0 tt (by
  refine XS.iloadN X0.here hx rfl (hb hby dqW_0) rfl ?_
  refine X0.ldcInt hx hown (mvT hZ (wq hw 142 rfl)) (g := (mkF m 1 #[(vi a)] [(.int a)])) rfl (hb hby dqW_1) _ ?_
  refine XS.icmpNo X0.here hx rfl (hb hby dqW_3) rfl (flt hs).1 ?_
  refine XS.iconst X0.here hx rfl (hb hby dqW_6) ?_
  refine XS.goto X0.here hx rfl (pc0 := 7) (pc' := 11) rfl (hb hby dqW_7) (by decide) (by decide) ?_
  exact hq)
 have hE := e0
 refine retInt X0 hx hret hlk (by simp) rfl (hb hby dqW_11) k1 ?_ (by decide) (by decide)
 try rw [hE]
 exact ⟨rfl, N0, rfl⟩
theorem dqAB_0 : decode prog_66_method_2_code 0 = .ok (.aload_n 0, 1) := by decide +kernel
theorem dqAB_1 : decode prog_66_method_2_code 1 = .ok (.getfield 29, 3) := by decide +kernel
theorem dqAB_4 : decode prog_66_method_2_code 4 = .ok (.aload_n 0, 1) := by decide +kernel
theorem dqAB_5 : decode prog_66_method_2_code 5 = .ok (.getfield 26, 3) := by decide +kernel
theorem dqAB_8 : decode prog_66_method_2_code 8 = .ok (.invokevirtual 32, 3) := by decide +kernel
theorem dqAB_11 : decode prog_66_method_2_code 11 = .ok (.if_icmp .ne 7, 3) := by decide +kernel
theorem dqAB_14 : decode prog_66_method_2_code 14 = .ok (.iconst 1, 1) := by decide +kernel
theorem dqAB_15 : decode prog_66_method_2_code 15 = .ok (.goto 4, 3) := by decide +kernel
theorem dqAB_18 : decode prog_66_method_2_code 18 = .ok (.iconst 0, 1) := by decide +kernel
theorem dqAB_19 : decode prog_66_method_2_code 19 = .ok (.ireturn, 1) := by decide +kernel
theorem pd_8 : parseMethodDescriptor "()I" = some ⟨[], some .int⟩ := by decide +kernel
theorem rm_ate (l : Launch) (Z : State) (a0 : Array Value) (hw : ∀ d ∈ tables_1, d.before a0 Z = true) (zc : Int32) (r : Addr) (a : Addr) (t : Addr) (kt : ClassId) (nb : Int32) (vs : List Value) (cd : Int32) (of : Int32) (ln : Int32) (q : Int32) (h0 : Heap) (n0 : Nat) (hn0 : n0 ≤ h0.size) (S_c : Sta Z Z.heap "java/lang/String" "COMPACT_STRINGS" "Z" (.int zc)) (hzc : ¬ zc = (0 : Int32)) (O0 : Old Z n0 h0) (F1 : FqF Z h0 r (.ref a)) (F2 : FqG Z h0 r (.int of)) (P0 : Exa Z h0 a "java/lang/String") (P1 : FqA Z h0 a (.ref t)) (P2 : FqB Z h0 a (.int cd)) (P3 : Arv Z h0 t kt .byte nb vs (.int 0)) (hcd : narrow .byte (.int cd) = .int cd) (hln : (nb >>> (cd &&& 31)) = ln) (hz : (if of = ln then (1 : Int32) else 0) = q) :
  Con l Z yqQ prog_66_method_2_code 1 (some .boolean) [] rqJ #[(.ref r)] h0 (fun v h L => v = some (.int q) ∧ Fr n0 L ∧ h = h0) := by
 refine enter (Ls := #[(vr r)]) (plainFor_of_name pn_5) (fun m => by exact entry_eq rfl) ?_
 intro p e s m below meth cd_ s₁ S0 hx hby hml hret hlk hnm hown hZ X0 e0 k0
 have N0 := Fr.nil n0
 have k1 : AtQ p e below S0 s₁ m 1 #[(vr r)] [(.ref r)] := fun tt hq => k0 tt (by
  refine XS.aloadN X0.here hx rfl (hb hby dqAB_0) rfl rfl ?_
  exact hq)
 obtain ⟨T2, X2, e2, st2⟩ := getF X0 hx hZ hown (host := "") (Or.inl (wq hw 99 rfl)) Via.refl e0 F2 (g := (mkF m 1 #[(vr r)] [(.ref r)])) rfl rfl (hb hby dqAB_1)
 have k2 : AtQ p e below S0 T2 m 4 #[(vr r)] [(.int of)] := fun tt hq => k1 tt (st2 tt hq)
 have k3 : AtQ p e below S0 T2 m 5 #[(vr r)] [(.ref r), (.int of)] := fun tt hq => k2 tt (by
  refine XS.aloadN X2.here hx rfl (hb hby dqAB_4) rfl rfl ?_
  exact hq)
 obtain ⟨T4, X4, e4, st4⟩ := getF X2 hx hZ hown (host := "") (Or.inl (wq hw 92 rfl)) Via.refl e2 F1 (g := (mkF m 5 #[(vr r)] [(.ref r), (.int of)])) rfl rfl (hb hby dqAB_5)
 have k4 : AtQ p e below S0 T4 m 8 #[(vr r)] [(.ref a), (.int of)] := fun tt hq => k3 tt (st4 tt hq)
 obtain ⟨_, T5, L5, X5, ⟨rfl, Nq5, eq5⟩, k5a⟩ := callV' X4 hx hZ (y := yqJ) (z := yqJ) hown (wq hw 148 rfl) (wq hw 149 rfl) (notFace_of_selects (args := #[]) (mvT hZ (wq hw 151 rfl))) (wq hw 151 rfl) (wq hw 150 rfl) (by decide) P0 (backC (W := 1) (rm_lenu l Z a0 hw zc a t kt nb vs cd ln h0 n0 (by omega) S_c hzc O0 hcd hln P0 P1 P2 P3) hZ (wq hw 152 rfl) (wq hw 14 rfl) (by decide) (by decide)) e4 (argsL := []) (rest := [(.int of)]) rfl rfl pd_8 rfl (by rw [hml]; rfl) (hb hby dqAB_8) (Nat.le_of_eq rfl) (by decide) (by decide) k4
 have k5 : AtQ p e below S0 T5 m 11 #[(vr r)] [(.int ln), (.int of)] := k5a
 have N5 := N0.app Nq5
 have e5 : T5.heap = h0 := eq5
 by_cases hc11_6 : of = ln
 ·
  have k7 : AtQ p e below S0 T5 m 19 #[(vr r)] [(.int 1)] := fun tt hq => k5 tt (by
   refine XS.icmpNo X5.here hx rfl (hb hby dqAB_11) rfl (teq hc11_6).2 ?_
   refine XS.iconst X5.here hx rfl (hb hby dqAB_14) ?_
   refine XS.goto X5.here hx rfl (pc0 := 15) (pc' := 19) rfl (hb hby dqAB_15) (by decide) (by decide) ?_
   exact hq)
  have hE := e5
  refine retInt X5 hx hret hlk (by simp) rfl (hb hby dqAB_19) k7 ?_ (by decide) (by decide)
  try rw [hE]
  exact ⟨by rw [← hz, if_pos hc11_6], N5, rfl⟩
 ·
  have k8 : AtQ p e below S0 T5 m 19 #[(vr r)] [(.int 0)] := fun tt hq => k5 tt (by
   refine XS.icmpYes X5.here hx rfl (pc0 := 11) (pc' := 18) rfl (hb hby dqAB_11) rfl (feq hc11_6).2 (by decide) (by decide) ?_
   refine XS.iconst X5.here hx rfl (hb hby dqAB_18) ?_
   exact hq)
  have hE := e5
  refine retInt X5 hx hret hlk (by simp) rfl (hb hby dqAB_19) k8 ?_ (by decide) (by decide)
  try rw [hE]
  exact ⟨by rw [← hz, if_neg hc11_6], N5, rfl⟩
theorem pn_7 : plainName "com/example/ceruline/ceruline/parsing/SourceReaderAtEndPinLaw" = true := by first | (simp [plainName, overriddenIn]; done) | decide +kernel
theorem sec_t0 {l : Launch} {Z : State} {a0 : Array Value} (hw : ∀ d ∈ tables_1, d.before a0 Z = true) {zc : Int32} {r : Addr} {so : Addr} {a : Addr} {t : Addr} {kt : ClassId} {nb : Int32} {vs : List Value} {cd : Int32} {xl : Int32} {xc : Int32} {sl0 : Slot} {sl1 : Slot} {sl2 : Slot} {sl3 : Slot} {sl4 : Slot} {sl5 : Slot} {sl6 : Slot} {sl7 : Slot} {sl10 : Slot} {sl11 : Slot} {sl12 : Slot} {sl13 : Slot} {sl14 : Slot} {kk : Int32} {mm : Int32} {of : Int32} {ln : Int32} {p : Program} {e : Env} {s T0 S0 : State} {m : MethodId} {below : List Frame} {meth : Method} {cd_ : Code} {vm0 vm1 : Vm} {h0 hh : Heap} {n0 n1 cc ss : Nat} {as' : Array Value} {LL : List Loc} (hx : p.tables.exec = Jvm.exec) (hby : cd_.code = code) (hml : cd_.maxLocals = maxLocals) (hret : meth.sig.returnType = ret) (hlk : meth.locks = false) (hnm : meth.name = x.name) (hown : vm1.findClass x.cls = some m.cls) (hZ : Z.Warmed39 vm1) (X0 : Stand p l e room_1 (s.setVm vm1) m as' below meth cd_ T0 LL cc ss) (e0 : T0.heap = hh) (k0 : To p.tables e below S0 (T0.setTop (mkF m 285 #[sl0, sl1, sl2, sl3, sl4, sl5, sl6, sl7, (vi mm), (vi kk), sl10, sl11, sl12, sl13, sl14, (vr r), .unset, .unset] []))) (N0 : Fr n0 LL) (C0 : CHr Z own_EL vm0 h0 vm1 hh) (hS0 : s.Since vm1 n1) (hn1 : n1 ≤ hh.size) (hn0 : n0 ≤ hh.size) (hcc : cc ≤ room_1.cells) (hss : ss ≤ room_1.slots) (S_c : Sta Z Z.heap "java/lang/String" "COMPACT_STRINGS" "Z" (.int zc)) (hzc : ¬ zc = (0 : Int32)) (P0 : Exa Z hh r "com/example/ceruline/ceruline/parsing/SourceReader") (P1 : FqE Z hh r (.ref so)) (P2 : FqF Z hh r (.ref a)) (P3 : FqG Z hh r (.int of)) (P4 : FqH Z hh r (.int xl)) (P5 : FqI Z hh r (.int xc)) (P6 : Exa Z hh a "java/lang/String") (P7 : FqA Z hh a (.ref t)) (P8 : FqB Z hh a (.int cd)) (P9 : Arv Z hh t kt .byte nb vs (.int 0)) (O0 : Old Z n0 hh) (hcd : narrow .byte (.int cd) = .int cd) (hln : (nb >>> (cd &&& 31)) = ln) (hz : (if of = ln then (1 : Int32) else 0) = (0 : Int32)) (hkm : ¬ kk = mm) :
  FinW p e below s room_1 S0 Z own_EL vm0 h0 (fun v h L => v = some (.int 1) ∧ Fr n0 L) := by
 let l1 : Array Slot := #[sl0, sl1, sl2, sl3, sl4, sl5, sl6, sl7, (vi mm), (vi kk), sl10, sl11, sl12, sl13, sl14, (vr r), .unset, .unset]
 have k2 : AtQ p e below S0 T0 m 287 l1 [(.ref r)] := fun tt hq => k0 tt (by
  refine XS.aload X0.here hx rfl (hb hby at_285) rfl rfl ?_
  exact hq)
 obtain ⟨_, T3, L3, X3, ⟨rfl, Nq3, eq3⟩, k3a⟩ := callV' X0 hx hZ (y := yqQ) (z := yqQ) hown (wq hw 143 rfl) (wq hw 144 rfl) (notFace_of_selects (args := #[]) (mvT hZ (wq hw 146 rfl))) (wq hw 146 rfl) (wq hw 145 rfl) (by decide) P0 (backC (W := 0) (rm_ate l Z a0 hw zc r a t kt nb vs cd of ln (0 : Int32) hh n0 (by omega) S_c hzc O0 P2 P3 P6 P7 P8 P9 hcd hln hz) hZ (wq hw 147 rfl) (wq hw 9 rfl) (by decide) (by decide)) e0 (argsL := []) (rest := []) rfl rfl pd_3 rfl (by rw [hml]; rfl) (hb hby at_287) (Nat.le_of_eq rfl) hcc hss k2
 have k3 : AtQ p e below S0 T3 m 290 l1 [(.int 0)] := k3a
 have N3 := N0.app Nq3
 have e3 : T3.heap = hh := eq3
 let l4 : Array Slot := #[sl0, sl1, sl2, sl3, sl4, sl5, sl6, sl7, (vi mm), (vi kk), sl10, sl11, sl12, sl13, sl14, (vr r), (vi 0), .unset]
 have k5 : AtQ p e below S0 T3 m 294 l4 [(.ref r)] := fun tt hq => k3 tt (by
  refine XS.istore X3.here hx rfl (hb hby at_290) rfl (l' := l4) rfl ?_
  refine XS.aload X3.here hx rfl (hb hby at_292) rfl rfl ?_
  exact hq)
 obtain ⟨_, T6, L6, X6, ⟨rfl, Nq6, eq6⟩, k6a⟩ := callV' X3 hx hZ (y := yqQ) (z := yqQ) hown (wq hw 143 rfl) (wq hw 144 rfl) (notFace_of_selects (args := #[]) (mvT hZ (wq hw 146 rfl))) (wq hw 146 rfl) (wq hw 145 rfl) (by decide) P0 (backC (W := 0) (rm_ate l Z a0 hw zc r a t kt nb vs cd of ln (0 : Int32) hh n0 (by omega) S_c hzc O0 P2 P3 P6 P7 P8 P9 hcd hln hz) hZ (wq hw 147 rfl) (wq hw 9 rfl) (by decide) (by decide)) e3 (argsL := []) (rest := []) rfl rfl pd_3 rfl (by rw [hml]; rfl) (hb hby at_294) (Nat.le_of_eq rfl) hcc hss k5
 have k6 : AtQ p e below S0 T6 m 297 l4 [(.int 0)] := k6a
 have N6 := N3.app Nq6
 have e6 : T6.heap = hh := eq6
 let l7 : Array Slot := #[sl0, sl1, sl2, sl3, sl4, sl5, sl6, sl7, (vi mm), (vi kk), sl10, sl11, sl12, sl13, sl14, (vr r), (vi 0), (vi 0)]
 have k8 : AtQ p e below S0 T6 m 328 l7 [(.int 1)] := fun tt hq => k6 tt (by
  refine XS.istore X6.here hx rfl (hb hby at_297) rfl (l' := l7) rfl ?_
  refine XS.iload X6.here hx rfl (hb hby at_299) rfl ?_
  refine XS.iload X6.here hx rfl (hb hby at_301) rfl ?_
  refine XS.iload X6.here hx rfl (hb hby at_303) rfl ?_
  refine XS.icmpYes X6.here hx rfl (pc0 := 305) (pc' := 312) rfl (hb hby at_305) rfl (feq hkm).2 (by decide) (by decide) ?_
  refine XS.iconst X6.here hx rfl (hb hby at_312) ?_
  refine XS.icmpNo X6.here hx rfl (hb hby at_313) rfl (teq (by decide)).2 ?_
  refine XS.iload X6.here hx rfl (hb hby at_316) rfl ?_
  refine XS.iload X6.here hx rfl (hb hby at_318) rfl ?_
  refine XS.icmpNo X6.here hx rfl (hb hby at_320) rfl (teq (by decide)).2 ?_
  refine XS.iconst X6.here hx rfl (hb hby at_323) ?_
  refine XS.goto X6.here hx rfl (pc0 := 324) (pc' := 328) rfl (hb hby at_324) (by decide) (by decide) ?_
  exact hq)
 refine retIntW X6 hx hZ (own_EW hw) hS0 (by omega) C0 e6 hret hlk (by simp) rfl (hb hby at_328) k8 ?_ hcc hss
 exact ⟨rfl, N6⟩
theorem sec_t1 {l : Launch} {Z : State} {a0 : Array Value} (hw : ∀ d ∈ tables_1, d.before a0 Z = true) {zc : Int32} {r : Addr} {so : Addr} {a : Addr} {t : Addr} {kt : ClassId} {nb : Int32} {vs : List Value} {cd : Int32} {xl : Int32} {xc : Int32} {sl0 : Slot} {sl1 : Slot} {sl2 : Slot} {sl3 : Slot} {sl4 : Slot} {sl5 : Slot} {sl6 : Slot} {sl7 : Slot} {sl10 : Slot} {sl11 : Slot} {sl12 : Slot} {sl13 : Slot} {sl14 : Slot} {kk : Int32} {mm : Int32} {of : Int32} {ln : Int32} {p : Program} {e : Env} {s T0 S0 : State} {m : MethodId} {below : List Frame} {meth : Method} {cd_ : Code} {vm0 vm1 : Vm} {h0 hh : Heap} {n0 n1 cc ss : Nat} {as' : Array Value} {LL : List Loc} (hx : p.tables.exec = Jvm.exec) (hby : cd_.code = code) (hml : cd_.maxLocals = maxLocals) (hret : meth.sig.returnType = ret) (hlk : meth.locks = false) (hnm : meth.name = x.name) (hown : vm1.findClass x.cls = some m.cls) (hZ : Z.Warmed39 vm1) (X0 : Stand p l e room_1 (s.setVm vm1) m as' below meth cd_ T0 LL cc ss) (e0 : T0.heap = hh) (k0 : To p.tables e below S0 (T0.setTop (mkF m 285 #[sl0, sl1, sl2, sl3, sl4, sl5, sl6, sl7, (vi mm), (vi kk), sl10, sl11, sl12, sl13, sl14, (vr r), .unset, .unset] []))) (N0 : Fr n0 LL) (C0 : CHr Z own_EL vm0 h0 vm1 hh) (hS0 : s.Since vm1 n1) (hn1 : n1 ≤ hh.size) (hn0 : n0 ≤ hh.size) (hcc : cc ≤ room_1.cells) (hss : ss ≤ room_1.slots) (S_c : Sta Z Z.heap "java/lang/String" "COMPACT_STRINGS" "Z" (.int zc)) (hzc : ¬ zc = (0 : Int32)) (P0 : Exa Z hh r "com/example/ceruline/ceruline/parsing/SourceReader") (P1 : FqE Z hh r (.ref so)) (P2 : FqF Z hh r (.ref a)) (P3 : FqG Z hh r (.int of)) (P4 : FqH Z hh r (.int xl)) (P5 : FqI Z hh r (.int xc)) (P6 : Exa Z hh a "java/lang/String") (P7 : FqA Z hh a (.ref t)) (P8 : FqB Z hh a (.int cd)) (P9 : Arv Z hh t kt .byte nb vs (.int 0)) (O0 : Old Z n0 hh) (hcd : narrow .byte (.int cd) = .int cd) (hln : (nb >>> (cd &&& 31)) = ln) (hz : (if of = ln then (1 : Int32) else 0) = (1 : Int32)) (hkm : kk = mm) :
  FinW p e below s room_1 S0 Z own_EL vm0 h0 (fun v h L => v = some (.int 1) ∧ Fr n0 L) := by
 let l1 : Array Slot := #[sl0, sl1, sl2, sl3, sl4, sl5, sl6, sl7, (vi mm), (vi kk), sl10, sl11, sl12, sl13, sl14, (vr r), .unset, .unset]
 have k2 : AtQ p e below S0 T0 m 287 l1 [(.ref r)] := fun tt hq => k0 tt (by
  refine XS.aload X0.here hx rfl (hb hby at_285) rfl rfl ?_
  exact hq)
 obtain ⟨_, T3, L3, X3, ⟨rfl, Nq3, eq3⟩, k3a⟩ := callV' X0 hx hZ (y := yqQ) (z := yqQ) hown (wq hw 143 rfl) (wq hw 144 rfl) (notFace_of_selects (args := #[]) (mvT hZ (wq hw 146 rfl))) (wq hw 146 rfl) (wq hw 145 rfl) (by decide) P0 (backC (W := 0) (rm_ate l Z a0 hw zc r a t kt nb vs cd of ln (1 : Int32) hh n0 (by omega) S_c hzc O0 P2 P3 P6 P7 P8 P9 hcd hln hz) hZ (wq hw 147 rfl) (wq hw 9 rfl) (by decide) (by decide)) e0 (argsL := []) (rest := []) rfl rfl pd_3 rfl (by rw [hml]; rfl) (hb hby at_287) (Nat.le_of_eq rfl) hcc hss k2
 have k3 : AtQ p e below S0 T3 m 290 l1 [(.int 1)] := k3a
 have N3 := N0.app Nq3
 have e3 : T3.heap = hh := eq3
 let l4 : Array Slot := #[sl0, sl1, sl2, sl3, sl4, sl5, sl6, sl7, (vi mm), (vi kk), sl10, sl11, sl12, sl13, sl14, (vr r), (vi 1), .unset]
 have k5 : AtQ p e below S0 T3 m 294 l4 [(.ref r)] := fun tt hq => k3 tt (by
  refine XS.istore X3.here hx rfl (hb hby at_290) rfl (l' := l4) rfl ?_
  refine XS.aload X3.here hx rfl (hb hby at_292) rfl rfl ?_
  exact hq)
 obtain ⟨_, T6, L6, X6, ⟨rfl, Nq6, eq6⟩, k6a⟩ := callV' X3 hx hZ (y := yqQ) (z := yqQ) hown (wq hw 143 rfl) (wq hw 144 rfl) (notFace_of_selects (args := #[]) (mvT hZ (wq hw 146 rfl))) (wq hw 146 rfl) (wq hw 145 rfl) (by decide) P0 (backC (W := 0) (rm_ate l Z a0 hw zc r a t kt nb vs cd of ln (1 : Int32) hh n0 (by omega) S_c hzc O0 P2 P3 P6 P7 P8 P9 hcd hln hz) hZ (wq hw 147 rfl) (wq hw 9 rfl) (by decide) (by decide)) e3 (argsL := []) (rest := []) rfl rfl pd_3 rfl (by rw [hml]; rfl) (hb hby at_294) (Nat.le_of_eq rfl) hcc hss k5
 have k6 : AtQ p e below S0 T6 m 297 l4 [(.int 1)] := k6a
 have N6 := N3.app Nq6
 have e6 : T6.heap = hh := eq6
 let l7 : Array Slot := #[sl0, sl1, sl2, sl3, sl4, sl5, sl6, sl7, (vi mm), (vi kk), sl10, sl11, sl12, sl13, sl14, (vr r), (vi 1), (vi 1)]
 have k8 : AtQ p e below S0 T6 m 328 l7 [(.int 1)] := fun tt hq => k6 tt (by
  refine XS.istore X6.here hx rfl (hb hby at_297) rfl (l' := l7) rfl ?_
  refine XS.iload X6.here hx rfl (hb hby at_299) rfl ?_
  refine XS.iload X6.here hx rfl (hb hby at_301) rfl ?_
  refine XS.iload X6.here hx rfl (hb hby at_303) rfl ?_
  refine XS.icmpNo X6.here hx rfl (hb hby at_305) rfl (teq hkm).2 ?_
  refine XS.iconst X6.here hx rfl (hb hby at_308) ?_
  refine XS.goto X6.here hx rfl (pc0 := 309) (pc' := 313) rfl (hb hby at_309) (by decide) (by decide) ?_
  refine XS.icmpNo X6.here hx rfl (hb hby at_313) rfl (teq (by decide)).2 ?_
  refine XS.iload X6.here hx rfl (hb hby at_316) rfl ?_
  refine XS.iload X6.here hx rfl (hb hby at_318) rfl ?_
  refine XS.icmpNo X6.here hx rfl (hb hby at_320) rfl (teq (by decide)).2 ?_
  refine XS.iconst X6.here hx rfl (hb hby at_323) ?_
  refine XS.goto X6.here hx rfl (pc0 := 324) (pc' := 328) rfl (hb hby at_324) (by decide) (by decide) ?_
  exact hq)
 refine retIntW X6 hx hZ (own_EW hw) hS0 (by omega) C0 e6 hret hlk (by simp) rfl (hb hby at_328) k8 ?_ hcc hss
 exact ⟨rfl, N6⟩
theorem pd_9 : parseMethodDescriptor "(II)I" = some ⟨[.int, .int], some .int⟩ := by decide +kernel
theorem pd_10 : parseMethodDescriptor "([C)V" = some ⟨[(.array .char)], none⟩ := by decide +kernel
theorem pd_11 : parseMethodDescriptor "(Ljava/lang/String;Ljava/lang/String;)V" = some ⟨[(.object "java/lang/String"), (.object "java/lang/String")], none⟩ := by decide +kernel
theorem pd_12 : parseMethodDescriptor "(Lcom/example/ceruline/ceruline/source/SourceFile;)V" = some ⟨[(.object "com/example/ceruline/ceruline/source/SourceFile")], none⟩ := by decide +kernel
theorem dqAC_0 : decode prog_66_method_4_code 0 = .ok (.aload_n 0, 1) := by decide +kernel
theorem dqAC_1 : decode prog_66_method_4_code 1 = .ok (.getfield 26, 3) := by decide +kernel
theorem dqAC_4 : decode prog_66_method_4_code 4 = .ok (.aload_n 0, 1) := by decide +kernel
theorem dqAC_5 : decode prog_66_method_4_code 5 = .ok (.getfield 29, 3) := by decide +kernel
theorem dqAC_8 : decode prog_66_method_4_code 8 = .ok (.invokevirtual 42, 3) := by decide +kernel
theorem dqAC_11 : decode prog_66_method_4_code 11 = .ok (.istore_n 1, 1) := by decide +kernel
theorem dqAC_12 : decode prog_66_method_4_code 12 = .ok (.aload_n 0, 1) := by decide +kernel
theorem dqAC_13 : decode prog_66_method_4_code 13 = .ok (.dup, 1) := by decide +kernel
theorem dqAC_14 : decode prog_66_method_4_code 14 = .ok (.getfield 29, 3) := by decide +kernel
theorem dqAC_17 : decode prog_66_method_4_code 17 = .ok (.iload_n 1, 1) := by decide +kernel
theorem dqAC_18 : decode prog_66_method_4_code 18 = .ok (.invokestatic 46, 3) := by decide +kernel
theorem dqAC_21 : decode prog_66_method_4_code 21 = .ok (.iadd, 1) := by decide +kernel
theorem dqAC_22 : decode prog_66_method_4_code 22 = .ok (.putfield 29, 3) := by decide +kernel
theorem dqAC_25 : decode prog_66_method_4_code 25 = .ok (.iload_n 1, 1) := by decide +kernel
theorem dqAC_26 : decode prog_66_method_4_code 26 = .ok (.bipush 10, 2) := by decide +kernel
theorem dqAC_28 : decode prog_66_method_4_code 28 = .ok (.if_icmp .ne 21, 3) := by decide +kernel
theorem dqAC_31 : decode prog_66_method_4_code 31 = .ok (.aload_n 0, 1) := by decide +kernel
theorem dqAC_32 : decode prog_66_method_4_code 32 = .ok (.dup, 1) := by decide +kernel
theorem dqAC_33 : decode prog_66_method_4_code 33 = .ok (.getfield 7, 3) := by decide +kernel
theorem dqAC_36 : decode prog_66_method_4_code 36 = .ok (.iconst 1, 1) := by decide +kernel
theorem dqAC_37 : decode prog_66_method_4_code 37 = .ok (.iadd, 1) := by decide +kernel
theorem dqAC_38 : decode prog_66_method_4_code 38 = .ok (.putfield 7, 3) := by decide +kernel
theorem dqAC_41 : decode prog_66_method_4_code 41 = .ok (.aload_n 0, 1) := by decide +kernel
theorem dqAC_42 : decode prog_66_method_4_code 42 = .ok (.iconst 1, 1) := by decide +kernel
theorem dqAC_43 : decode prog_66_method_4_code 43 = .ok (.putfield 13, 3) := by decide +kernel
theorem dqAC_46 : decode prog_66_method_4_code 46 = .ok (.goto 13, 3) := by decide +kernel
theorem dqAC_49 : decode prog_66_method_4_code 49 = .ok (.aload_n 0, 1) := by decide +kernel
theorem dqAC_50 : decode prog_66_method_4_code 50 = .ok (.dup, 1) := by decide +kernel
theorem dqAC_51 : decode prog_66_method_4_code 51 = .ok (.getfield 13, 3) := by decide +kernel
theorem dqAC_54 : decode prog_66_method_4_code 54 = .ok (.iconst 1, 1) := by decide +kernel
theorem dqAC_55 : decode prog_66_method_4_code 55 = .ok (.iadd, 1) := by decide +kernel
theorem dqAC_56 : decode prog_66_method_4_code 56 = .ok (.putfield 13, 3) := by decide +kernel
theorem dqAC_59 : decode prog_66_method_4_code 59 = .ok (.return_, 1) := by decide +kernel
theorem pd_13 : parseMethodDescriptor "(I)I" = some ⟨[.int], some .int⟩ := by decide +kernel
theorem rm_adv1 (l : Launch) (Z : State) (a0 : Array Value) (hw : ∀ d ∈ tables_1, d.before a0 Z = true) (r : Addr) (so : Addr) (a : Addr) (of : Int32) (xl : Int32) (xc : Int32) (cp : Int32) (oo : Int32) (h0 : Heap) (n0 : Nat) (hn0 : n0 ≤ h0.size) (P0 : Exa Z h0 r "com/example/ceruline/ceruline/parsing/SourceReader") (P1 : FqE Z h0 r (.ref so)) (P2 : FqF Z h0 r (.ref a)) (P3 : FqG Z h0 r (.int of)) (P4 : FqH Z h0 r (.int xl)) (P5 : FqI Z h0 r (.int xc)) (E1 : Exa Z h0 a "java/lang/String") (ga : n0 ≤ r) (hcp : Con l Z yqH jdk_42_method_57_code 3 (some .int) [] rqF #[(.ref a), (.int of)] h0 (fun v h L => v = some (.int cp) ∧ Fr n0 L ∧ h = h0)) (hs : cp < (65536 : Int32)) (ho : (of + (1 : Int32)) = oo) :
  Con l Z yqR prog_66_method_4_code 2 none [] rqK #[(.ref r)] h0 (fun v h L => ∃ (y1 y2 : Int32), v = none ∧ Fr n0 L ∧ Keep h0 h [r] ∧ Exa Z h r "com/example/ceruline/ceruline/parsing/SourceReader" ∧ FqE Z h r (.ref so) ∧ FqF Z h r (.ref a) ∧ FqG Z h r (.int oo) ∧ FqH Z h r (.int y1) ∧ FqI Z h r (.int y2)) := by
 refine enter (Ls := #[(vr r), .unset]) (plainFor_of_name pn_5) (fun m => by exact entry_eq rfl) ?_
 intro p e s m below meth cd_ s₁ S0 hx hby hml hret hlk hnm hown hZ X0 e0 k0
 have N0 := Fr.nil n0
 subst ho
 have k1 : AtQ p e below S0 s₁ m 1 #[(vr r), .unset] [(.ref r)] := fun tt hq => k0 tt (by
  refine XS.aloadN X0.here hx rfl (hb hby dqAC_0) rfl rfl ?_
  exact hq)
 obtain ⟨T2, X2, e2, st2⟩ := getF X0 hx hZ hown (host := "") (Or.inl (wq hw 92 rfl)) Via.refl e0 P2 (g := (mkF m 1 #[(vr r), .unset] [(.ref r)])) rfl rfl (hb hby dqAC_1)
 have k2 : AtQ p e below S0 T2 m 4 #[(vr r), .unset] [(.ref a)] := fun tt hq => k1 tt (st2 tt hq)
 have k3 : AtQ p e below S0 T2 m 5 #[(vr r), .unset] [(.ref r), (.ref a)] := fun tt hq => k2 tt (by
  refine XS.aloadN X2.here hx rfl (hb hby dqAC_4) rfl rfl ?_
  exact hq)
 obtain ⟨T4, X4, e4, st4⟩ := getF X2 hx hZ hown (host := "") (Or.inl (wq hw 99 rfl)) Via.refl e2 P3 (g := (mkF m 5 #[(vr r), .unset] [(.ref r), (.ref a)])) rfl rfl (hb hby dqAC_5)
 have k4 : AtQ p e below S0 T4 m 8 #[(vr r), .unset] [(.int of), (.ref a)] := fun tt hq => k3 tt (st4 tt hq)
 obtain ⟨_, T5, L5, X5, ⟨rfl, Nq5, eq5⟩, k5a⟩ := callV' X4 hx hZ (y := yqH) (z := yqH) hown (wq hw 101 rfl) (wq hw 102 rfl) (notFace_of_selects (args := #[]) (mvT hZ (wq hw 104 rfl))) (wq hw 104 rfl) (wq hw 103 rfl) (by decide) E1 (backC (W := 0) (hcp) hZ (wq hw 105 rfl) (wq hw 14 rfl) (by decide) (by decide)) e4 (argsL := [(.int of)]) (rest := []) rfl rfl pd_13 rfl (by rw [hml]; rfl) (hb hby dqAC_8) (Nat.le_of_eq rfl) (by decide) (by decide) k4
 have k5 : AtQ p e below S0 T5 m 11 #[(vr r), .unset] [(.int cp)] := k5a
 have N5 := N0.app Nq5
 have e5 : T5.heap = h0 := eq5
 have k6 : AtQ p e below S0 T5 m 14 #[(vr r), (vi cp)] [(.ref r), (.ref r)] := fun tt hq => k5 tt (by
  refine XS.istoreN X5.here hx rfl (hb hby dqAC_11) rfl (l' := #[(vr r), (vi cp)]) rfl ?_
  refine XS.aloadN X5.here hx rfl (hb hby dqAC_12) rfl rfl ?_
  refine XS.dup X5.here hx rfl (hb hby dqAC_13) rfl rfl ?_
  exact hq)
 obtain ⟨T7, X7, e7, st7⟩ := getF X5 hx hZ hown (host := "") (Or.inl (wq hw 99 rfl)) Via.refl e5 P3 (g := (mkF m 14 #[(vr r), (vi cp)] [(.ref r), (.ref r)])) rfl rfl (hb hby dqAC_14)
 have k7 : AtQ p e below S0 T7 m 17 #[(vr r), (vi cp)] [(.int of), (.ref r)] := fun tt hq => k6 tt (st7 tt hq)
 have k8 : AtQ p e below S0 T7 m 18 #[(vr r), (vi cp)] [(.int cp), (.int of), (.ref r)] := fun tt hq => k7 tt (by
  refine XS.iloadN X7.here hx rfl (hb hby dqAC_17) rfl ?_
  exact hq)
 obtain ⟨_, T9, L9, X9, ⟨rfl, Nq9, eq9⟩, k9a⟩ := callS' X7 hx hZ (y := yqP) hown (wq hw 139 rfl) (wq hw 140 rfl) (wq hw 127 rfl) (wq hw 141 rfl) (by decide) (backC (W := 2) (rm_cc1 l Z a0 hw cp h0 n0 (by omega) hs) hZ (wq hw 141 rfl) (wq hw 127 rfl) (by decide) (by decide)) e7 (argsL := [(.int cp)]) (rest := [(.int of), (.ref r)]) rfl rfl pd_13 rfl (by rw [hml]; rfl) (hb hby dqAC_18) (Nat.le_of_eq rfl) (by decide) (by decide) k8
 have k9 : AtQ p e below S0 T9 m 21 #[(vr r), (vi cp)] [(.int 1), (.int of), (.ref r)] := k9a
 have N9 := N5.app Nq9
 have e9 : T9.heap = h0 := eq9
 have k10 : AtQ p e below S0 T9 m 22 #[(vr r), (vi cp)] [(.int (of + (1 : Int32))), (.ref r)] := fun tt hq => k9 tt (by
  refine XS.iadd X9.here hx rfl (hb hby dqAC_21) rfl ?_
  exact hq)
 obtain ⟨T11, h11, X11, e11, W11, st11⟩ := putF X9 hx hZ hown (host := "") (Or.inl (wq hw 99 rfl)) Via.refl e9 P3 P0 (Or.inl (wq hw 100 rfl)) (wq hw 8 rfl) (ty := .int) (by decide) rfl rfl (g := (mkF m 22 #[(vr r), (vi cp)] [(.int (of + (1 : Int32))), (.ref r)])) rfl rfl (hb hby dqAC_22)
 have k11 : AtQ p e below S0 T11 m 25 #[(vr r), (vi cp)] [] := fun tt hq => k10 tt (st11 tt hq)
 have z11 : h11.size = h0.size := W11.size
 have F11 := P3.same W11
 have N11 := Fr.snoc X11 N9 (by omega : n0 ≤ r)
 have k12 : AtQ p e below S0 T11 m 28 #[(vr r), (vi cp)] [(.int 10), (.int cp)] := fun tt hq => k11 tt (by
  refine XS.iloadN X11.here hx rfl (hb hby dqAC_25) rfl ?_
  refine XS.bipush X11.here hx rfl (hb hby dqAC_26) ?_
  exact hq)
 by_cases hc28_13 : cp = (10 : Int32)
 ·
  have f14 : FqH Z h11 r (.int xl) := (P4.other W11 (Or.inr (slot_ne (Or.inl (wq hw 82 rfl)) (Or.inl (wq hw 100 rfl)) (by decide) (t := .int) (t' := .int) (by decide) (by decide))))
  have k15 : AtQ p e below S0 T11 m 33 #[(vr r), (vi cp)] [(.ref r), (.ref r)] := fun tt hq => k12 tt (by
   refine XS.icmpNo X11.here hx rfl (hb hby dqAC_28) rfl (teq hc28_13).2 ?_
   refine XS.aloadN X11.here hx rfl (hb hby dqAC_31) rfl rfl ?_
   refine XS.dup X11.here hx rfl (hb hby dqAC_32) rfl rfl ?_
   exact hq)
  obtain ⟨T16, X16, e16, st16⟩ := getF X11 hx hZ hown (host := "") (Or.inl (wq hw 81 rfl)) Via.refl e11 f14 (g := (mkF m 33 #[(vr r), (vi cp)] [(.ref r), (.ref r)])) rfl rfl (hb hby dqAC_33)
  have k16 : AtQ p e below S0 T16 m 36 #[(vr r), (vi cp)] [(.int xl), (.ref r)] := fun tt hq => k15 tt (st16 tt hq)
  have f17 : Exa Z h11 r "com/example/ceruline/ceruline/parsing/SourceReader" := (P0.wr W11)
  have k18 : AtQ p e below S0 T16 m 38 #[(vr r), (vi cp)] [(.int (xl + (1 : Int32))), (.ref r)] := fun tt hq => k16 tt (by
   refine XS.iconst X16.here hx rfl (hb hby dqAC_36) ?_
   refine XS.iadd X16.here hx rfl (hb hby dqAC_37) rfl ?_
   exact hq)
  obtain ⟨T19, h19, X19, e19, W19, st19⟩ := putF X16 hx hZ hown (host := "") (Or.inl (wq hw 81 rfl)) Via.refl e16 f14 f17 (Or.inl (wq hw 82 rfl)) (wq hw 8 rfl) (ty := .int) (by decide) rfl rfl (g := (mkF m 38 #[(vr r), (vi cp)] [(.int (xl + (1 : Int32))), (.ref r)])) rfl rfl (hb hby dqAC_38)
  have k19 : AtQ p e below S0 T19 m 41 #[(vr r), (vi cp)] [] := fun tt hq => k18 tt (st19 tt hq)
  have z19 : h19.size = h11.size := W19.size
  have F19 := f14.same W19
  have N19 := Fr.snoc X19 N11 (by omega : n0 ≤ r)
  have f20 : Exa Z h19 r "com/example/ceruline/ceruline/parsing/SourceReader" := (f17.wr W19)
  have f21 : FqI Z h19 r (.int xc) := ((P5.other W11 (Or.inr (slot_ne (Or.inl (wq hw 84 rfl)) (Or.inl (wq hw 100 rfl)) (by decide) (t := .int) (t' := .int) (by decide) (by decide)))).other W19 (Or.inr (slot_ne (Or.inl (wq hw 84 rfl)) (Or.inl (wq hw 82 rfl)) (by decide) (t := .int) (t' := .int) (by decide) (by decide))))
  have k22 : AtQ p e below S0 T19 m 43 #[(vr r), (vi cp)] [(.int 1), (.ref r)] := fun tt hq => k19 tt (by
   refine XS.aloadN X19.here hx rfl (hb hby dqAC_41) rfl rfl ?_
   refine XS.iconst X19.here hx rfl (hb hby dqAC_42) ?_
   exact hq)
  obtain ⟨T23, h23, X23, e23, W23, st23⟩ := putF X19 hx hZ hown (host := "") (Or.inl (wq hw 83 rfl)) Via.refl e19 f21 f20 (Or.inl (wq hw 84 rfl)) (wq hw 8 rfl) (ty := .int) (by decide) rfl rfl (g := (mkF m 43 #[(vr r), (vi cp)] [(.int 1), (.ref r)])) rfl rfl (hb hby dqAC_43)
  have k23 : AtQ p e below S0 T23 m 46 #[(vr r), (vi cp)] [] := fun tt hq => k22 tt (st23 tt hq)
  have z23 : h23.size = h19.size := W23.size
  have F23 := f21.same W23
  have N23 := Fr.snoc X23 N19 (by omega : n0 ≤ r)
  have k24 : AtQ p e below S0 T23 m 59 #[(vr r), (vi cp)] [] := fun tt hq => k23 tt (by
   refine XS.goto X23.here hx rfl (pc0 := 46) (pc' := 59) rfl (hb hby dqAC_46) (by decide) (by decide) ?_
   exact hq)
  have f25 : Exa Z h23 r "com/example/ceruline/ceruline/parsing/SourceReader" := (f20.wr W23)
  have f26 : FqE Z h23 r (.ref so) := (((P1.other W11 (Or.inr (slot_ne (Or.inr (wq hw 86 rfl)) (Or.inl (wq hw 100 rfl)) (by decide) (t := (.object "com/example/ceruline/ceruline/source/SourceFile")) (t' := .int) (by decide) (by decide)))).other W19 (Or.inr (slot_ne (Or.inr (wq hw 86 rfl)) (Or.inl (wq hw 82 rfl)) (by decide) (t := (.object "com/example/ceruline/ceruline/source/SourceFile")) (t' := .int) (by decide) (by decide)))).other W23 (Or.inr (slot_ne (Or.inr (wq hw 86 rfl)) (Or.inl (wq hw 84 rfl)) (by decide) (t := (.object "com/example/ceruline/ceruline/source/SourceFile")) (t' := .int) (by decide) (by decide))))
  have f27 : FqF Z h23 r (.ref a) := (((P2.other W11 (Or.inr (slot_ne (Or.inr (wq hw 93 rfl)) (Or.inl (wq hw 100 rfl)) (by decide) (t := (.object "java/lang/String")) (t' := .int) (by decide) (by decide)))).other W19 (Or.inr (slot_ne (Or.inr (wq hw 93 rfl)) (Or.inl (wq hw 82 rfl)) (by decide) (t := (.object "java/lang/String")) (t' := .int) (by decide) (by decide)))).other W23 (Or.inr (slot_ne (Or.inr (wq hw 93 rfl)) (Or.inl (wq hw 84 rfl)) (by decide) (t := (.object "java/lang/String")) (t' := .int) (by decide) (by decide))))
  have f28 : FqG Z h23 r (.int (of + (1 : Int32))) := ((F11.other W19 (Or.inr (slot_ne (Or.inl (wq hw 100 rfl)) (Or.inl (wq hw 82 rfl)) (by decide) (t := .int) (t' := .int) (by decide) (by decide)))).other W23 (Or.inr (slot_ne (Or.inl (wq hw 100 rfl)) (Or.inl (wq hw 84 rfl)) (by decide) (t := .int) (t' := .int) (by decide) (by decide))))
  have f29 : FqH Z h23 r (.int (xl + (1 : Int32))) := (F19.other W23 (Or.inr (slot_ne (Or.inl (wq hw 82 rfl)) (Or.inl (wq hw 84 rfl)) (by decide) (t := .int) (t' := .int) (by decide) (by decide))))
  have hE := e23
  refine retVoid X23 hx hret hlk (hb hby dqAC_59) k24 ?_ (by decide) (by decide)
  try rw [hE]
  exact ⟨_, _, rfl, N23, ((((Keep.refl h0 [r]).wr W11 (Or.inl (by simp))).wr W19 (Or.inl (by simp))).wr W23 (Or.inl (by simp))), f25, f26, f27, f28, f29, F23⟩
 ·
  have f30 : FqI Z h11 r (.int xc) := (P5.other W11 (Or.inr (slot_ne (Or.inl (wq hw 84 rfl)) (Or.inl (wq hw 100 rfl)) (by decide) (t := .int) (t' := .int) (by decide) (by decide))))
  have k31 : AtQ p e below S0 T11 m 51 #[(vr r), (vi cp)] [(.ref r), (.ref r)] := fun tt hq => k12 tt (by
   refine XS.icmpYes X11.here hx rfl (pc0 := 28) (pc' := 49) rfl (hb hby dqAC_28) rfl (feq hc28_13).2 (by decide) (by decide) ?_
   refine XS.aloadN X11.here hx rfl (hb hby dqAC_49) rfl rfl ?_
   refine XS.dup X11.here hx rfl (hb hby dqAC_50) rfl rfl ?_
   exact hq)
  obtain ⟨T32, X32, e32, st32⟩ := getF X11 hx hZ hown (host := "") (Or.inl (wq hw 83 rfl)) Via.refl e11 f30 (g := (mkF m 51 #[(vr r), (vi cp)] [(.ref r), (.ref r)])) rfl rfl (hb hby dqAC_51)
  have k32 : AtQ p e below S0 T32 m 54 #[(vr r), (vi cp)] [(.int xc), (.ref r)] := fun tt hq => k31 tt (st32 tt hq)
  have f33 : Exa Z h11 r "com/example/ceruline/ceruline/parsing/SourceReader" := (P0.wr W11)
  have k34 : AtQ p e below S0 T32 m 56 #[(vr r), (vi cp)] [(.int (xc + (1 : Int32))), (.ref r)] := fun tt hq => k32 tt (by
   refine XS.iconst X32.here hx rfl (hb hby dqAC_54) ?_
   refine XS.iadd X32.here hx rfl (hb hby dqAC_55) rfl ?_
   exact hq)
  obtain ⟨T35, h35, X35, e35, W35, st35⟩ := putF X32 hx hZ hown (host := "") (Or.inl (wq hw 83 rfl)) Via.refl e32 f30 f33 (Or.inl (wq hw 84 rfl)) (wq hw 8 rfl) (ty := .int) (by decide) rfl rfl (g := (mkF m 56 #[(vr r), (vi cp)] [(.int (xc + (1 : Int32))), (.ref r)])) rfl rfl (hb hby dqAC_56)
  have k35 : AtQ p e below S0 T35 m 59 #[(vr r), (vi cp)] [] := fun tt hq => k34 tt (st35 tt hq)
  have z35 : h35.size = h11.size := W35.size
  have F35 := f30.same W35
  have N35 := Fr.snoc X35 N11 (by omega : n0 ≤ r)
  have f36 : Exa Z h35 r "com/example/ceruline/ceruline/parsing/SourceReader" := (f33.wr W35)
  have f37 : FqE Z h35 r (.ref so) := ((P1.other W11 (Or.inr (slot_ne (Or.inr (wq hw 86 rfl)) (Or.inl (wq hw 100 rfl)) (by decide) (t := (.object "com/example/ceruline/ceruline/source/SourceFile")) (t' := .int) (by decide) (by decide)))).other W35 (Or.inr (slot_ne (Or.inr (wq hw 86 rfl)) (Or.inl (wq hw 84 rfl)) (by decide) (t := (.object "com/example/ceruline/ceruline/source/SourceFile")) (t' := .int) (by decide) (by decide))))
  have f38 : FqF Z h35 r (.ref a) := ((P2.other W11 (Or.inr (slot_ne (Or.inr (wq hw 93 rfl)) (Or.inl (wq hw 100 rfl)) (by decide) (t := (.object "java/lang/String")) (t' := .int) (by decide) (by decide)))).other W35 (Or.inr (slot_ne (Or.inr (wq hw 93 rfl)) (Or.inl (wq hw 84 rfl)) (by decide) (t := (.object "java/lang/String")) (t' := .int) (by decide) (by decide))))
  have f39 : FqG Z h35 r (.int (of + (1 : Int32))) := (F11.other W35 (Or.inr (slot_ne (Or.inl (wq hw 100 rfl)) (Or.inl (wq hw 84 rfl)) (by decide) (t := .int) (t' := .int) (by decide) (by decide))))
  have f40 : FqH Z h35 r (.int xl) := ((P4.other W11 (Or.inr (slot_ne (Or.inl (wq hw 82 rfl)) (Or.inl (wq hw 100 rfl)) (by decide) (t := .int) (t' := .int) (by decide) (by decide)))).other W35 (Or.inr (slot_ne (Or.inl (wq hw 82 rfl)) (Or.inl (wq hw 84 rfl)) (by decide) (t := .int) (t' := .int) (by decide) (by decide))))
  have hE := e35
  refine retVoid X35 hx hret hlk (hb hby dqAC_59) k35 ?_ (by decide) (by decide)
  try rw [hE]
  exact ⟨_, _, rfl, N35, (((Keep.refl h0 [r]).wr W11 (Or.inl (by simp))).wr W35 (Or.inl (by simp))), f36, f37, f38, f39, f40, F35⟩
theorem rm_adv2 (l : Launch) (Z : State) (a0 : Array Value) (hw : ∀ d ∈ tables_1, d.before a0 Z = true) (r : Addr) (so : Addr) (a : Addr) (of : Int32) (xl : Int32) (xc : Int32) (cp : Int32) (oo : Int32) (h0 : Heap) (n0 : Nat) (hn0 : n0 ≤ h0.size) (P0 : Exa Z h0 r "com/example/ceruline/ceruline/parsing/SourceReader") (P1 : FqE Z h0 r (.ref so)) (P2 : FqF Z h0 r (.ref a)) (P3 : FqG Z h0 r (.int of)) (P4 : FqH Z h0 r (.int xl)) (P5 : FqI Z h0 r (.int xc)) (E1 : Exa Z h0 a "java/lang/String") (ga : n0 ≤ r) (hcp : Con l Z yqH jdk_42_method_57_code 3 (some .int) [] rqF #[(.ref a), (.int of)] h0 (fun v h L => v = some (.int cp) ∧ Fr n0 L ∧ h = h0)) (hs : ¬ cp < (65536 : Int32)) (ho : (of + (2 : Int32)) = oo) :
  Con l Z yqR prog_66_method_4_code 2 none [] rqK #[(.ref r)] h0 (fun v h L => ∃ (y1 y2 : Int32), v = none ∧ Fr n0 L ∧ Keep h0 h [r] ∧ Exa Z h r "com/example/ceruline/ceruline/parsing/SourceReader" ∧ FqE Z h r (.ref so) ∧ FqF Z h r (.ref a) ∧ FqG Z h r (.int oo) ∧ FqH Z h r (.int y1) ∧ FqI Z h r (.int y2)) := by
 refine enter (Ls := #[(vr r), .unset]) (plainFor_of_name pn_5) (fun m => by exact entry_eq rfl) ?_
 intro p e s m below meth cd_ s₁ S0 hx hby hml hret hlk hnm hown hZ X0 e0 k0
 have N0 := Fr.nil n0
 subst ho
 have k1 : AtQ p e below S0 s₁ m 1 #[(vr r), .unset] [(.ref r)] := fun tt hq => k0 tt (by
  refine XS.aloadN X0.here hx rfl (hb hby dqAC_0) rfl rfl ?_
  exact hq)
 obtain ⟨T2, X2, e2, st2⟩ := getF X0 hx hZ hown (host := "") (Or.inl (wq hw 92 rfl)) Via.refl e0 P2 (g := (mkF m 1 #[(vr r), .unset] [(.ref r)])) rfl rfl (hb hby dqAC_1)
 have k2 : AtQ p e below S0 T2 m 4 #[(vr r), .unset] [(.ref a)] := fun tt hq => k1 tt (st2 tt hq)
 have k3 : AtQ p e below S0 T2 m 5 #[(vr r), .unset] [(.ref r), (.ref a)] := fun tt hq => k2 tt (by
  refine XS.aloadN X2.here hx rfl (hb hby dqAC_4) rfl rfl ?_
  exact hq)
 obtain ⟨T4, X4, e4, st4⟩ := getF X2 hx hZ hown (host := "") (Or.inl (wq hw 99 rfl)) Via.refl e2 P3 (g := (mkF m 5 #[(vr r), .unset] [(.ref r), (.ref a)])) rfl rfl (hb hby dqAC_5)
 have k4 : AtQ p e below S0 T4 m 8 #[(vr r), .unset] [(.int of), (.ref a)] := fun tt hq => k3 tt (st4 tt hq)
 obtain ⟨_, T5, L5, X5, ⟨rfl, Nq5, eq5⟩, k5a⟩ := callV' X4 hx hZ (y := yqH) (z := yqH) hown (wq hw 101 rfl) (wq hw 102 rfl) (notFace_of_selects (args := #[]) (mvT hZ (wq hw 104 rfl))) (wq hw 104 rfl) (wq hw 103 rfl) (by decide) E1 (backC (W := 0) (hcp) hZ (wq hw 105 rfl) (wq hw 14 rfl) (by decide) (by decide)) e4 (argsL := [(.int of)]) (rest := []) rfl rfl pd_13 rfl (by rw [hml]; rfl) (hb hby dqAC_8) (Nat.le_of_eq rfl) (by decide) (by decide) k4
 have k5 : AtQ p e below S0 T5 m 11 #[(vr r), .unset] [(.int cp)] := k5a
 have N5 := N0.app Nq5
 have e5 : T5.heap = h0 := eq5
 have k6 : AtQ p e below S0 T5 m 14 #[(vr r), (vi cp)] [(.ref r), (.ref r)] := fun tt hq => k5 tt (by
  refine XS.istoreN X5.here hx rfl (hb hby dqAC_11) rfl (l' := #[(vr r), (vi cp)]) rfl ?_
  refine XS.aloadN X5.here hx rfl (hb hby dqAC_12) rfl rfl ?_
  refine XS.dup X5.here hx rfl (hb hby dqAC_13) rfl rfl ?_
  exact hq)
 obtain ⟨T7, X7, e7, st7⟩ := getF X5 hx hZ hown (host := "") (Or.inl (wq hw 99 rfl)) Via.refl e5 P3 (g := (mkF m 14 #[(vr r), (vi cp)] [(.ref r), (.ref r)])) rfl rfl (hb hby dqAC_14)
 have k7 : AtQ p e below S0 T7 m 17 #[(vr r), (vi cp)] [(.int of), (.ref r)] := fun tt hq => k6 tt (st7 tt hq)
 have k8 : AtQ p e below S0 T7 m 18 #[(vr r), (vi cp)] [(.int cp), (.int of), (.ref r)] := fun tt hq => k7 tt (by
  refine XS.iloadN X7.here hx rfl (hb hby dqAC_17) rfl ?_
  exact hq)
 obtain ⟨_, T9, L9, X9, ⟨rfl, Nq9, eq9⟩, k9a⟩ := callS' X7 hx hZ (y := yqP) hown (wq hw 139 rfl) (wq hw 140 rfl) (wq hw 127 rfl) (wq hw 141 rfl) (by decide) (backC (W := 2) (rm_cc2 l Z a0 hw cp h0 n0 (by omega) hs) hZ (wq hw 141 rfl) (wq hw 127 rfl) (by decide) (by decide)) e7 (argsL := [(.int cp)]) (rest := [(.int of), (.ref r)]) rfl rfl pd_13 rfl (by rw [hml]; rfl) (hb hby dqAC_18) (Nat.le_of_eq rfl) (by decide) (by decide) k8
 have k9 : AtQ p e below S0 T9 m 21 #[(vr r), (vi cp)] [(.int 2), (.int of), (.ref r)] := k9a
 have N9 := N5.app Nq9
 have e9 : T9.heap = h0 := eq9
 have k10 : AtQ p e below S0 T9 m 22 #[(vr r), (vi cp)] [(.int (of + (2 : Int32))), (.ref r)] := fun tt hq => k9 tt (by
  refine XS.iadd X9.here hx rfl (hb hby dqAC_21) rfl ?_
  exact hq)
 obtain ⟨T11, h11, X11, e11, W11, st11⟩ := putF X9 hx hZ hown (host := "") (Or.inl (wq hw 99 rfl)) Via.refl e9 P3 P0 (Or.inl (wq hw 100 rfl)) (wq hw 8 rfl) (ty := .int) (by decide) rfl rfl (g := (mkF m 22 #[(vr r), (vi cp)] [(.int (of + (2 : Int32))), (.ref r)])) rfl rfl (hb hby dqAC_22)
 have k11 : AtQ p e below S0 T11 m 25 #[(vr r), (vi cp)] [] := fun tt hq => k10 tt (st11 tt hq)
 have z11 : h11.size = h0.size := W11.size
 have F11 := P3.same W11
 have N11 := Fr.snoc X11 N9 (by omega : n0 ≤ r)
 have k12 : AtQ p e below S0 T11 m 28 #[(vr r), (vi cp)] [(.int 10), (.int cp)] := fun tt hq => k11 tt (by
  refine XS.iloadN X11.here hx rfl (hb hby dqAC_25) rfl ?_
  refine XS.bipush X11.here hx rfl (hb hby dqAC_26) ?_
  exact hq)
 by_cases hc28_13 : cp = (10 : Int32)
 ·
  have f14 : FqH Z h11 r (.int xl) := (P4.other W11 (Or.inr (slot_ne (Or.inl (wq hw 82 rfl)) (Or.inl (wq hw 100 rfl)) (by decide) (t := .int) (t' := .int) (by decide) (by decide))))
  have k15 : AtQ p e below S0 T11 m 33 #[(vr r), (vi cp)] [(.ref r), (.ref r)] := fun tt hq => k12 tt (by
   refine XS.icmpNo X11.here hx rfl (hb hby dqAC_28) rfl (teq hc28_13).2 ?_
   refine XS.aloadN X11.here hx rfl (hb hby dqAC_31) rfl rfl ?_
   refine XS.dup X11.here hx rfl (hb hby dqAC_32) rfl rfl ?_
   exact hq)
  obtain ⟨T16, X16, e16, st16⟩ := getF X11 hx hZ hown (host := "") (Or.inl (wq hw 81 rfl)) Via.refl e11 f14 (g := (mkF m 33 #[(vr r), (vi cp)] [(.ref r), (.ref r)])) rfl rfl (hb hby dqAC_33)
  have k16 : AtQ p e below S0 T16 m 36 #[(vr r), (vi cp)] [(.int xl), (.ref r)] := fun tt hq => k15 tt (st16 tt hq)
  have f17 : Exa Z h11 r "com/example/ceruline/ceruline/parsing/SourceReader" := (P0.wr W11)
  have k18 : AtQ p e below S0 T16 m 38 #[(vr r), (vi cp)] [(.int (xl + (1 : Int32))), (.ref r)] := fun tt hq => k16 tt (by
   refine XS.iconst X16.here hx rfl (hb hby dqAC_36) ?_
   refine XS.iadd X16.here hx rfl (hb hby dqAC_37) rfl ?_
   exact hq)
  obtain ⟨T19, h19, X19, e19, W19, st19⟩ := putF X16 hx hZ hown (host := "") (Or.inl (wq hw 81 rfl)) Via.refl e16 f14 f17 (Or.inl (wq hw 82 rfl)) (wq hw 8 rfl) (ty := .int) (by decide) rfl rfl (g := (mkF m 38 #[(vr r), (vi cp)] [(.int (xl + (1 : Int32))), (.ref r)])) rfl rfl (hb hby dqAC_38)
  have k19 : AtQ p e below S0 T19 m 41 #[(vr r), (vi cp)] [] := fun tt hq => k18 tt (st19 tt hq)
  have z19 : h19.size = h11.size := W19.size
  have F19 := f14.same W19
  have N19 := Fr.snoc X19 N11 (by omega : n0 ≤ r)
  have f20 : Exa Z h19 r "com/example/ceruline/ceruline/parsing/SourceReader" := (f17.wr W19)
  have f21 : FqI Z h19 r (.int xc) := ((P5.other W11 (Or.inr (slot_ne (Or.inl (wq hw 84 rfl)) (Or.inl (wq hw 100 rfl)) (by decide) (t := .int) (t' := .int) (by decide) (by decide)))).other W19 (Or.inr (slot_ne (Or.inl (wq hw 84 rfl)) (Or.inl (wq hw 82 rfl)) (by decide) (t := .int) (t' := .int) (by decide) (by decide))))
  have k22 : AtQ p e below S0 T19 m 43 #[(vr r), (vi cp)] [(.int 1), (.ref r)] := fun tt hq => k19 tt (by
   refine XS.aloadN X19.here hx rfl (hb hby dqAC_41) rfl rfl ?_
   refine XS.iconst X19.here hx rfl (hb hby dqAC_42) ?_
   exact hq)
  obtain ⟨T23, h23, X23, e23, W23, st23⟩ := putF X19 hx hZ hown (host := "") (Or.inl (wq hw 83 rfl)) Via.refl e19 f21 f20 (Or.inl (wq hw 84 rfl)) (wq hw 8 rfl) (ty := .int) (by decide) rfl rfl (g := (mkF m 43 #[(vr r), (vi cp)] [(.int 1), (.ref r)])) rfl rfl (hb hby dqAC_43)
  have k23 : AtQ p e below S0 T23 m 46 #[(vr r), (vi cp)] [] := fun tt hq => k22 tt (st23 tt hq)
  have z23 : h23.size = h19.size := W23.size
  have F23 := f21.same W23
  have N23 := Fr.snoc X23 N19 (by omega : n0 ≤ r)
  have k24 : AtQ p e below S0 T23 m 59 #[(vr r), (vi cp)] [] := fun tt hq => k23 tt (by
   refine XS.goto X23.here hx rfl (pc0 := 46) (pc' := 59) rfl (hb hby dqAC_46) (by decide) (by decide) ?_
   exact hq)
  have f25 : Exa Z h23 r "com/example/ceruline/ceruline/parsing/SourceReader" := (f20.wr W23)
  have f26 : FqE Z h23 r (.ref so) := (((P1.other W11 (Or.inr (slot_ne (Or.inr (wq hw 86 rfl)) (Or.inl (wq hw 100 rfl)) (by decide) (t := (.object "com/example/ceruline/ceruline/source/SourceFile")) (t' := .int) (by decide) (by decide)))).other W19 (Or.inr (slot_ne (Or.inr (wq hw 86 rfl)) (Or.inl (wq hw 82 rfl)) (by decide) (t := (.object "com/example/ceruline/ceruline/source/SourceFile")) (t' := .int) (by decide) (by decide)))).other W23 (Or.inr (slot_ne (Or.inr (wq hw 86 rfl)) (Or.inl (wq hw 84 rfl)) (by decide) (t := (.object "com/example/ceruline/ceruline/source/SourceFile")) (t' := .int) (by decide) (by decide))))
  have f27 : FqF Z h23 r (.ref a) := (((P2.other W11 (Or.inr (slot_ne (Or.inr (wq hw 93 rfl)) (Or.inl (wq hw 100 rfl)) (by decide) (t := (.object "java/lang/String")) (t' := .int) (by decide) (by decide)))).other W19 (Or.inr (slot_ne (Or.inr (wq hw 93 rfl)) (Or.inl (wq hw 82 rfl)) (by decide) (t := (.object "java/lang/String")) (t' := .int) (by decide) (by decide)))).other W23 (Or.inr (slot_ne (Or.inr (wq hw 93 rfl)) (Or.inl (wq hw 84 rfl)) (by decide) (t := (.object "java/lang/String")) (t' := .int) (by decide) (by decide))))
  have f28 : FqG Z h23 r (.int (of + (2 : Int32))) := ((F11.other W19 (Or.inr (slot_ne (Or.inl (wq hw 100 rfl)) (Or.inl (wq hw 82 rfl)) (by decide) (t := .int) (t' := .int) (by decide) (by decide)))).other W23 (Or.inr (slot_ne (Or.inl (wq hw 100 rfl)) (Or.inl (wq hw 84 rfl)) (by decide) (t := .int) (t' := .int) (by decide) (by decide))))
  have f29 : FqH Z h23 r (.int (xl + (1 : Int32))) := (F19.other W23 (Or.inr (slot_ne (Or.inl (wq hw 82 rfl)) (Or.inl (wq hw 84 rfl)) (by decide) (t := .int) (t' := .int) (by decide) (by decide))))
  have hE := e23
  refine retVoid X23 hx hret hlk (hb hby dqAC_59) k24 ?_ (by decide) (by decide)
  try rw [hE]
  exact ⟨_, _, rfl, N23, ((((Keep.refl h0 [r]).wr W11 (Or.inl (by simp))).wr W19 (Or.inl (by simp))).wr W23 (Or.inl (by simp))), f25, f26, f27, f28, f29, F23⟩
 ·
  have f30 : FqI Z h11 r (.int xc) := (P5.other W11 (Or.inr (slot_ne (Or.inl (wq hw 84 rfl)) (Or.inl (wq hw 100 rfl)) (by decide) (t := .int) (t' := .int) (by decide) (by decide))))
  have k31 : AtQ p e below S0 T11 m 51 #[(vr r), (vi cp)] [(.ref r), (.ref r)] := fun tt hq => k12 tt (by
   refine XS.icmpYes X11.here hx rfl (pc0 := 28) (pc' := 49) rfl (hb hby dqAC_28) rfl (feq hc28_13).2 (by decide) (by decide) ?_
   refine XS.aloadN X11.here hx rfl (hb hby dqAC_49) rfl rfl ?_
   refine XS.dup X11.here hx rfl (hb hby dqAC_50) rfl rfl ?_
   exact hq)
  obtain ⟨T32, X32, e32, st32⟩ := getF X11 hx hZ hown (host := "") (Or.inl (wq hw 83 rfl)) Via.refl e11 f30 (g := (mkF m 51 #[(vr r), (vi cp)] [(.ref r), (.ref r)])) rfl rfl (hb hby dqAC_51)
  have k32 : AtQ p e below S0 T32 m 54 #[(vr r), (vi cp)] [(.int xc), (.ref r)] := fun tt hq => k31 tt (st32 tt hq)
  have f33 : Exa Z h11 r "com/example/ceruline/ceruline/parsing/SourceReader" := (P0.wr W11)
  have k34 : AtQ p e below S0 T32 m 56 #[(vr r), (vi cp)] [(.int (xc + (1 : Int32))), (.ref r)] := fun tt hq => k32 tt (by
   refine XS.iconst X32.here hx rfl (hb hby dqAC_54) ?_
   refine XS.iadd X32.here hx rfl (hb hby dqAC_55) rfl ?_
   exact hq)
  obtain ⟨T35, h35, X35, e35, W35, st35⟩ := putF X32 hx hZ hown (host := "") (Or.inl (wq hw 83 rfl)) Via.refl e32 f30 f33 (Or.inl (wq hw 84 rfl)) (wq hw 8 rfl) (ty := .int) (by decide) rfl rfl (g := (mkF m 56 #[(vr r), (vi cp)] [(.int (xc + (1 : Int32))), (.ref r)])) rfl rfl (hb hby dqAC_56)
  have k35 : AtQ p e below S0 T35 m 59 #[(vr r), (vi cp)] [] := fun tt hq => k34 tt (st35 tt hq)
  have z35 : h35.size = h11.size := W35.size
  have F35 := f30.same W35
  have N35 := Fr.snoc X35 N11 (by omega : n0 ≤ r)
  have f36 : Exa Z h35 r "com/example/ceruline/ceruline/parsing/SourceReader" := (f33.wr W35)
  have f37 : FqE Z h35 r (.ref so) := ((P1.other W11 (Or.inr (slot_ne (Or.inr (wq hw 86 rfl)) (Or.inl (wq hw 100 rfl)) (by decide) (t := (.object "com/example/ceruline/ceruline/source/SourceFile")) (t' := .int) (by decide) (by decide)))).other W35 (Or.inr (slot_ne (Or.inr (wq hw 86 rfl)) (Or.inl (wq hw 84 rfl)) (by decide) (t := (.object "com/example/ceruline/ceruline/source/SourceFile")) (t' := .int) (by decide) (by decide))))
  have f38 : FqF Z h35 r (.ref a) := ((P2.other W11 (Or.inr (slot_ne (Or.inr (wq hw 93 rfl)) (Or.inl (wq hw 100 rfl)) (by decide) (t := (.object "java/lang/String")) (t' := .int) (by decide) (by decide)))).other W35 (Or.inr (slot_ne (Or.inr (wq hw 93 rfl)) (Or.inl (wq hw 84 rfl)) (by decide) (t := (.object "java/lang/String")) (t' := .int) (by decide) (by decide))))
  have f39 : FqG Z h35 r (.int (of + (2 : Int32))) := (F11.other W35 (Or.inr (slot_ne (Or.inl (wq hw 100 rfl)) (Or.inl (wq hw 84 rfl)) (by decide) (t := .int) (t' := .int) (by decide) (by decide))))
  have f40 : FqH Z h35 r (.int xl) := ((P4.other W11 (Or.inr (slot_ne (Or.inl (wq hw 82 rfl)) (Or.inl (wq hw 100 rfl)) (by decide) (t := .int) (t' := .int) (by decide) (by decide)))).other W35 (Or.inr (slot_ne (Or.inl (wq hw 82 rfl)) (Or.inl (wq hw 84 rfl)) (by decide) (t := .int) (t' := .int) (by decide) (by decide))))
  have hE := e35
  refine retVoid X35 hx hret hlk (hb hby dqAC_59) k35 ?_ (by decide) (by decide)
  try rw [hE]
  exact ⟨_, _, rfl, N35, (((Keep.refl h0 [r]).wr W11 (Or.inl (by simp))).wr W35 (Or.inl (by simp))), f36, f37, f38, f39, f40, F35⟩
theorem sec_m0 {l : Launch} {Z : State} {a0 : Array Value} (hw : ∀ d ∈ tables_1, d.before a0 Z = true) {zc : Int32} {r : Addr} {so : Addr} {a : Addr} {t : Addr} {kt : ClassId} {nb : Int32} {vs : List Value} {cd : Int32} {xl : Int32} {xc : Int32} {sl0 : Slot} {sl1 : Slot} {sl2 : Slot} {sl3 : Slot} {sl4 : Slot} {sl5 : Slot} {sl6 : Slot} {sl7 : Slot} {sl10 : Slot} {sl11 : Slot} {sl12 : Slot} {sl13 : Slot} {sl14 : Slot} {kk : Int32} {o0 : Int32} {p : Program} {e : Env} {s T0 S0 : State} {m : MethodId} {below : List Frame} {meth : Method} {cd_ : Code} {vm0 vm1 : Vm} {h0 hh : Heap} {n0 n1 cc ss : Nat} {as' : Array Value} {LL : List Loc} (hx : p.tables.exec = Jvm.exec) (hby : cd_.code = code) (hml : cd_.maxLocals = maxLocals) (hret : meth.sig.returnType = ret) (hlk : meth.locks = false) (hnm : meth.name = x.name) (hown : vm1.findClass x.cls = some m.cls) (hZ : Z.Warmed39 vm1) (X0 : Stand p l e room_1 (s.setVm vm1) m as' below meth cd_ T0 LL cc ss) (e0 : T0.heap = hh) (k0 : To p.tables e below S0 (T0.setTop (mkF m 242 #[sl0, sl1, sl2, sl3, sl4, sl5, sl6, sl7, (vi 0), (vi kk), sl10, sl11, sl12, sl13, sl14, (vr r), .unset, .unset] []))) (N0 : Fr n0 LL) (C0 : CHr Z own_EL vm0 h0 vm1 hh) (hS0 : s.Since vm1 n1) (hn1 : n1 ≤ hh.size) (hn0 : n0 ≤ hh.size) (hcc : cc ≤ room_1.cells) (hss : ss ≤ room_1.slots) (S_c : Sta Z Z.heap "java/lang/String" "COMPACT_STRINGS" "Z" (.int zc)) (hzc : ¬ zc = (0 : Int32)) (P0 : Exa Z hh r "com/example/ceruline/ceruline/parsing/SourceReader") (P1 : FqE Z hh r (.ref so)) (P2 : FqF Z hh r (.ref a)) (P3 : FqG Z hh r (.int o0)) (P4 : FqH Z hh r (.int xl)) (P5 : FqI Z hh r (.int xc)) (P6 : Exa Z hh a "java/lang/String") (P7 : FqA Z hh a (.ref t)) (P8 : FqB Z hh a (.int cd)) (P9 : Arv Z hh t kt .byte nb vs (.int 0)) (O0 : Old Z n0 hh) (hcd : narrow .byte (.int cd) = .int cd) (hln : (nb >>> (cd &&& 31)) = o0) (hk : kk = (0 : Int32)) (gr : n0 ≤ r) (nra : ¬ (@Eq Nat a r)) (nrt : ¬ (@Eq Nat t r)) :
  FinW p e below s room_1 S0 Z own_EL vm0 h0 (fun v h L => v = some (.int 1) ∧ Fr n0 L) := by
 let l2 : Array Slot := #[sl0, sl1, sl2, sl3, sl4, sl5, sl6, sl7, (vi 0), (vi 0), sl10, sl11, sl12, sl13, sl14, (vr r), .unset, .unset]
 have k1 : AtQ p e below S0 T0 m 242 l2 [] := by
  have hq : AtQ p e below S0 T0 m 242 #[sl0, sl1, sl2, sl3, sl4, sl5, sl6, sl7, (vi 0), (vi kk), sl10, sl11, sl12, sl13, sl14, (vr r), .unset, .unset] [] := k0
  rw [hk] at hq; exact hq
 have k3 : AtQ p e below S0 T0 m 285 l2 [] := fun tt hq => k1 tt (by
  refine XS.iload X0.here hx rfl (hb hby at_242) rfl ?_
  refine XS.ifYes X0.here hx rfl (pc0 := 244) (pc' := 252) rfl (hb hby at_244) rfl ((if0 _ _).trans (flt (by decide)).2.2.2) (by decide) (by decide) ?_
  refine XS.iload X0.here hx rfl (hb hby at_252) rfl ?_
  refine XS.iconst X0.here hx rfl (hb hby at_254) ?_
  refine XS.icmpYes X0.here hx rfl (pc0 := 255) (pc' := 263) rfl (hb hby at_255) rfl (flt (by decide)).2.2.2 (by decide) (by decide) ?_
  refine XS.iload X0.here hx rfl (hb hby at_263) rfl ?_
  refine XS.iconst X0.here hx rfl (hb hby at_265) ?_
  refine XS.icmpYes X0.here hx rfl (pc0 := 266) (pc' := 274) rfl (hb hby at_266) rfl (flt (by decide)).2.2.2 (by decide) (by decide) ?_
  refine XS.iload X0.here hx rfl (hb hby at_274) rfl ?_
  refine XS.iconst X0.here hx rfl (hb hby at_276) ?_
  refine XS.icmpYes X0.here hx rfl (pc0 := 277) (pc' := 285) rfl (hb hby at_277) rfl (flt (by decide)).2.2.2 (by decide) (by decide) ?_
  exact hq)
 exact sec_t1 hw hx hby hml hret hlk hnm hown hZ X0 e0 k3 N0 C0 hS0 (by omega) (by omega) hcc hss S_c hzc P0 P1 P2 P3 P4 P5 P6 P7 P8 P9 O0 hcd hln (if_pos rfl) (by decide)
theorem rm_c5_2_0 (l : Launch) (Z : State) (a0 : Array Value) (hw : ∀ d ∈ tables_1, d.before a0 Z = true) (b : Addr) (kb : ClassId) (t : Addr) (kt : ClassId) (d0 : Int32) (d1 : Int32) (h0 : Heap) (n0 : Nat) (hn0 : n0 ≤ h0.size) (P0 : Arv Z h0 b kb .char (2 : Int32) [(.int d0), (.int d1)] (.int 0)) (P1 : Arv Z h0 t kt .byte (2 : Int32) [(.int 0), (.int 0)] (.int 0)) (ga : n0 ≤ t) (nbt : ¬ (@Eq Nat b t)) (hd0 : (255 : Int32) < d0) :
  Con l Z yqA jdk_52_method_21_code 7 (some .int) [] rqA #[(.ref b), (.int 0), (.ref t), (.int 0), (.int 2)] h0 (fun v h L => v = some (.int 0) ∧ Fr n0 L ∧ Keep h0 h [t] ∧ Arv Z h t kt .byte (2 : Int32) [(.int 0), (.int 0)] (.int 0)) := by
 refine enter (Ls := #[(vr b), (vi 0), (vr t), (vi 0), (vi 2), .unset, .unset]) (plainFor_of_name pn_0) (fun m => by exact entry_eq rfl) ?_
 intro p e s m below meth cd_ s₁ S0 hx hby hml hret hlk hnm hown hZ X0 e0 k0
 have N0 := Fr.nil n0
 have k1 : AtQ p e below S0 s₁ m 12 #[(vr b), (vi 0), (vr t), (vi 0), (vi 2), (vi 0), .unset] [(.int 0), (.ref b)] := fun tt hq => k0 tt (by
  refine XS.iconst X0.here hx rfl (hb hby dqN_0) ?_
  refine XS.istore X0.here hx rfl (hb hby dqN_1) rfl (l' := #[(vr b), (vi 0), (vr t), (vi 0), (vi 2), (vi 0), .unset]) rfl ?_
  refine XS.iload X0.here hx rfl (hb hby dqN_3) rfl ?_
  refine XS.iload X0.here hx rfl (hb hby dqN_5) rfl ?_
  refine XS.icmpNo X0.here hx rfl (hb hby dqN_7) rfl (tlt (by decide)).2.1 ?_
  refine XS.aloadN X0.here hx rfl (hb hby dqN_10) rfl rfl ?_
  refine XS.iloadN X0.here hx rfl (hb hby dqN_11) rfl ?_
  exact hq)
 obtain ⟨cl2, Ar2, -, S2, -, G2, -⟩ := id P0
 have hi2 := inb_of (j := (0 : Int32)) S2 ⟨by decide, by decide⟩
 have st2 := fun tt => X0.caload hx (j := (0 : Int32)) (v := (.int d0)) (by rw [e0]; exact Ar2.1) (State.isArrayOf_alike hZ.alike Ar2.2.1) Ar2.2.2 hi2 (G2.at hi2 rfl) (g := (mkF m 12 #[(vr b), (vi 0), (vr t), (vi 0), (vi 2), (vi 0), .unset] [(.int 0), (.ref b)])) rfl rfl (hb hby dqN_12) tt
 have k2 : AtQ p e below S0 s₁ m 13 #[(vr b), (vi 0), (vr t), (vi 0), (vi 2), (vi 0), .unset] [(.int d0)] := fun tt hq => k1 tt (st2 tt hq)
 have k3 : AtQ p e below S0 s₁ m 25 #[(vr b), (vi 0), (vr t), (vi 0), (vi 2), (vi 0), (vi d0)] [(.int 0)] := fun tt hq => k2 tt (by
  refine XS.istore X0.here hx rfl (hb hby dqN_13) rfl (l' := #[(vr b), (vi 0), (vr t), (vi 0), (vi 2), (vi 0), (vi d0)]) rfl ?_
  refine XS.iload X0.here hx rfl (hb hby dqN_15) rfl ?_
  refine XS.sipush X0.here hx rfl (hb hby dqN_17) ?_
  refine XS.icmpNo X0.here hx rfl (hb hby dqN_20) rfl (tlt hd0).2.2.2 ?_
  refine XS.iload X0.here hx rfl (hb hby dqN_23) rfl ?_
  exact hq)
 have hE := e0
 refine retInt X0 hx hret hlk (by simp) rfl (hb hby dqN_25) k3 ?_ (by decide) (by decide)
 try rw [hE]
 exact ⟨rfl, N0, (Keep.refl h0 [t]), P1⟩
theorem dqK_0 : decode jdk_52_method_14_code 0 = .ok (.iload_n 2, 1) := by decide +kernel
theorem dqK_1 : decode jdk_52_method_14_code 1 = .ok (.invokestatic 107, 3) := by decide +kernel
theorem dqK_4 : decode jdk_52_method_14_code 4 = .ok (.astore_n 3, 1) := by decide +kernel
theorem dqK_5 : decode jdk_52_method_14_code 5 = .ok (.iconst 0, 1) := by decide +kernel
theorem dqK_6 : decode jdk_52_method_14_code 6 = .ok (.istore 4, 2) := by decide +kernel
theorem dqK_8 : decode jdk_52_method_14_code 8 = .ok (.iload 4, 2) := by decide +kernel
theorem dqK_10 : decode jdk_52_method_14_code 10 = .ok (.iload_n 2, 1) := by decide +kernel
theorem dqK_11 : decode jdk_52_method_14_code 11 = .ok (.if_icmp .ge 21, 3) := by decide +kernel
theorem dqK_14 : decode jdk_52_method_14_code 14 = .ok (.aload_n 3, 1) := by decide +kernel
theorem dqK_15 : decode jdk_52_method_14_code 15 = .ok (.iload 4, 2) := by decide +kernel
theorem dqK_17 : decode jdk_52_method_14_code 17 = .ok (.aload_n 0, 1) := by decide +kernel
theorem dqK_18 : decode jdk_52_method_14_code 18 = .ok (.iload_n 1, 1) := by decide +kernel
theorem dqK_19 : decode jdk_52_method_14_code 19 = .ok (.caload, 1) := by decide +kernel
theorem dqK_20 : decode jdk_52_method_14_code 20 = .ok (.invokestatic 111, 3) := by decide +kernel
theorem dqK_23 : decode jdk_52_method_14_code 23 = .ok (.iinc 1 1, 3) := by decide +kernel
theorem dqK_26 : decode jdk_52_method_14_code 26 = .ok (.iinc 4 1, 3) := by decide +kernel
theorem dqK_29 : decode jdk_52_method_14_code 29 = .ok (.goto (-21), 3) := by decide +kernel
theorem dqK_32 : decode jdk_52_method_14_code 32 = .ok (.aload_n 3, 1) := by decide +kernel
theorem dqK_33 : decode jdk_52_method_14_code 33 = .ok (.areturn, 1) := by decide +kernel
theorem dqO_0 : decode jdk_52_method_2_code 0 = .ok (.iload_n 0, 1) := by decide +kernel
theorem dqO_1 : decode jdk_52_method_2_code 1 = .ok (.invokestatic 11, 3) := by decide +kernel
theorem dqO_4 : decode jdk_52_method_2_code 4 = .ok (.newarray .byte, 2) := by decide +kernel
theorem dqO_6 : decode jdk_52_method_2_code 6 = .ok (.areturn, 1) := by decide +kernel
theorem dqP_0 : decode jdk_52_method_3_code 0 = .ok (.iload_n 0, 1) := by decide +kernel
theorem dqP_1 : decode jdk_52_method_3_code 1 = .ok (.ifCond .ge 11, 3) := by decide +kernel
theorem dqP_4 : decode jdk_52_method_3_code 4 = .ok (.new 17, 3) := by decide +kernel
theorem dqP_7 : decode jdk_52_method_3_code 7 = .ok (.dup, 1) := by decide +kernel
theorem dqP_8 : decode jdk_52_method_3_code 8 = .ok (.invokespecial 19, 3) := by decide +kernel
theorem dqP_11 : decode jdk_52_method_3_code 11 = .ok (.athrow, 1) := by decide +kernel
theorem dqP_12 : decode jdk_52_method_3_code 12 = .ok (.iload_n 0, 1) := by decide +kernel
theorem dqP_13 : decode jdk_52_method_3_code 13 = .ok (.ldc 20, 2) := by decide +kernel
theorem dqP_15 : decode jdk_52_method_3_code 15 = .ok (.if_icmp .lt 40, 3) := by decide +kernel
theorem dqP_18 : decode jdk_52_method_3_code 18 = .ok (.new 21, 3) := by decide +kernel
theorem dqP_21 : decode jdk_52_method_3_code 21 = .ok (.dup, 1) := by decide +kernel
theorem dqP_22 : decode jdk_52_method_3_code 22 = .ok (.new 23, 3) := by decide +kernel
theorem dqP_25 : decode jdk_52_method_3_code 25 = .ok (.dup, 1) := by decide +kernel
theorem dqP_26 : decode jdk_52_method_3_code 26 = .ok (.invokespecial 25, 3) := by decide +kernel
theorem dqP_29 : decode jdk_52_method_3_code 29 = .ok (.ldc 26, 2) := by decide +kernel
theorem dqP_31 : decode jdk_52_method_3_code 31 = .ok (.invokevirtual 28, 3) := by decide +kernel
theorem dqP_34 : decode jdk_52_method_3_code 34 = .ok (.iload_n 0, 1) := by decide +kernel
theorem dqP_35 : decode jdk_52_method_3_code 35 = .ok (.invokevirtual 32, 3) := by decide +kernel
theorem dqP_38 : decode jdk_52_method_3_code 38 = .ok (.ldc 35, 2) := by decide +kernel
theorem dqP_40 : decode jdk_52_method_3_code 40 = .ok (.invokevirtual 28, 3) := by decide +kernel
theorem dqP_43 : decode jdk_52_method_3_code 43 = .ok (.ldc 20, 2) := by decide +kernel
theorem dqP_45 : decode jdk_52_method_3_code 45 = .ok (.invokevirtual 32, 3) := by decide +kernel
theorem dqP_48 : decode jdk_52_method_3_code 48 = .ok (.invokevirtual 37, 3) := by decide +kernel
theorem dqP_51 : decode jdk_52_method_3_code 51 = .ok (.invokespecial 41, 3) := by decide +kernel
theorem dqP_54 : decode jdk_52_method_3_code 54 = .ok (.athrow, 1) := by decide +kernel
theorem dqP_55 : decode jdk_52_method_3_code 55 = .ok (.iload_n 0, 1) := by decide +kernel
theorem dqP_56 : decode jdk_52_method_3_code 56 = .ok (.iconst 1, 1) := by decide +kernel
theorem dqP_57 : decode jdk_52_method_3_code 57 = .ok (.ishl, 1) := by decide +kernel
theorem dqP_58 : decode jdk_52_method_3_code 58 = .ok (.ireturn, 1) := by decide +kernel
theorem rm_nbl2 (l : Launch) (Z : State) (a0 : Array Value) (hw : ∀ d ∈ tables_1, d.before a0 Z = true)  (h0 : Heap) (n0 : Nat) (hn0 : n0 ≤ h0.size)  :
  Con l Z yqS jdk_52_method_3_code 1 (some .int) [] rqA #[(.int 2)] h0 (fun v h L => v = some (.int 4) ∧ Fr n0 L ∧ h = h0) := by
 refine enter (Ls := #[(vi 2)]) (plainFor_of_name pn_0) (fun m => by exact entry_eq rfl) ?_
 intro p e s m below meth cd_ s₁ S0 hx hby hml hret hlk hnm hown hZ X0 e0 k0
 have N0 := Fr.nil n0
 have k1 : AtQ p e below S0 s₁ m 58 #[(vi 2)] [(.int 4)] := fun tt hq => k0 tt (by
  refine XS.iloadN X0.here hx rfl (hb hby dqP_0) rfl ?_
  refine XS.ifYes X0.here hx rfl (pc0 := 1) (pc' := 12) rfl (hb hby dqP_1) rfl ((if0 _ _).trans (flt (by decide)).2.1) (by decide) (by decide) ?_
  refine XS.iloadN X0.here hx rfl (hb hby dqP_12) rfl ?_
  refine X0.ldcInt hx hown (mvT hZ (wq hw 49 rfl)) (g := (mkF m 13 #[(vi 2)] [(.int 2)])) rfl (hb hby dqP_13) _ ?_
  refine XS.icmpYes X0.here hx rfl (pc0 := 15) (pc' := 55) rfl (hb hby dqP_15) rfl (tlt (by decide)).1 (by decide) (by decide) ?_
  refine XS.iloadN X0.here hx rfl (hb hby dqP_55) rfl ?_
  refine XS.iconst X0.here hx rfl (hb hby dqP_56) ?_
  refine XS.ishl X0.here hx rfl (hb hby dqP_57) rfl ?_
  exact hq)
 have hE := e0
 refine retInt X0 hx hret hlk (by simp) rfl (hb hby dqP_58) k1 ?_ (by decide) (by decide)
 try rw [hE]
 exact ⟨rfl, N0, rfl⟩
theorem rm_nbf2 (l : Launch) (Z : State) (a0 : Array Value) (hw : ∀ d ∈ tables_1, d.before a0 Z = true)  (h0 : Heap) (n0 : Nat) (hn0 : n0 ≤ h0.size)  :
  Con l Z yqT jdk_52_method_2_code 1 (some (.array .byte)) [] rqL #[(.int 2)] h0 (fun v h L => ∃ (t : Addr) (k : ClassId), v = some (.ref t) ∧ Fr n0 L ∧ h0.size ≤ t ∧ Keep h0 h [] ∧ Arv Z h t k .byte (4 : Int32) [(.int 0), (.int 0), (.int 0), (.int 0)] (.int 0)) := by
 refine enter (Ls := #[(vi 2)]) (plainFor_of_name pn_0) (fun m => by exact entry_eq rfl) ?_
 intro p e s m below meth cd_ s₁ S0 hx hby hml hret hlk hnm hown hZ X0 e0 k0
 have N0 := Fr.nil n0
 have k1 : AtQ p e below S0 s₁ m 1 #[(vi 2)] [(.int 2)] := fun tt hq => k0 tt (by
  refine XS.iloadN X0.here hx rfl (hb hby dqO_0) rfl ?_
  exact hq)
 obtain ⟨_, T2, L2, X2, ⟨rfl, Nq2, eq2⟩, k2a⟩ := callS' X0 hx hZ (y := yqS) hown (wq hw 46 rfl) (wq hw 47 rfl) (wq hw 35 rfl) (wq hw 48 rfl) (by decide) (backC (W := 0) (rm_nbl2 l Z a0 hw h0 n0 (by omega)) hZ (wq hw 48 rfl) (wq hw 35 rfl) (by decide) (by decide)) e0 (argsL := [(.int 2)]) (rest := []) rfl rfl pd_13 rfl (by rw [hml]; rfl) (hb hby dqO_1) (Nat.le_of_eq rfl) (by decide) (by decide) k1
 have k2 : AtQ p e below S0 T2 m 4 #[(vi 2)] [(.int 4)] := k2a
 have N2 := N0.app Nq2
 have e2 : T2.heap = h0 := eq2
 obtain ⟨T3, h3, c3, X3, e3, E3, A3, st3⟩ := newP X2 hx hZ (wq hw 16 rfl) e2 (g := (mkF m 4 #[(vi 2)] [(.int 4)])) rfl (hb hby dqO_4) rfl (by decide) (cap := 4) (by decide) (by decide) (by decide) (by decide)
 obtain ⟨b3, g3⟩ : ∃ z, z = h0.size := ⟨_, rfl⟩
 rw [← g3] at A3 st3
 have k3 : AtQ p e below S0 T3 m 6 #[(vi 2)] [(.ref b3)] := fun tt hq => k2 tt (st3 tt hq)
 have z3 : h0.size ≤ h3.size := E3.1
 have V3 : Arv Z h3 b3 c3 .byte (4 : Int32) [(.int 0), (.int 0), (.int 0), (.int 0)] (.int 0) := (Arv.new A3 (by decide)).pad (pad_rep [] (.int 0) 4)
 have y3 : @LT.lt Nat instLTNat b3 h3.size := V3.lt
 have hE := e3
 refine retRef X3 hx hret hlk rfl rfl (hb hby dqO_6) k3 ?_ (by decide) (by decide)
 try rw [hE]
 exact ⟨b3, _, rfl, N2, (by omega), ((Keep.refl h0 []).ext E3), V3⟩
theorem pd_14 : parseMethodDescriptor "(I)[B" = some ⟨[.int], some (.array .byte)⟩ := by decide +kernel
theorem dqQ_0 : decode jdk_52_method_4_code 0 = .ok (.getstatic 44, 3) := by decide +kernel
theorem dqQ_3 : decode jdk_52_method_4_code 3 = .ok (.ifCond .ne 25, 3) := by decide +kernel
theorem dqQ_6 : decode jdk_52_method_4_code 6 = .ok (.iload_n 1, 1) := by decide +kernel
theorem dqQ_7 : decode jdk_52_method_4_code 7 = .ok (.ifCond .lt 11, 3) := by decide +kernel
theorem dqQ_10 : decode jdk_52_method_4_code 10 = .ok (.iload_n 1, 1) := by decide +kernel
theorem dqQ_11 : decode jdk_52_method_4_code 11 = .ok (.aload_n 0, 1) := by decide +kernel
theorem dqQ_12 : decode jdk_52_method_4_code 12 = .ok (.invokestatic 48, 3) := by decide +kernel
theorem dqQ_15 : decode jdk_52_method_4_code 15 = .ok (.if_icmp .lt 13, 3) := by decide +kernel
theorem dqQ_18 : decode jdk_52_method_4_code 18 = .ok (.new 52, 3) := by decide +kernel
theorem dqQ_21 : decode jdk_52_method_4_code 21 = .ok (.dup, 1) := by decide +kernel
theorem dqQ_22 : decode jdk_52_method_4_code 22 = .ok (.ldc 54, 2) := by decide +kernel
theorem dqQ_24 : decode jdk_52_method_4_code 24 = .ok (.invokespecial 56, 3) := by decide +kernel
theorem dqQ_27 : decode jdk_52_method_4_code 27 = .ok (.athrow, 1) := by decide +kernel
theorem dqQ_28 : decode jdk_52_method_4_code 28 = .ok (.iload_n 1, 1) := by decide +kernel
theorem dqQ_29 : decode jdk_52_method_4_code 29 = .ok (.iconst 1, 1) := by decide +kernel
theorem dqQ_30 : decode jdk_52_method_4_code 30 = .ok (.ishl, 1) := by decide +kernel
theorem dqQ_31 : decode jdk_52_method_4_code 31 = .ok (.istore_n 1, 1) := by decide +kernel
theorem dqQ_32 : decode jdk_52_method_4_code 32 = .ok (.aload_n 0, 1) := by decide +kernel
theorem dqQ_33 : decode jdk_52_method_4_code 33 = .ok (.iload_n 1, 1) := by decide +kernel
theorem dqQ_34 : decode jdk_52_method_4_code 34 = .ok (.iinc 1 1, 3) := by decide +kernel
theorem dqQ_37 : decode jdk_52_method_4_code 37 = .ok (.iload_n 2, 1) := by decide +kernel
theorem dqQ_38 : decode jdk_52_method_4_code 38 = .ok (.getstatic 59, 3) := by decide +kernel
theorem dqQ_41 : decode jdk_52_method_4_code 41 = .ok (.ishr, 1) := by decide +kernel
theorem dqQ_42 : decode jdk_52_method_4_code 42 = .ok (.i2b, 1) := by decide +kernel
theorem dqQ_43 : decode jdk_52_method_4_code 43 = .ok (.bastore, 1) := by decide +kernel
theorem dqQ_44 : decode jdk_52_method_4_code 44 = .ok (.aload_n 0, 1) := by decide +kernel
theorem dqQ_45 : decode jdk_52_method_4_code 45 = .ok (.iload_n 1, 1) := by decide +kernel
theorem dqQ_46 : decode jdk_52_method_4_code 46 = .ok (.iload_n 2, 1) := by decide +kernel
theorem dqQ_47 : decode jdk_52_method_4_code 47 = .ok (.getstatic 63, 3) := by decide +kernel
theorem dqQ_50 : decode jdk_52_method_4_code 50 = .ok (.ishr, 1) := by decide +kernel
theorem dqQ_51 : decode jdk_52_method_4_code 51 = .ok (.i2b, 1) := by decide +kernel
theorem dqQ_52 : decode jdk_52_method_4_code 52 = .ok (.bastore, 1) := by decide +kernel
theorem dqQ_53 : decode jdk_52_method_4_code 53 = .ok (.return_, 1) := by decide +kernel
theorem rm_put (l : Launch) (Z : State) (a0 : Array Value) (hw : ∀ d ∈ tables_1, d.before a0 Z = true) (t : Addr) (kt : ClassId) (nb : Int32) (vs : List Value) (i : Int32) (jj : Int32) (k0_ : Nat) (k1_ : Nat) (d : Int32) (us : List Value) (h0 : Heap) (n0 : Nat) (hn0 : n0 ≤ h0.size) (S_ad : Sta Z Z.heap "java/lang/StringUTF16" "$assertionsDisabled" "Z" (.int 1)) (S_hi : Sta Z Z.heap "java/lang/StringUTF16" "HI_BYTE_SHIFT" "I" (.int 0)) (S_lo : Sta Z Z.heap "java/lang/StringUTF16" "LO_BYTE_SHIFT" "I" (.int 8)) (O0 : Old Z n0 h0) (P0 : Arv Z h0 t kt .byte nb vs (.int 0)) (ga : n0 ≤ t) (hj : (i <<< ((1 : Int32) &&& 31)) = jj) (b0 : ¬ jj < (0 : Int32) ∧ jj < nb) (b1 : ¬ (jj + (1 : Int32)) < (0 : Int32) ∧ (jj + (1 : Int32)) < nb) (c0_ : jj.toNatClampNeg = k0_) (c1_ : (jj + (1 : Int32)).toNatClampNeg = k1_) (l0_ : k0_ < vs.length) (l1_ : k1_ < vs.length) (hus : ((vs.set k0_ (.int (ulo d))).set k1_ (.int (uhi d))) = us) :
  Con l Z yqU jdk_52_method_4_code 3 none [] rqA #[(.ref t), (.int i), (.int d)] h0 (fun v h L => v = none ∧ Fr n0 L ∧ Keep h0 h [t] ∧ Arv Z h t kt .byte nb us (.int 0)) := by
 refine enter (Ls := #[(vr t), (vi i), (vi d)]) (plainFor_of_name pn_0) (fun m => by exact entry_eq rfl) ?_
 intro p e s m below meth cd_ s₁ S0 hx hby hml hret hlk hnm hown hZ X0 e0 k0
 have N0 := Fr.nil n0
 subst hus
 obtain ⟨T1, X1, e1, st1⟩ := getS2 X0 hx hZ hown (host := "") (Or.inl (wq hw 53 rfl)) Via.refl e0 (staOld S_ad O0) (g := (mkF m 0 #[(vr t), (vi i), (vi d)] [])) rfl (hb hby dqQ_0)
 have k1 : AtQ p e below S0 T1 m 3 #[(vr t), (vi i), (vi d)] [(.int 1)] := fun tt hq => k0 tt (st1 tt hq)
 have k2 : AtQ p e below S0 T1 m 31 #[(vr t), (vi i), (vi d)] [(.int (i <<< ((1 : Int32) &&& 31)))] := fun tt hq => k1 tt (by
  refine XS.ifYes X1.here hx rfl (pc0 := 3) (pc' := 28) rfl (hb hby dqQ_3) rfl ((if0 _ _).trans (feq (by decide)).2) (by decide) (by decide) ?_
  refine XS.iloadN X1.here hx rfl (hb hby dqQ_28) rfl ?_
  refine XS.iconst X1.here hx rfl (hb hby dqQ_29) ?_
  refine XS.ishl X1.here hx rfl (hb hby dqQ_30) rfl ?_
  exact hq)
 have ht3 := hj
 ·
  have k4 : AtQ p e below S0 T1 m 31 #[(vr t), (vi i), (vi d)] [(.int jj)] := by have hq := k2; rw [ht3] at hq; exact hq
  have k5 : AtQ p e below S0 T1 m 38 #[(vr t), (vi (jj + (1 : Int32))), (vi d)] [(.int d), (.int jj), (.ref t)] := fun tt hq => k4 tt (by
   refine XS.istoreN X1.here hx rfl (hb hby dqQ_31) rfl (l' := #[(vr t), (vi jj), (vi d)]) rfl ?_
   refine XS.aloadN X1.here hx rfl (hb hby dqQ_32) rfl rfl ?_
   refine XS.iloadN X1.here hx rfl (hb hby dqQ_33) rfl ?_
   refine XS.iinc X1.here hx rfl (hb hby dqQ_34) rfl (l' := #[(vr t), (vi (jj + (1 : Int32))), (vi d)]) rfl ?_
   refine XS.iloadN X1.here hx rfl (hb hby dqQ_37) rfl ?_
   exact hq)
  obtain ⟨T6, X6, e6, st6⟩ := getS2 X1 hx hZ hown (host := "") (Or.inl (wq hw 54 rfl)) Via.refl e1 (staOld S_hi O0) (g := (mkF m 38 #[(vr t), (vi (jj + (1 : Int32))), (vi d)] [(.int d), (.int jj), (.ref t)])) rfl (hb hby dqQ_38)
  have k6 : AtQ p e below S0 T6 m 41 #[(vr t), (vi (jj + (1 : Int32))), (vi d)] [(.int 0), (.int d), (.int jj), (.ref t)] := fun tt hq => k5 tt (st6 tt hq)
  have k7 : AtQ p e below S0 T6 m 43 #[(vr t), (vi (jj + (1 : Int32))), (vi d)] [(.int ((d >>> ((0 : Int32) &&& 31)).toInt8.toInt32)), (.int jj), (.ref t)] := fun tt hq => k6 tt (by
   refine XS.ishr X6.here hx rfl (hb hby dqQ_41) rfl ?_
   refine XS.i2b X6.here hx rfl (hb hby dqQ_42) rfl ?_
   exact hq)
  obtain ⟨cl8, Ar8, q8, S8, M8, G8, J8⟩ := id P0
  obtain ⟨T8, h8, X8, e8, W8, st8⟩ := stB X6 hx hZ e6 Ar8 (j := jj) (inb_of S8 (b0)) (g := (mkF m 43 #[(vr t), (vi (jj + (1 : Int32))), (vi d)] [(.int ((d >>> ((0 : Int32) &&& 31)).toInt8.toInt32)), (.int jj), (.ref t)])) rfl rfl (hb hby dqQ_43)
  have k8 : AtQ p e below S0 T8 m 44 #[(vr t), (vi (jj + (1 : Int32))), (vi d)] [] := fun tt hq => k7 tt (st8 tt hq)
  have z8 : h8.size = h0.size := W8.size
  have V8 : Arv Z h8 t kt .byte nb (vs.set k0_ (.int (nar .byte ((d >>> ((0 : Int32) &&& 31)).toInt8.toInt32)))) (.int 0) := Arv.set Ar8 q8 S8 M8 G8 J8 (fits_nar_byte _) W8 k0_ c0_ l0_
  have N8 := Fr.snoc X8 N0 (by omega : n0 ≤ t)
  have f9 : Old Z n0 h8 := (O0.wr W8 (by omega))
  have k10 : AtQ p e below S0 T8 m 47 #[(vr t), (vi (jj + (1 : Int32))), (vi d)] [(.int d), (.int (jj + (1 : Int32))), (.ref t)] := fun tt hq => k8 tt (by
   refine XS.aloadN X8.here hx rfl (hb hby dqQ_44) rfl rfl ?_
   refine XS.iloadN X8.here hx rfl (hb hby dqQ_45) rfl ?_
   refine XS.iloadN X8.here hx rfl (hb hby dqQ_46) rfl ?_
   exact hq)
  obtain ⟨T11, X11, e11, st11⟩ := getS2 X8 hx hZ hown (host := "") (Or.inl (wq hw 55 rfl)) Via.refl e8 (staOld S_lo f9) (g := (mkF m 47 #[(vr t), (vi (jj + (1 : Int32))), (vi d)] [(.int d), (.int (jj + (1 : Int32))), (.ref t)])) rfl (hb hby dqQ_47)
  have k11 : AtQ p e below S0 T11 m 50 #[(vr t), (vi (jj + (1 : Int32))), (vi d)] [(.int 8), (.int d), (.int (jj + (1 : Int32))), (.ref t)] := fun tt hq => k10 tt (st11 tt hq)
  have k12 : AtQ p e below S0 T11 m 52 #[(vr t), (vi (jj + (1 : Int32))), (vi d)] [(.int ((d >>> ((8 : Int32) &&& 31)).toInt8.toInt32)), (.int (jj + (1 : Int32))), (.ref t)] := fun tt hq => k11 tt (by
   refine XS.ishr X11.here hx rfl (hb hby dqQ_50) rfl ?_
   refine XS.i2b X11.here hx rfl (hb hby dqQ_51) rfl ?_
   exact hq)
  obtain ⟨cl13, Ar13, q13, S13, M13, G13, J13⟩ := id V8
  obtain ⟨T13, h13, X13, e13, W13, st13⟩ := stB X11 hx hZ e11 Ar13 (j := (jj + (1 : Int32))) (inb_of S13 (b1)) (g := (mkF m 52 #[(vr t), (vi (jj + (1 : Int32))), (vi d)] [(.int ((d >>> ((8 : Int32) &&& 31)).toInt8.toInt32)), (.int (jj + (1 : Int32))), (.ref t)])) rfl rfl (hb hby dqQ_52)
  have k13 : AtQ p e below S0 T13 m 53 #[(vr t), (vi (jj + (1 : Int32))), (vi d)] [] := fun tt hq => k12 tt (st13 tt hq)
  have z13 : h13.size = h8.size := W13.size
  have V13 : Arv Z h13 t kt .byte nb ((vs.set k0_ (.int (nar .byte ((d >>> ((0 : Int32) &&& 31)).toInt8.toInt32)))).set k1_ (.int (nar .byte ((d >>> ((8 : Int32) &&& 31)).toInt8.toInt32)))) (.int 0) := Arv.set Ar13 q13 S13 M13 G13 J13 (fits_nar_byte _) W13 k1_ c1_ (by simpa using l1_)
  have N13 := Fr.snoc X13 N8 (by omega : n0 ≤ t)
  have hE := e13
  refine retVoid X13 hx hret hlk (hb hby dqQ_53) k13 ?_ (by decide) (by decide)
  try rw [hE]
  exact ⟨rfl, N13, (((Keep.refl h0 [t]).wr W8 (Or.inl (by simp))).wr W13 (Or.inl (by simp))), V13⟩
theorem pd_15 : parseMethodDescriptor "([BII)V" = some ⟨[(.array .byte), .int, .int], none⟩ := by decide +kernel
theorem rm_tb2 (l : Launch) (Z : State) (a0 : Array Value) (hw : ∀ d ∈ tables_1, d.before a0 Z = true) (b : Addr) (kb : ClassId) (d0 : Int32) (d1 : Int32) (h0 : Heap) (n0 : Nat) (hn0 : n0 ≤ h0.size) (S_ad : Sta Z Z.heap "java/lang/StringUTF16" "$assertionsDisabled" "Z" (.int 1)) (S_hi : Sta Z Z.heap "java/lang/StringUTF16" "HI_BYTE_SHIFT" "I" (.int 0)) (S_lo : Sta Z Z.heap "java/lang/StringUTF16" "LO_BYTE_SHIFT" "I" (.int 8)) (O0 : Old Z n0 h0) (P0 : Arv Z h0 b kb .char (2 : Int32) [(.int d0), (.int d1)] (.int 0)) (yb : @LT.lt Nat instLTNat b h0.size) :
  Con l Z yqV jdk_52_method_14_code 5 (some (.array .byte)) [] rqM #[(.ref b), (.int 0), (.int 2)] h0 (fun v h L => ∃ (t : Addr) (k : ClassId), v = some (.ref t) ∧ Fr n0 L ∧ h0.size ≤ t ∧ Keep h0 h [] ∧ Arv Z h t k .byte (4 : Int32) [(.int (ulo d0)), (.int (uhi d0)), (.int (ulo d1)), (.int (uhi d1))] (.int 0)) := by
 refine enter (Ls := #[(vr b), (vi 0), (vi 2), .unset, .unset]) (plainFor_of_name pn_0) (fun m => by exact entry_eq rfl) ?_
 intro p e s m below meth cd_ s₁ S0 hx hby hml hret hlk hnm hown hZ X0 e0 k0
 have N0 := Fr.nil n0
 have k1 : AtQ p e below S0 s₁ m 1 #[(vr b), (vi 0), (vi 2), .unset, .unset] [(.int 2)] := fun tt hq => k0 tt (by
  refine XS.iloadN X0.here hx rfl (hb hby dqK_0) rfl ?_
  exact hq)
 obtain ⟨_, T2, L2, X2, ⟨t2, kt2, rfl, Nq2, gt2, Kq2, V2⟩, k2a⟩ := callS' X0 hx hZ (y := yqT) hown (wq hw 43 rfl) (wq hw 44 rfl) (wq hw 35 rfl) (wq hw 45 rfl) (by decide) (backC (W := 0) (rm_nbf2 l Z a0 hw h0 n0 (by omega)) hZ (wq hw 45 rfl) (wq hw 35 rfl) (by decide) (by decide)) e0 (argsL := [(.int 2)]) (rest := []) rfl rfl pd_14 rfl (by rw [hml]; rfl) (hb hby dqK_1) (Nat.le_of_eq rfl) (by decide) (by decide) k1
 have k2 : AtQ p e below S0 T2 m 4 #[(vr b), (vi 0), (vi 2), .unset, .unset] [(.ref t2)] := k2a
 have N2 := N0.app Nq2
 obtain ⟨h2, e2⟩ : ∃ z, T2.heap = z := ⟨_, rfl⟩
 rw [e2] at Kq2 V2
 have z2 : h0.size ≤ h2.size := Kq2.1
 have y2 : @LT.lt Nat instLTNat t2 h2.size := V2.lt
 have f3 : Arv Z h2 b kb .char (2 : Int32) [(.int d0), (.int d1)] (.int 0) := (P0.keep Kq2 nin0)
 have k4 : AtQ p e below S0 T2 m 19 #[(vr b), (vi 0), (vi 2), (vr t2), (vi 0)] [(.int 0), (.ref b), (.int 0), (.ref t2)] := fun tt hq => k2 tt (by
  refine XS.astoreN X2.here hx rfl (hb hby dqK_4) rfl rfl (l' := #[(vr b), (vi 0), (vi 2), (vr t2), .unset]) rfl ?_
  refine XS.iconst X2.here hx rfl (hb hby dqK_5) ?_
  refine XS.istore X2.here hx rfl (hb hby dqK_6) rfl (l' := #[(vr b), (vi 0), (vi 2), (vr t2), (vi 0)]) rfl ?_
  refine XS.iload X2.here hx rfl (hb hby dqK_8) rfl ?_
  refine XS.iloadN X2.here hx rfl (hb hby dqK_10) rfl ?_
  refine XS.icmpNo X2.here hx rfl (hb hby dqK_11) rfl (tlt (by decide)).2.1 ?_
  refine XS.aloadN X2.here hx rfl (hb hby dqK_14) rfl rfl ?_
  refine XS.iload X2.here hx rfl (hb hby dqK_15) rfl ?_
  refine XS.aloadN X2.here hx rfl (hb hby dqK_17) rfl rfl ?_
  refine XS.iloadN X2.here hx rfl (hb hby dqK_18) rfl ?_
  exact hq)
 obtain ⟨cl5, Ar5, -, S5, -, G5, -⟩ := id f3
 have hi5 := inb_of (j := (0 : Int32)) S5 ⟨by decide, by decide⟩
 have st5 := fun tt => X2.caload hx (j := (0 : Int32)) (v := (.int d0)) (by rw [e2]; exact Ar5.1) (State.isArrayOf_alike hZ.alike Ar5.2.1) Ar5.2.2 hi5 (G5.at hi5 rfl) (g := (mkF m 19 #[(vr b), (vi 0), (vi 2), (vr t2), (vi 0)] [(.int 0), (.ref b), (.int 0), (.ref t2)])) rfl rfl (hb hby dqK_19) tt
 have k5 : AtQ p e below S0 T2 m 20 #[(vr b), (vi 0), (vi 2), (vr t2), (vi 0)] [(.int d0), (.int 0), (.ref t2)] := fun tt hq => k4 tt (st5 tt hq)
 have f6 : Old Z n0 h2 := (O0.keep Kq2 all0)
 obtain ⟨_, T7, L7, X7, ⟨rfl, Nq7, Kq7, V7⟩, k7a⟩ := callS' X2 hx hZ (y := yqU) hown (wq hw 50 rfl) (wq hw 51 rfl) (wq hw 35 rfl) (wq hw 52 rfl) (by decide) (backC (W := 0) (rm_put l Z a0 hw t2 kt2 (4 : Int32) _ (0 : Int32) (0 : Int32) 0 1 d0 [(.int (ulo d0)), (.int (uhi d0)), (.int 0), (.int 0)] h2 n0 (by omega) S_ad S_hi S_lo f6 V2 (by omega) (by decide) (by decide) (by decide) (by decide) (by decide) (Nat.le_of_ble_eq_true rfl) (Nat.le_of_ble_eq_true rfl) rfl) hZ (wq hw 52 rfl) (wq hw 35 rfl) (by decide) (by decide)) e2 (argsL := [(.ref t2), (.int 0), (.int d0)]) (rest := []) rfl rfl pd_15 rfl (by rw [hml]; rfl) (hb hby dqK_20) (Nat.le_of_eq rfl) (by decide) (by decide) k5
 have k7 : AtQ p e below S0 T7 m 23 #[(vr b), (vi 0), (vi 2), (vr t2), (vi 0)] [] := k7a
 have N7 := N2.app Nq7
 obtain ⟨h7, e7⟩ : ∃ z, T7.heap = z := ⟨_, rfl⟩
 rw [e7] at Kq7 V7
 have z7 : h2.size ≤ h7.size := Kq7.1
 have f8 : Arv Z h7 b kb .char (2 : Int32) [(.int d0), (.int d1)] (.int 0) := (f3.keep Kq7 (nin1 (by omega)))
 have k9 : AtQ p e below S0 T7 m 19 #[(vr b), (vi 1), (vi 2), (vr t2), (vi 1)] [(.int 1), (.ref b), (.int 1), (.ref t2)] := fun tt hq => k7 tt (by
  refine XS.iinc X7.here hx rfl (hb hby dqK_23) rfl (l' := #[(vr b), (vi 1), (vi 2), (vr t2), (vi 0)]) rfl ?_
  refine XS.iinc X7.here hx rfl (hb hby dqK_26) rfl (l' := #[(vr b), (vi 1), (vi 2), (vr t2), (vi 1)]) rfl ?_
  refine XS.goto X7.here hx rfl (pc0 := 29) (pc' := 8) rfl (hb hby dqK_29) (by decide) (by decide) ?_
  refine XS.iload X7.here hx rfl (hb hby dqK_8) rfl ?_
  refine XS.iloadN X7.here hx rfl (hb hby dqK_10) rfl ?_
  refine XS.icmpNo X7.here hx rfl (hb hby dqK_11) rfl (tlt (by decide)).2.1 ?_
  refine XS.aloadN X7.here hx rfl (hb hby dqK_14) rfl rfl ?_
  refine XS.iload X7.here hx rfl (hb hby dqK_15) rfl ?_
  refine XS.aloadN X7.here hx rfl (hb hby dqK_17) rfl rfl ?_
  refine XS.iloadN X7.here hx rfl (hb hby dqK_18) rfl ?_
  exact hq)
 obtain ⟨cl10, Ar10, -, S10, -, G10, -⟩ := id f8
 have hi10 := inb_of (j := (1 : Int32)) S10 ⟨by decide, by decide⟩
 have st10 := fun tt => X7.caload hx (j := (1 : Int32)) (v := (.int d1)) (by rw [e7]; exact Ar10.1) (State.isArrayOf_alike hZ.alike Ar10.2.1) Ar10.2.2 hi10 (G10.at hi10 rfl) (g := (mkF m 19 #[(vr b), (vi 1), (vi 2), (vr t2), (vi 1)] [(.int 1), (.ref b), (.int 1), (.ref t2)])) rfl rfl (hb hby dqK_19) tt
 have k10 : AtQ p e below S0 T7 m 20 #[(vr b), (vi 1), (vi 2), (vr t2), (vi 1)] [(.int d1), (.int 1), (.ref t2)] := fun tt hq => k9 tt (st10 tt hq)
 have f11 : Old Z n0 h7 := (f6.keep Kq7 (allS (by omega) all0))
 obtain ⟨_, T12, L12, X12, ⟨rfl, Nq12, Kq12, V12⟩, k12a⟩ := callS' X7 hx hZ (y := yqU) hown (wq hw 50 rfl) (wq hw 51 rfl) (wq hw 35 rfl) (wq hw 52 rfl) (by decide) (backC (W := 0) (rm_put l Z a0 hw t2 kt2 (4 : Int32) _ (1 : Int32) (2 : Int32) 2 3 d1 [(.int (ulo d0)), (.int (uhi d0)), (.int (ulo d1)), (.int (uhi d1))] h7 n0 (by omega) S_ad S_hi S_lo f11 V7 (by omega) (by decide) (by decide) (by decide) (by decide) (by decide) (Nat.le_of_ble_eq_true rfl) (Nat.le_of_ble_eq_true rfl) rfl) hZ (wq hw 52 rfl) (wq hw 35 rfl) (by decide) (by decide)) e7 (argsL := [(.ref t2), (.int 1), (.int d1)]) (rest := []) rfl rfl pd_15 rfl (by rw [hml]; rfl) (hb hby dqK_20) (Nat.le_of_eq rfl) (by decide) (by decide) k10
 have k12 : AtQ p e below S0 T12 m 23 #[(vr b), (vi 1), (vi 2), (vr t2), (vi 1)] [] := k12a
 have N12 := N7.app Nq12
 obtain ⟨h12, e12⟩ : ∃ z, T12.heap = z := ⟨_, rfl⟩
 rw [e12] at Kq12 V12
 have z12 : h7.size ≤ h12.size := Kq12.1
 have k13 : AtQ p e below S0 T12 m 33 #[(vr b), (vi 2), (vi 2), (vr t2), (vi 2)] [(.ref t2)] := fun tt hq => k12 tt (by
  refine XS.iinc X12.here hx rfl (hb hby dqK_23) rfl (l' := #[(vr b), (vi 2), (vi 2), (vr t2), (vi 1)]) rfl ?_
  refine XS.iinc X12.here hx rfl (hb hby dqK_26) rfl (l' := #[(vr b), (vi 2), (vi 2), (vr t2), (vi 2)]) rfl ?_
  refine XS.goto X12.here hx rfl (pc0 := 29) (pc' := 8) rfl (hb hby dqK_29) (by decide) (by decide) ?_
  refine XS.iload X12.here hx rfl (hb hby dqK_8) rfl ?_
  refine XS.iloadN X12.here hx rfl (hb hby dqK_10) rfl ?_
  refine XS.icmpYes X12.here hx rfl (pc0 := 11) (pc' := 32) rfl (hb hby dqK_11) rfl (flt (by decide)).2.1 (by decide) (by decide) ?_
  refine XS.aloadN X12.here hx rfl (hb hby dqK_32) rfl rfl ?_
  exact hq)
 have hE := e12
 refine retRef X12 hx hret hlk rfl rfl (hb hby dqK_33) k13 ?_ (by decide) (by decide)
 try rw [hE]
 exact ⟨t2, _, rfl, N12, (by omega), ((((Keep.refl h0 []).trans Kq2 all0).trans Kq7 (allS (Or.inr (by omega)) all0)).trans Kq12 (allS (Or.inr (by omega)) all0)), V12⟩
theorem pd_16 : parseMethodDescriptor "([CII)[B" = some ⟨[(.array .char), .int, .int], some (.array .byte)⟩ := by decide +kernel
theorem dqR_0 : decode jdk_52_method_5_code 0 = .ok (.getstatic 44, 3) := by decide +kernel
theorem dqR_3 : decode jdk_52_method_5_code 3 = .ok (.ifCond .ne 25, 3) := by decide +kernel
theorem dqR_6 : decode jdk_52_method_5_code 6 = .ok (.iload_n 1, 1) := by decide +kernel
theorem dqR_7 : decode jdk_52_method_5_code 7 = .ok (.ifCond .lt 11, 3) := by decide +kernel
theorem dqR_10 : decode jdk_52_method_5_code 10 = .ok (.iload_n 1, 1) := by decide +kernel
theorem dqR_11 : decode jdk_52_method_5_code 11 = .ok (.aload_n 0, 1) := by decide +kernel
theorem dqR_12 : decode jdk_52_method_5_code 12 = .ok (.invokestatic 48, 3) := by decide +kernel
theorem dqR_15 : decode jdk_52_method_5_code 15 = .ok (.if_icmp .lt 13, 3) := by decide +kernel
theorem dqR_18 : decode jdk_52_method_5_code 18 = .ok (.new 52, 3) := by decide +kernel
theorem dqR_21 : decode jdk_52_method_5_code 21 = .ok (.dup, 1) := by decide +kernel
theorem dqR_22 : decode jdk_52_method_5_code 22 = .ok (.ldc 54, 2) := by decide +kernel
theorem dqR_24 : decode jdk_52_method_5_code 24 = .ok (.invokespecial 56, 3) := by decide +kernel
theorem dqR_27 : decode jdk_52_method_5_code 27 = .ok (.athrow, 1) := by decide +kernel
theorem dqR_28 : decode jdk_52_method_5_code 28 = .ok (.iload_n 1, 1) := by decide +kernel
theorem dqR_29 : decode jdk_52_method_5_code 29 = .ok (.iconst 1, 1) := by decide +kernel
theorem dqR_30 : decode jdk_52_method_5_code 30 = .ok (.ishl, 1) := by decide +kernel
theorem dqR_31 : decode jdk_52_method_5_code 31 = .ok (.istore_n 1, 1) := by decide +kernel
theorem dqR_32 : decode jdk_52_method_5_code 32 = .ok (.aload_n 0, 1) := by decide +kernel
theorem dqR_33 : decode jdk_52_method_5_code 33 = .ok (.iload_n 1, 1) := by decide +kernel
theorem dqR_34 : decode jdk_52_method_5_code 34 = .ok (.iinc 1 1, 3) := by decide +kernel
theorem dqR_37 : decode jdk_52_method_5_code 37 = .ok (.baload, 1) := by decide +kernel
theorem dqR_38 : decode jdk_52_method_5_code 38 = .ok (.sipush 255, 3) := by decide +kernel
theorem dqR_41 : decode jdk_52_method_5_code 41 = .ok (.iand, 1) := by decide +kernel
theorem dqR_42 : decode jdk_52_method_5_code 42 = .ok (.getstatic 59, 3) := by decide +kernel
theorem dqR_45 : decode jdk_52_method_5_code 45 = .ok (.ishl, 1) := by decide +kernel
theorem dqR_46 : decode jdk_52_method_5_code 46 = .ok (.aload_n 0, 1) := by decide +kernel
theorem dqR_47 : decode jdk_52_method_5_code 47 = .ok (.iload_n 1, 1) := by decide +kernel
theorem dqR_48 : decode jdk_52_method_5_code 48 = .ok (.baload, 1) := by decide +kernel
theorem dqR_49 : decode jdk_52_method_5_code 49 = .ok (.sipush 255, 3) := by decide +kernel
theorem dqR_52 : decode jdk_52_method_5_code 52 = .ok (.iand, 1) := by decide +kernel
theorem dqR_53 : decode jdk_52_method_5_code 53 = .ok (.getstatic 63, 3) := by decide +kernel
theorem dqR_56 : decode jdk_52_method_5_code 56 = .ok (.ishl, 1) := by decide +kernel
theorem dqR_57 : decode jdk_52_method_5_code 57 = .ok (.ior, 1) := by decide +kernel
theorem dqR_58 : decode jdk_52_method_5_code 58 = .ok (.i2c, 1) := by decide +kernel
theorem dqR_59 : decode jdk_52_method_5_code 59 = .ok (.ireturn, 1) := by decide +kernel
theorem rm_get (l : Launch) (Z : State) (a0 : Array Value) (hw : ∀ d ∈ tables_1, d.before a0 Z = true) (t : Addr) (kt : ClassId) (nb : Int32) (vs : List Value) (i : Int32) (jj : Int32) (x0_ : Int32) (x1_ : Int32) (r : Int32) (h0 : Heap) (n0 : Nat) (hn0 : n0 ≤ h0.size) (S_ad : Sta Z Z.heap "java/lang/StringUTF16" "$assertionsDisabled" "Z" (.int 1)) (S_hi : Sta Z Z.heap "java/lang/StringUTF16" "HI_BYTE_SHIFT" "I" (.int 0)) (S_lo : Sta Z Z.heap "java/lang/StringUTF16" "LO_BYTE_SHIFT" "I" (.int 8)) (O0 : Old Z n0 h0) (P0 : Arv Z h0 t kt .byte nb vs (.int 0)) (hj : (i <<< ((1 : Int32) &&& 31)) = jj) (b0 : ¬ jj < (0 : Int32) ∧ jj < nb) (b1 : ¬ (jj + (1 : Int32)) < (0 : Int32) ∧ (jj + (1 : Int32)) < nb) (v0_ : vs.getD jj.toNatClampNeg (.int 0) = (.int x0_)) (v1_ : vs.getD (jj + (1 : Int32)).toNatClampNeg (.int 0) = (.int x1_)) (hr : (((x0_ &&& (255 : Int32)) <<< ((0 : Int32) &&& 31)) ||| ((x1_ &&& (255 : Int32)) <<< ((8 : Int32) &&& 31))).toUInt32.toUInt16.toUInt32.toInt32 = r) (r0 : ¬ r < (0 : Int32)) (r1 : r < (65536 : Int32)) :
  Con l Z yqW jdk_52_method_5_code 2 (some .char) [] rqA #[(.ref t), (.int i)] h0 (fun v h L => v = some (.int r) ∧ Fr n0 L ∧ h = h0) := by
 refine enter (Ls := #[(vr t), (vi i)]) (plainFor_of_name pn_0) (fun m => by exact entry_eq rfl) ?_
 intro p e s m below meth cd_ s₁ S0 hx hby hml hret hlk hnm hown hZ X0 e0 k0
 have N0 := Fr.nil n0
 obtain ⟨T1, X1, e1, st1⟩ := getS2 X0 hx hZ hown (host := "") (Or.inl (wq hw 53 rfl)) Via.refl e0 (staOld S_ad O0) (g := (mkF m 0 #[(vr t), (vi i)] [])) rfl (hb hby dqR_0)
 have k1 : AtQ p e below S0 T1 m 3 #[(vr t), (vi i)] [(.int 1)] := fun tt hq => k0 tt (st1 tt hq)
 have k2 : AtQ p e below S0 T1 m 31 #[(vr t), (vi i)] [(.int (i <<< ((1 : Int32) &&& 31)))] := fun tt hq => k1 tt (by
  refine XS.ifYes X1.here hx rfl (pc0 := 3) (pc' := 28) rfl (hb hby dqR_3) rfl ((if0 _ _).trans (feq (by decide)).2) (by decide) (by decide) ?_
  refine XS.iloadN X1.here hx rfl (hb hby dqR_28) rfl ?_
  refine XS.iconst X1.here hx rfl (hb hby dqR_29) ?_
  refine XS.ishl X1.here hx rfl (hb hby dqR_30) rfl ?_
  exact hq)
 have ht3 := hj
 ·
  have k4 : AtQ p e below S0 T1 m 31 #[(vr t), (vi i)] [(.int jj)] := by have hq := k2; rw [ht3] at hq; exact hq
  have k5 : AtQ p e below S0 T1 m 37 #[(vr t), (vi (jj + (1 : Int32)))] [(.int jj), (.ref t)] := fun tt hq => k4 tt (by
   refine XS.istoreN X1.here hx rfl (hb hby dqR_31) rfl (l' := #[(vr t), (vi jj)]) rfl ?_
   refine XS.aloadN X1.here hx rfl (hb hby dqR_32) rfl rfl ?_
   refine XS.iloadN X1.here hx rfl (hb hby dqR_33) rfl ?_
   refine XS.iinc X1.here hx rfl (hb hby dqR_34) rfl (l' := #[(vr t), (vi (jj + (1 : Int32)))]) rfl ?_
   exact hq)
  obtain ⟨cl6, Ar6, -, S6, -, G6, -⟩ := id P0
  have hi6 := inb_of (j := jj) S6 (b0)
  have st6 := fun tt => X1.baloadBytes hx (j := jj) (v := (.int x0_)) (by rw [e1]; exact Ar6.1) (State.isArrayOf_alike hZ.alike Ar6.2.1) Ar6.2.2 hi6 (G6.at hi6 v0_) (g := (mkF m 37 #[(vr t), (vi (jj + (1 : Int32)))] [(.int jj), (.ref t)])) rfl rfl (hb hby dqR_37) tt
  have k6 : AtQ p e below S0 T1 m 38 #[(vr t), (vi (jj + (1 : Int32)))] [(.int x0_)] := fun tt hq => k5 tt (st6 tt hq)
  have k7 : AtQ p e below S0 T1 m 42 #[(vr t), (vi (jj + (1 : Int32)))] [(.int (x0_ &&& (255 : Int32)))] := fun tt hq => k6 tt (by
   refine XS.sipush X1.here hx rfl (hb hby dqR_38) ?_
   refine XS.iand X1.here hx rfl (hb hby dqR_41) rfl ?_
   exact hq)
  obtain ⟨T8, X8, e8, st8⟩ := getS2 X1 hx hZ hown (host := "") (Or.inl (wq hw 54 rfl)) Via.refl e1 (staOld S_hi O0) (g := (mkF m 42 #[(vr t), (vi (jj + (1 : Int32)))] [(.int (x0_ &&& (255 : Int32)))])) rfl (hb hby dqR_42)
  have k8 : AtQ p e below S0 T8 m 45 #[(vr t), (vi (jj + (1 : Int32)))] [(.int 0), (.int (x0_ &&& (255 : Int32)))] := fun tt hq => k7 tt (st8 tt hq)
  have k9 : AtQ p e below S0 T8 m 48 #[(vr t), (vi (jj + (1 : Int32)))] [(.int (jj + (1 : Int32))), (.ref t), (.int ((x0_ &&& (255 : Int32)) <<< ((0 : Int32) &&& 31)))] := fun tt hq => k8 tt (by
   refine XS.ishl X8.here hx rfl (hb hby dqR_45) rfl ?_
   refine XS.aloadN X8.here hx rfl (hb hby dqR_46) rfl rfl ?_
   refine XS.iloadN X8.here hx rfl (hb hby dqR_47) rfl ?_
   exact hq)
  obtain ⟨cl10, Ar10, -, S10, -, G10, -⟩ := id P0
  have hi10 := inb_of (j := (jj + (1 : Int32))) S10 (b1)
  have st10 := fun tt => X8.baloadBytes hx (j := (jj + (1 : Int32))) (v := (.int x1_)) (by rw [e8]; exact Ar10.1) (State.isArrayOf_alike hZ.alike Ar10.2.1) Ar10.2.2 hi10 (G10.at hi10 v1_) (g := (mkF m 48 #[(vr t), (vi (jj + (1 : Int32)))] [(.int (jj + (1 : Int32))), (.ref t), (.int ((x0_ &&& (255 : Int32)) <<< ((0 : Int32) &&& 31)))])) rfl rfl (hb hby dqR_48) tt
  have k10 : AtQ p e below S0 T8 m 49 #[(vr t), (vi (jj + (1 : Int32)))] [(.int x1_), (.int ((x0_ &&& (255 : Int32)) <<< ((0 : Int32) &&& 31)))] := fun tt hq => k9 tt (st10 tt hq)
  have k11 : AtQ p e below S0 T8 m 53 #[(vr t), (vi (jj + (1 : Int32)))] [(.int (x1_ &&& (255 : Int32))), (.int ((x0_ &&& (255 : Int32)) <<< ((0 : Int32) &&& 31)))] := fun tt hq => k10 tt (by
   refine XS.sipush X8.here hx rfl (hb hby dqR_49) ?_
   refine XS.iand X8.here hx rfl (hb hby dqR_52) rfl ?_
   exact hq)
  obtain ⟨T12, X12, e12, st12⟩ := getS2 X8 hx hZ hown (host := "") (Or.inl (wq hw 55 rfl)) Via.refl e8 (staOld S_lo O0) (g := (mkF m 53 #[(vr t), (vi (jj + (1 : Int32)))] [(.int (x1_ &&& (255 : Int32))), (.int ((x0_ &&& (255 : Int32)) <<< ((0 : Int32) &&& 31)))])) rfl (hb hby dqR_53)
  have k12 : AtQ p e below S0 T12 m 56 #[(vr t), (vi (jj + (1 : Int32)))] [(.int 8), (.int (x1_ &&& (255 : Int32))), (.int ((x0_ &&& (255 : Int32)) <<< ((0 : Int32) &&& 31)))] := fun tt hq => k11 tt (st12 tt hq)
  have k13 : AtQ p e below S0 T12 m 59 #[(vr t), (vi (jj + (1 : Int32)))] [(.int ((((x0_ &&& (255 : Int32)) <<< ((0 : Int32) &&& 31)) ||| ((x1_ &&& (255 : Int32)) <<< ((8 : Int32) &&& 31))).toUInt32.toUInt16.toUInt32.toInt32))] := fun tt hq => k12 tt (by
   refine XS.ishl X12.here hx rfl (hb hby dqR_56) rfl ?_
   refine XS.ior X12.here hx rfl (hb hby dqR_57) rfl ?_
   refine XS.i2c X12.here hx rfl (hb hby dqR_58) rfl ?_
   exact hq)
  have hE := e12
  refine retInt X12 hx hret hlk (by simp) (by rw [hr]; exact own_nar16 r0 r1) (hb hby dqR_59) k13 ?_ (by decide) (by decide)
  try rw [hE]
  exact ⟨by rw [hr], N0, rfl⟩
theorem pd_17 : parseMethodDescriptor "([BI)C" = some ⟨[(.array .byte), .int], some .char⟩ := by decide +kernel
theorem rm_c3_2_0 (l : Launch) (Z : State) (a0 : Array Value) (hw : ∀ d ∈ tables_1, d.before a0 Z = true) (b : Addr) (kb : ClassId) (d0 : Int32) (d1 : Int32) (h0 : Heap) (n0 : Nat) (hn0 : n0 ≤ h0.size) (S_ad : Sta Z Z.heap "java/lang/StringUTF16" "$assertionsDisabled" "Z" (.int 1)) (S_hi : Sta Z Z.heap "java/lang/StringUTF16" "HI_BYTE_SHIFT" "I" (.int 0)) (S_lo : Sta Z Z.heap "java/lang/StringUTF16" "LO_BYTE_SHIFT" "I" (.int 8)) (O0 : Old Z n0 h0) (P0 : Arv Z h0 b kb .char (2 : Int32) [(.int d0), (.int d1)] (.int 0)) (yb : @LT.lt Nat instLTNat b h0.size) (hd0 : (255 : Int32) < d0) (g0 : ¬ d0 < (0 : Int32)) (g1 : d0 < (65536 : Int32)) :
  Con l Z yqB jdk_52_method_16_code 6 (some (.array .byte)) [] rqB #[(.ref b), (.int 0), (.int 2)] h0 (fun v h L => ∃ (t : Addr) (k : ClassId), v = some (.ref t) ∧ Fr n0 L ∧ h0.size ≤ t ∧ Keep h0 h [] ∧ Arv Z h t k .byte (4 : Int32) [(.int (ulo d0)), (.int (uhi d0)), (.int (ulo d1)), (.int (uhi d1))] (.int 0)) := by
 refine enter (Ls := #[(vr b), (vi 0), (vi 2), .unset, .unset, .unset]) (plainFor_of_name pn_0) (fun m => by exact entry_eq rfl) ?_
 intro p e s m below meth cd_ s₁ S0 hx hby hml hret hlk hnm hown hZ X0 e0 k0
 have N0 := Fr.nil n0
 have k1 : AtQ p e below S0 s₁ m 1 #[(vr b), (vi 0), (vi 2), .unset, .unset, .unset] [(.int 2)] := fun tt hq => k0 tt (by
  refine XS.iloadN X0.here hx rfl (hb hby dqM_0) rfl ?_
  exact hq)
 obtain ⟨T2, h2, c2, X2, e2, E2, A2, st2⟩ := newP X0 hx hZ (wq hw 16 rfl) e0 (g := (mkF m 1 #[(vr b), (vi 0), (vi 2), .unset, .unset, .unset] [(.int 2)])) rfl (hb hby dqM_1) rfl (by decide) (cap := 2) (by decide) (by decide) (by decide) (by decide)
 obtain ⟨b2, g2⟩ : ∃ z, z = h0.size := ⟨_, rfl⟩
 rw [← g2] at A2 st2
 have k2 : AtQ p e below S0 T2 m 3 #[(vr b), (vi 0), (vi 2), .unset, .unset, .unset] [(.ref b2)] := fun tt hq => k1 tt (st2 tt hq)
 have z2 : h0.size ≤ h2.size := E2.1
 have V2 : Arv Z h2 b2 c2 .byte (2 : Int32) [(.int 0), (.int 0)] (.int 0) := (Arv.new A2 (by decide)).pad (pad_rep [] (.int 0) 2)
 have y2 : @LT.lt Nat instLTNat b2 h2.size := V2.lt
 have k3 : AtQ p e below S0 T2 m 9 #[(vr b), (vi 0), (vi 2), (vr b2), .unset, .unset] [(.int 2), (.int 0), (.ref b2), (.int 0), (.ref b)] := fun tt hq => k2 tt (by
  refine XS.astoreN X2.here hx rfl (hb hby dqM_3) rfl rfl (l' := #[(vr b), (vi 0), (vi 2), (vr b2), .unset, .unset]) rfl ?_
  refine XS.aloadN X2.here hx rfl (hb hby dqM_4) rfl rfl ?_
  refine XS.iloadN X2.here hx rfl (hb hby dqM_5) rfl ?_
  refine XS.aloadN X2.here hx rfl (hb hby dqM_6) rfl rfl ?_
  refine XS.iconst X2.here hx rfl (hb hby dqM_7) ?_
  refine XS.iloadN X2.here hx rfl (hb hby dqM_8) rfl ?_
  exact hq)
 have f4 : Arv Z h2 b kb .char (2 : Int32) [(.int d0), (.int d1)] (.int 0) := (P0.ext E2)
 obtain ⟨_, T5, L5, X5, ⟨rfl, Nq5, Kq5, V5⟩, k5a⟩ := callS' X2 hx hZ (y := yqA) hown (wq hw 37 rfl) (wq hw 38 rfl) (wq hw 35 rfl) (wq hw 39 rfl) (by decide) (backC (W := 0) (rm_c5_2_0 l Z a0 hw b kb b2 c2 d0 d1 h2 n0 (by omega) f4 V2 (by omega) (by omega) hd0) hZ (wq hw 39 rfl) (wq hw 35 rfl) (by decide) (by decide)) e2 (argsL := [(.ref b), (.int 0), (.ref b2), (.int 0), (.int 2)]) (rest := []) rfl rfl pd_0 rfl (by rw [hml]; rfl) (hb hby dqM_9) (Nat.le_of_eq rfl) (by decide) (by decide) k3
 have k5 : AtQ p e below S0 T5 m 12 #[(vr b), (vi 0), (vi 2), (vr b2), .unset, .unset] [(.int 0)] := k5a
 have N5 := N0.app Nq5
 obtain ⟨h5, e5⟩ : ∃ z, T5.heap = z := ⟨_, rfl⟩
 rw [e5] at Kq5 V5
 have z5 : h2.size ≤ h5.size := Kq5.1
 have k6 : AtQ p e below S0 T5 m 23 #[(vr b), (vi 0), (vi 2), (vr b2), (vi 0), .unset] [(.int 2), (.int 0), (.ref b)] := fun tt hq => k5 tt (by
  refine XS.istore X5.here hx rfl (hb hby dqM_12) rfl (l' := #[(vr b), (vi 0), (vi 2), (vr b2), (vi 0), .unset]) rfl ?_
  refine XS.iload X5.here hx rfl (hb hby dqM_14) rfl ?_
  refine XS.iloadN X5.here hx rfl (hb hby dqM_16) rfl ?_
  refine XS.icmpNo X5.here hx rfl (hb hby dqM_17) rfl (feq (by decide)).1 ?_
  refine XS.aloadN X5.here hx rfl (hb hby dqM_20) rfl rfl ?_
  refine XS.iloadN X5.here hx rfl (hb hby dqM_21) rfl ?_
  refine XS.iloadN X5.here hx rfl (hb hby dqM_22) rfl ?_
  exact hq)
 have f7 : Old Z n0 h5 := ((O0.ext E2).keep Kq5 (allS (by omega) all0))
 have f8 : Arv Z h5 b kb .char (2 : Int32) [(.int d0), (.int d1)] (.int 0) := (f4.keep Kq5 (nin1 (by omega)))
 obtain ⟨_, T9, L9, X9, ⟨t9, kt9, rfl, Nq9, gt9, Kq9, V9⟩, k9a⟩ := callS' X5 hx hZ (y := yqV) hown (wq hw 40 rfl) (wq hw 41 rfl) (wq hw 35 rfl) (wq hw 42 rfl) (by decide) (backC (W := 0) (rm_tb2 l Z a0 hw b kb d0 d1 h5 n0 (by omega) S_ad S_hi S_lo f7 f8 (by omega)) hZ (wq hw 42 rfl) (wq hw 35 rfl) (by decide) (by decide)) e5 (argsL := [(.ref b), (.int 0), (.int 2)]) (rest := []) rfl rfl pd_16 rfl (by rw [hml]; rfl) (hb hby dqM_23) (Nat.le_of_eq rfl) (by decide) (by decide) k6
 have k9 : AtQ p e below S0 T9 m 26 #[(vr b), (vi 0), (vi 2), (vr b2), (vi 0), .unset] [(.ref t9)] := k9a
 have N9 := N5.app Nq9
 obtain ⟨h9, e9⟩ : ∃ z, T9.heap = z := ⟨_, rfl⟩
 rw [e9] at Kq9 V9
 have z9 : h5.size ≤ h9.size := Kq9.1
 have y9 : @LT.lt Nat instLTNat t9 h9.size := V9.lt
 have k10 : AtQ p e below S0 T9 m 32 #[(vr b), (vi 0), (vi 2), (vr b2), (vi 0), (vr t9)] [(.int 0), (.ref t9)] := fun tt hq => k9 tt (by
  refine XS.astore X9.here hx rfl (hb hby dqM_26) rfl rfl (l' := #[(vr b), (vi 0), (vi 2), (vr b2), (vi 0), (vr t9)]) rfl ?_
  refine XS.aload X9.here hx rfl (hb hby dqM_28) rfl rfl ?_
  refine XS.iload X9.here hx rfl (hb hby dqM_30) rfl ?_
  exact hq)
 have f11 : Old Z n0 h9 := (f7.keep Kq9 all0)
 obtain ⟨_, T12, L12, X12, ⟨rfl, Nq12, eq12⟩, k12a⟩ := callS' X9 hx hZ (y := yqW) hown (wq hw 56 rfl) (wq hw 57 rfl) (wq hw 35 rfl) (wq hw 58 rfl) (by decide) (backC (W := 0) (rm_get l Z a0 hw t9 kt9 (4 : Int32) _ (0 : Int32) (0 : Int32) (ulo d0) (uhi d0) d0 h9 n0 (by omega) S_ad S_hi S_lo f11 V9 (by decide) (by decide) (by decide) rfl rfl (own_gc g0 g1) g0 g1) hZ (wq hw 58 rfl) (wq hw 35 rfl) (by decide) (by decide)) e9 (argsL := [(.ref t9), (.int 0)]) (rest := []) rfl rfl pd_17 rfl (by rw [hml]; rfl) (hb hby dqM_32) (Nat.le_of_eq rfl) (by decide) (by decide) k10
 have k12 : AtQ p e below S0 T12 m 35 #[(vr b), (vi 0), (vi 2), (vr b2), (vi 0), (vr t9)] [(.int d0)] := k12a
 have N12 := N9.app Nq12
 have e12 : T12.heap = h9 := eq12
 have k13 : AtQ p e below S0 T12 m 56 #[(vr b), (vi 0), (vi 2), (vr b2), (vi 0), (vr t9)] [(.ref t9)] := fun tt hq => k12 tt (by
  refine XS.sipush X12.here hx rfl (hb hby dqM_35) ?_
  refine XS.icmpYes X12.here hx rfl (pc0 := 38) (pc' := 54) rfl (hb hby dqM_38) rfl (tlt hd0).2.2.1 (by decide) (by decide) ?_
  refine XS.aload X12.here hx rfl (hb hby dqM_54) rfl rfl ?_
  exact hq)
 have hE := e12
 refine retRef X12 hx hret hlk rfl rfl (hb hby dqM_56) k13 ?_ (by decide) (by decide)
 try rw [hE]
 exact ⟨t9, _, rfl, N12, (by omega), ((((Keep.refl h0 []).ext E2).trans Kq5 (allS (Or.inr (by omega)) all0)).trans Kq9 all0), V9⟩
theorem dqL_0 : decode jdk_52_method_15_code 0 = .ok (.iload_n 1, 1) := by decide +kernel
theorem dqL_1 : decode jdk_52_method_15_code 1 = .ok (.aload_n 0, 1) := by decide +kernel
theorem dqL_2 : decode jdk_52_method_15_code 2 = .ok (.arraylength, 1) := by decide +kernel
theorem dqL_3 : decode jdk_52_method_15_code 3 = .ok (.isub, 1) := by decide +kernel
theorem dqL_4 : decode jdk_52_method_15_code 4 = .ok (.bipush 31, 2) := by decide +kernel
theorem dqL_6 : decode jdk_52_method_15_code 6 = .ok (.iushr, 1) := by decide +kernel
theorem dqL_7 : decode jdk_52_method_15_code 7 = .ok (.i2b, 1) := by decide +kernel
theorem dqL_8 : decode jdk_52_method_15_code 8 = .ok (.ireturn, 1) := by decide +kernel
theorem rm_clu1 (l : Launch) (Z : State) (a0 : Array Value) (hw : ∀ d ∈ tables_1, d.before a0 Z = true) (t : Addr) (kt : ClassId) (nc : Int32) (nb : Int32) (vs : List Value) (h0 : Heap) (n0 : Nat) (hn0 : n0 ≤ h0.size) (P0 : Arv Z h0 t kt .byte nb vs (.int 0)) (hr : ((nc - nb).toUInt32 >>> ((31 : Int32) &&& 31).toUInt32).toInt32.toInt8.toInt32 = (1 : Int32)) :
  Con l Z yqX jdk_52_method_15_code 2 (some .byte) [] rqA #[(.ref t), (.int nc)] h0 (fun v h L => v = some (.int 1) ∧ Fr n0 L ∧ h = h0) := by
 refine enter (Ls := #[(vr t), (vi nc)]) (plainFor_of_name pn_0) (fun m => by exact entry_eq rfl) ?_
 intro p e s m below meth cd_ s₁ S0 hx hby hml hret hlk hnm hown hZ X0 e0 k0
 have N0 := Fr.nil n0
 have k1 : AtQ p e below S0 s₁ m 2 #[(vr t), (vi nc)] [(.ref t), (.int nc)] := fun tt hq => k0 tt (by
  refine XS.iloadN X0.here hx rfl (hb hby dqL_0) rfl ?_
  refine XS.aloadN X0.here hx rfl (hb hby dqL_1) rfl rfl ?_
  exact hq)
 obtain ⟨cl2, Ar2, -, S2, M2, -, -⟩ := id P0
 have st2 := fun tt => X0.arraylength hx (by rw [e0]; exact Ar2.1) (State.isArrayOf_alike hZ.alike Ar2.2.1) (g := (mkF m 2 #[(vr t), (vi nc)] [(.ref t), (.int nc)])) rfl rfl (hb hby dqL_2) tt
 rw [len_of S2 M2] at st2
 have k2 : AtQ p e below S0 s₁ m 3 #[(vr t), (vi nc)] [(.int nb), (.int nc)] := fun tt hq => k1 tt (st2 tt hq)
 have k3 : AtQ p e below S0 s₁ m 8 #[(vr t), (vi nc)] [(.int ((((nc - nb).toUInt32 >>> ((31 : Int32) &&& 31).toUInt32).toInt32).toInt8.toInt32))] := fun tt hq => k2 tt (by
  refine XS.isub X0.here hx rfl (hb hby dqL_3) rfl ?_
  refine XS.bipush X0.here hx rfl (hb hby dqL_4) ?_
  refine XS.iushr X0.here hx rfl (hb hby dqL_6) rfl ?_
  refine XS.i2b X0.here hx rfl (hb hby dqL_7) rfl ?_
  exact hq)
 have hE := e0
 refine retInt X0 hx hret hlk (by simp) (by rw [hr]; rfl) (hb hby dqL_8) k3 ?_ (by decide) (by decide)
 try rw [hE]
 exact ⟨by rw [hr], N0, rfl⟩
theorem pd_18 : parseMethodDescriptor "([BI)B" = some ⟨[(.array .byte), .int], some .byte⟩ := by decide +kernel
theorem rm_n4u1 (l : Launch) (Z : State) (a0 : Array Value) (hw : ∀ d ∈ tables_1, d.before a0 Z = true) (zc : Int32) (a : Addr) (b : Addr) (nc : Int32) (nb : Int32) (vs : List Value) (u1 : Value) (u2 : Value) (h0 : Heap) (n0 : Nat) (hn0 : n0 ≤ h0.size) (S_c : Sta Z Z.heap "java/lang/String" "COMPACT_STRINGS" "Z" (.int zc)) (hzc : ¬ zc = (0 : Int32)) (O0 : Old Z n0 h0) (E0 : Exa Z h0 a "java/lang/String") (F1 : FqA Z h0 a u1) (F2 : FqB Z h0 a u2) (ga : n0 ≤ a) (ya : @LT.lt Nat instLTNat a h0.size) (hnc : ¬ nc = (0 : Int32)) (hcl : ((nc - nb).toUInt32 >>> ((31 : Int32) &&& 31).toUInt32).toInt32.toInt8.toInt32 = (1 : Int32)) (hc3 : Con l Z yqB jdk_52_method_16_code 6 (some (.array .byte)) [] rqB #[(.ref b), (.int 0), (.int nc)] h0 (fun v h L => ∃ (t : Addr) (k : ClassId), v = some (.ref t) ∧ Fr n0 L ∧ h0.size ≤ t ∧ Keep h0 h [] ∧ Arv Z h t k .byte nb vs (.int 0))) :
  Con l Z yqC jdk_42_method_149_code 6 none [] rqN #[(.ref a), (.ref b), (.int 0), (.int nc), .null] h0 (fun v h L => v = none ∧ Fr n0 L ∧ Keep h0 h [a] ∧ ∃ (t : Addr) (k : ClassId), h0.size ≤ t ∧ Exa Z h a "java/lang/String" ∧ FqA Z h a (.ref t) ∧ FqB Z h a (.int 1) ∧ Arv Z h t k .byte nb vs (.int 0)) := by
 refine enter (Ls := #[(vr a), (vr b), (vi 0), (vi nc), .val .null, .unset]) (plainFor_of_name pn_1) (fun m => by exact entry_eq rfl) ?_
 intro p e s m below meth cd_ s₁ S0 hx hby hml hret hlk hnm hown hZ X0 e0 k0
 have N0 := Fr.nil n0
 have k1 : AtQ p e below S0 s₁ m 1 #[(vr a), (vr b), (vi 0), (vi nc), .val .null, .unset] [(.ref a)] := fun tt hq => k0 tt (by
  refine XS.aloadN X0.here hx rfl (hb hby dqD_0) rfl rfl ?_
  exact hq)
 obtain ⟨T2, X2, e2, st2⟩ := initO X0 hx hZ hown (wq hw 29 rfl) (wq hw 30 rfl) (wq hw 31 rfl) e0 (g := (mkF m 1 #[(vr a), (vr b), (vi 0), (vi nc), .val .null, .unset] [(.ref a)])) rfl (by rw [hml]; rfl) rfl (hb hby dqD_1) (by decide) (W := 0) (by show 2 * 0 + _ ≤ _; exact Nat.le_of_eq rfl) (by decide)
 have k2 : AtQ p e below S0 T2 m 4 #[(vr a), (vr b), (vi 0), (vi nc), .val .null, .unset] [] := fun tt hq => k1 tt (st2 tt hq)
 have k3 : AtQ p e below S0 T2 m 27 #[(vr a), (vr b), (vi 0), (vi nc), .val .null, .unset] [] := fun tt hq => k2 tt (by
  refine XS.iloadN X2.here hx rfl (hb hby dqD_4) rfl ?_
  refine XS.ifYes X2.here hx rfl (pc0 := 5) (pc' := 27) rfl (hb hby dqD_5) rfl ((if0 _ _).trans (feq hnc).2) (by decide) (by decide) ?_
  exact hq)
 obtain ⟨T4, X4, e4, st4⟩ := getS2 X2 hx hZ hown (host := "") (Or.inl (wq hw 32 rfl)) Via.refl e2 (staOld S_c O0) (g := (mkF m 27 #[(vr a), (vr b), (vi 0), (vi nc), .val .null, .unset] [])) rfl (hb hby dqD_27)
 have k4 : AtQ p e below S0 T4 m 30 #[(vr a), (vr b), (vi 0), (vi nc), .val .null, .unset] [(.int zc)] := fun tt hq => k3 tt (st4 tt hq)
 have k5 : AtQ p e below S0 T4 m 36 #[(vr a), (vr b), (vi 0), (vi nc), .val .null, .unset] [(.int nc), (.int 0), (.ref b)] := fun tt hq => k4 tt (by
  refine XS.ifNo X4.here hx rfl (hb hby dqD_30) rfl ((if0 _ _).trans (feq hzc).1) ?_
  refine XS.aloadN X4.here hx rfl (hb hby dqD_33) rfl rfl ?_
  refine XS.iloadN X4.here hx rfl (hb hby dqD_34) rfl ?_
  refine XS.iloadN X4.here hx rfl (hb hby dqD_35) rfl ?_
  exact hq)
 obtain ⟨_, T6, L6, X6, ⟨t6, kt6, rfl, Nq6, gt6, Kq6, V6⟩, k6a⟩ := callS' X4 hx hZ (y := yqB) hown (wq hw 33 rfl) (wq hw 34 rfl) (wq hw 35 rfl) (wq hw 36 rfl) (by decide) (backC (W := 0) (hc3) hZ (wq hw 36 rfl) (wq hw 35 rfl) (by decide) (by decide)) e4 (argsL := [(.ref b), (.int 0), (.int nc)]) (rest := []) rfl rfl pd_16 rfl (by rw [hml]; rfl) (hb hby dqD_36) (Nat.le_of_eq rfl) (by decide) (by decide) k5
 have k6 : AtQ p e below S0 T6 m 39 #[(vr a), (vr b), (vi 0), (vi nc), .val .null, .unset] [(.ref t6)] := k6a
 have N6 := N0.app Nq6
 obtain ⟨h6, e6⟩ : ∃ z, T6.heap = z := ⟨_, rfl⟩
 rw [e6] at Kq6 V6
 have z6 : h0.size ≤ h6.size := Kq6.1
 have y6 : @LT.lt Nat instLTNat t6 h6.size := V6.lt
 have k7 : AtQ p e below S0 T6 m 45 #[(vr a), (vr b), (vi 0), (vi nc), .val .null, (vr t6)] [(.int nc), (.ref t6), (.ref a)] := fun tt hq => k6 tt (by
  refine XS.astore X6.here hx rfl (hb hby dqD_39) rfl rfl (l' := #[(vr a), (vr b), (vi 0), (vi nc), .val .null, (vr t6)]) rfl ?_
  refine XS.aloadN X6.here hx rfl (hb hby dqD_41) rfl rfl ?_
  refine XS.aload X6.here hx rfl (hb hby dqD_42) rfl rfl ?_
  refine XS.iloadN X6.here hx rfl (hb hby dqD_44) rfl ?_
  exact hq)
 obtain ⟨_, T8, L8, X8, ⟨rfl, Nq8, eq8⟩, k8a⟩ := callS' X6 hx hZ (y := yqX) hown (wq hw 59 rfl) (wq hw 60 rfl) (wq hw 35 rfl) (wq hw 61 rfl) (by decide) (backC (W := 1) (rm_clu1 l Z a0 hw t6 kt6 nc nb vs h6 n0 (by omega) V6 hcl) hZ (wq hw 61 rfl) (wq hw 35 rfl) (by decide) (by decide)) e6 (argsL := [(.ref t6), (.int nc)]) (rest := [(.ref a)]) rfl rfl pd_18 rfl (by rw [hml]; rfl) (hb hby dqD_45) (Nat.le_of_eq rfl) (by decide) (by decide) k7
 have k8 : AtQ p e below S0 T8 m 48 #[(vr a), (vr b), (vi 0), (vi nc), .val .null, (vr t6)] [(.int 1), (.ref a)] := k8a
 have N8 := N6.app Nq8
 have e8 : T8.heap = h6 := eq8
 have f9 : Exa Z h6 a "java/lang/String" := (E0.keep Kq6)
 have f10 : FqB Z h6 a u2 := (F2.keep Kq6 nin0)
 obtain ⟨T11, h11, X11, e11, W11, st11⟩ := putF X8 hx hZ hown (host := "") (Or.inl (wq hw 62 rfl)) Via.refl e8 f10 f9 (Or.inr ⟨(wq hw 18 rfl), rfl, hnm⟩) (wq hw 15 rfl) (ty := .byte) (by decide) rfl rfl (g := (mkF m 48 #[(vr a), (vr b), (vi 0), (vi nc), .val .null, (vr t6)] [(.int 1), (.ref a)])) rfl rfl (hb hby dqD_48)
 have k11 : AtQ p e below S0 T11 m 51 #[(vr a), (vr b), (vi 0), (vi nc), .val .null, (vr t6)] [] := fun tt hq => k8 tt (st11 tt hq)
 have z11 : h11.size = h6.size := W11.size
 have F11 := f10.same W11
 have N11 := Fr.snoc X11 N8 (by omega : n0 ≤ a)
 have f12 : Exa Z h11 a "java/lang/String" := (f9.wr W11)
 have f13 : FqA Z h11 a u1 := ((F1.keep Kq6 nin0).other W11 (Or.inr (slot_ne (Or.inr (wq hw 17 rfl)) (Or.inr (wq hw 18 rfl)) (by decide) (t := (.array .byte)) (t' := .byte) (by decide) (by decide))))
 have k14 : AtQ p e below S0 T11 m 54 #[(vr a), (vr b), (vi 0), (vi nc), .val .null, (vr t6)] [(.ref t6), (.ref a)] := fun tt hq => k11 tt (by
  refine XS.aloadN X11.here hx rfl (hb hby dqD_51) rfl rfl ?_
  refine XS.aload X11.here hx rfl (hb hby dqD_52) rfl rfl ?_
  exact hq)
 obtain ⟨T15, h15, X15, e15, W15, st15⟩ := putF X11 hx hZ hown (host := "") (Or.inl (wq hw 63 rfl)) Via.refl e11 f13 f12 (Or.inr ⟨(wq hw 17 rfl), rfl, hnm⟩) (wq hw 15 rfl) (ty := (.array .byte)) (by decide) rfl rfl (g := (mkF m 54 #[(vr a), (vr b), (vi 0), (vi nc), .val .null, (vr t6)] [(.ref t6), (.ref a)])) rfl rfl (hb hby dqD_54)
 have k15 : AtQ p e below S0 T15 m 57 #[(vr a), (vr b), (vi 0), (vi nc), .val .null, (vr t6)] [] := fun tt hq => k14 tt (st15 tt hq)
 have z15 : h15.size = h11.size := W15.size
 have F15 := f13.same W15
 have N15 := Fr.snoc X15 N11 (by omega : n0 ≤ a)
 have f16 : Exa Z h15 a "java/lang/String" := (f12.wr W15)
 have f17 : FqB Z h15 a (.int 1) := (F11.other W15 (Or.inr (slot_ne (Or.inr (wq hw 18 rfl)) (Or.inr (wq hw 17 rfl)) (by decide) (t := .byte) (t' := (.array .byte)) (by decide) (by decide))))
 have f18 : Arv Z h15 t6 kt6 .byte nb vs (.int 0) := ((V6.other W11 (adr_ne (by omega))).other W15 (adr_ne (by omega)))
 have hE := e15
 refine retVoid X15 hx hret hlk (hb hby dqD_57) k15 ?_ (by decide) (by decide)
 try rw [hE]
 exact ⟨rfl, N15, ((((Keep.refl h0 [a]).trans Kq6 all0).wr W11 (Or.inl (by simp))).wr W15 (Or.inl (by simp))), t6, kt6, (by omega), f16, F15, f17, f18⟩
theorem rm_n1u1 (l : Launch) (Z : State) (a0 : Array Value) (hw : ∀ d ∈ tables_1, d.before a0 Z = true) (zc : Int32) (a : Addr) (b : Addr) (nc : Int32) (nb : Int32) (vs : List Value) (u1 : Value) (u2 : Value) (kb : ClassId) (us : List Value) (h0 : Heap) (n0 : Nat) (hn0 : n0 ≤ h0.size) (S_c : Sta Z Z.heap "java/lang/String" "COMPACT_STRINGS" "Z" (.int zc)) (hzc : ¬ zc = (0 : Int32)) (O0 : Old Z n0 h0) (E0 : Exa Z h0 a "java/lang/String") (F1 : FqA Z h0 a u1) (F2 : FqB Z h0 a u2) (ga : n0 ≤ a) (ya : @LT.lt Nat instLTNat a h0.size) (hnc : ¬ nc = (0 : Int32)) (hcl : ((nc - nb).toUInt32 >>> ((31 : Int32) &&& 31).toUInt32).toInt32.toInt8.toInt32 = (1 : Int32)) (hc3 : Con l Z yqB jdk_52_method_16_code 6 (some (.array .byte)) [] rqB #[(.ref b), (.int 0), (.int nc)] h0 (fun v h L => ∃ (t : Addr) (k : ClassId), v = some (.ref t) ∧ Fr n0 L ∧ h0.size ≤ t ∧ Keep h0 h [] ∧ Arv Z h t k .byte nb vs (.int 0))) (P0 : Arv Z h0 b kb .char nc us (.int 0)) :
  Con l Z yqD jdk_42_method_3_code 2 none [] rqO #[(.ref a), (.ref b)] h0 (fun v h L => v = none ∧ Fr n0 L ∧ Keep h0 h [a] ∧ ∃ (t : Addr) (k : ClassId), h0.size ≤ t ∧ Exa Z h a "java/lang/String" ∧ FqA Z h a (.ref t) ∧ FqB Z h a (.int 1) ∧ Arv Z h t k .byte nb vs (.int 0)) := by
 refine enter (Ls := #[(vr a), (vr b)]) (plainFor_of_name pn_1) (fun m => by exact entry_eq rfl) ?_
 intro p e s m below meth cd_ s₁ S0 hx hby hml hret hlk hnm hown hZ X0 e0 k0
 have N0 := Fr.nil n0
 have k1 : AtQ p e below S0 s₁ m 4 #[(vr a), (vr b)] [(.ref b), (.int 0), (.ref b), (.ref a)] := fun tt hq => k0 tt (by
  refine XS.aloadN X0.here hx rfl (hb hby dqH_0) rfl rfl ?_
  refine XS.aloadN X0.here hx rfl (hb hby dqH_1) rfl rfl ?_
  refine XS.iconst X0.here hx rfl (hb hby dqH_2) ?_
  refine XS.aloadN X0.here hx rfl (hb hby dqH_3) rfl rfl ?_
  exact hq)
 obtain ⟨cl2, Ar2, -, S2, M2, -, -⟩ := id P0
 have st2 := fun tt => X0.arraylength hx (by rw [e0]; exact Ar2.1) (State.isArrayOf_alike hZ.alike Ar2.2.1) (g := (mkF m 4 #[(vr a), (vr b)] [(.ref b), (.int 0), (.ref b), (.ref a)])) rfl rfl (hb hby dqH_4) tt
 rw [len_of S2 M2] at st2
 have k2 : AtQ p e below S0 s₁ m 5 #[(vr a), (vr b)] [(.int nc), (.int 0), (.ref b), (.ref a)] := fun tt hq => k1 tt (st2 tt hq)
 have k3 : AtQ p e below S0 s₁ m 6 #[(vr a), (vr b)] [.null, (.int nc), (.int 0), (.ref b), (.ref a)] := fun tt hq => k2 tt (by
  refine XS.aconstNull X0.here hx rfl (hb hby dqH_5) ?_
  exact hq)
 obtain ⟨_, T4, L4, X4, ⟨rfl, Nq4, Kq4, t4, kt4, gt4, P40, P41, P42, P43⟩, k4a⟩ := callC' X0 hx hZ (y := yqC) rfl hown (wq hw 25 rfl) (wq hw 26 rfl) (wq hw 28 rfl) (by decide) (backC (W := 0) (rm_n4u1 l Z a0 hw zc a b nc nb vs u1 u2 h0 n0 (by omega) S_c hzc O0 E0 F1 F2 ga ya hnc hcl hc3) hZ (wq hw 28 rfl) (wq hw 14 rfl) (by decide) (by decide)) e0 (argsL := [(.ref b), (.int 0), (.int nc), .null]) (rest := []) rfl rfl pd_1 rfl (by rw [hml]; rfl) (hb hby dqH_6) (Nat.le_of_eq rfl) (by decide) (by decide) k3
 have k4 : AtQ p e below S0 T4 m 9 #[(vr a), (vr b)] [] := k4a
 have N4 := N0.app Nq4
 obtain ⟨h4, e4⟩ : ∃ z, T4.heap = z := ⟨_, rfl⟩
 rw [e4] at Kq4 P40 P41 P42 P43
 have z4 : h0.size ≤ h4.size := Kq4.1
 have y4 : @LT.lt Nat instLTNat t4 h4.size := P43.lt
 have hE := e4
 refine retVoid X4 hx hret hlk (hb hby dqH_9) k4 ?_ (by decide) (by decide)
 try rw [hE]
 exact ⟨rfl, N4, ((Keep.refl h0 [a]).trans Kq4 (allS (Or.inl (by simp)) all0)), t4, kt4, (by omega), P40, P41, P42, P43⟩
theorem sec_m1 {l : Launch} {Z : State} {a0 : Array Value} (hw : ∀ d ∈ tables_1, d.before a0 Z = true) {zc : Int32} {r : Addr} {so : Addr} {a : Addr} {t : Addr} {kt : ClassId} {nb : Int32} {vs : List Value} {cd : Int32} {xl : Int32} {xc : Int32} {sl0 : Slot} {sl1 : Slot} {sl2 : Slot} {sl3 : Slot} {sl4 : Slot} {sl5 : Slot} {sl6 : Slot} {sl7 : Slot} {sl10 : Slot} {sl11 : Slot} {sl12 : Slot} {sl13 : Slot} {sl14 : Slot} {kk : Int32} {o0 : Int32} {o1 : Int32} {p : Program} {e : Env} {s T0 S0 : State} {m : MethodId} {below : List Frame} {meth : Method} {cd_ : Code} {vm0 vm1 : Vm} {h0 hh : Heap} {n0 n1 cc ss : Nat} {as' : Array Value} {LL : List Loc} (hx : p.tables.exec = Jvm.exec) (hby : cd_.code = code) (hml : cd_.maxLocals = maxLocals) (hret : meth.sig.returnType = ret) (hlk : meth.locks = false) (hnm : meth.name = x.name) (hown : vm1.findClass x.cls = some m.cls) (hZ : Z.Warmed39 vm1) (X0 : Stand p l e room_1 (s.setVm vm1) m as' below meth cd_ T0 LL cc ss) (e0 : T0.heap = hh) (k0 : To p.tables e below S0 (T0.setTop (mkF m 242 #[sl0, sl1, sl2, sl3, sl4, sl5, sl6, sl7, (vi 1), (vi kk), sl10, sl11, sl12, sl13, sl14, (vr r), .unset, .unset] []))) (N0 : Fr n0 LL) (C0 : CHr Z own_EL vm0 h0 vm1 hh) (hS0 : s.Since vm1 n1) (hn1 : n1 ≤ hh.size) (hn0 : n0 ≤ hh.size) (hcc : cc ≤ room_1.cells) (hss : ss ≤ room_1.slots) (S_c : Sta Z Z.heap "java/lang/String" "COMPACT_STRINGS" "Z" (.int zc)) (hzc : ¬ zc = (0 : Int32)) (P0 : Exa Z hh r "com/example/ceruline/ceruline/parsing/SourceReader") (P1 : FqE Z hh r (.ref so)) (P2 : FqF Z hh r (.ref a)) (P3 : FqG Z hh r (.int o0)) (P4 : FqH Z hh r (.int xl)) (P5 : FqI Z hh r (.int xc)) (P6 : Exa Z hh a "java/lang/String") (P7 : FqA Z hh a (.ref t)) (P8 : FqB Z hh a (.int cd)) (P9 : Arv Z hh t kt .byte nb vs (.int 0)) (O0 : Old Z n0 hh) (hcd : narrow .byte (.int cd) = .int cd) (hln : (nb >>> (cd &&& 31)) = o1) (no0 : ¬ o0 = o1) (hk : kk = (0 : Int32) ∨ kk = (1 : Int32)) (gr : n0 ≤ r) (nra : ¬ (@Eq Nat a r)) (nrt : ¬ (@Eq Nat t r)) (ha0 : ∀ (H : Heap) (xl xc : Int32), n0 ≤ H.size → Old Z n0 H → Exa Z H r "com/example/ceruline/ceruline/parsing/SourceReader" → FqE Z H r (.ref so) → FqF Z H r (.ref a) → FqG Z H r (.int o0) → FqH Z H r (.int xl) → FqI Z H r (.int xc) → Exa Z H a "java/lang/String" → FqA Z H a (.ref t) → FqB Z H a (.int cd) → Arv Z H t kt .byte nb vs (.int 0) → Con l Z yqR prog_66_method_4_code 2 none [] rqK #[(.ref r)] H (fun v h L => ∃ (y1 y2 : Int32), v = none ∧ Fr n0 L ∧ Keep H h [r] ∧ Exa Z h r "com/example/ceruline/ceruline/parsing/SourceReader" ∧ FqE Z h r (.ref so) ∧ FqF Z h r (.ref a) ∧ FqG Z h r (.int o1) ∧ FqH Z h r (.int y1) ∧ FqI Z h r (.int y2))) :
  FinW p e below s room_1 S0 Z own_EL vm0 h0 (fun v h L => v = some (.int 1) ∧ Fr n0 L) := by
 rcases hk with hk | hk
 ·
  let l2 : Array Slot := #[sl0, sl1, sl2, sl3, sl4, sl5, sl6, sl7, (vi 1), (vi 0), sl10, sl11, sl12, sl13, sl14, (vr r), .unset, .unset]
  have k1 : AtQ p e below S0 T0 m 242 l2 [] := by
   have hq : AtQ p e below S0 T0 m 242 #[sl0, sl1, sl2, sl3, sl4, sl5, sl6, sl7, (vi 1), (vi kk), sl10, sl11, sl12, sl13, sl14, (vr r), .unset, .unset] [] := k0
   rw [hk] at hq; exact hq
  have k3 : AtQ p e below S0 T0 m 285 l2 [] := fun tt hq => k1 tt (by
   refine XS.iload X0.here hx rfl (hb hby at_242) rfl ?_
   refine XS.ifYes X0.here hx rfl (pc0 := 244) (pc' := 252) rfl (hb hby at_244) rfl ((if0 _ _).trans (flt (by decide)).2.2.2) (by decide) (by decide) ?_
   refine XS.iload X0.here hx rfl (hb hby at_252) rfl ?_
   refine XS.iconst X0.here hx rfl (hb hby at_254) ?_
   refine XS.icmpYes X0.here hx rfl (pc0 := 255) (pc' := 263) rfl (hb hby at_255) rfl (flt (by decide)).2.2.2 (by decide) (by decide) ?_
   refine XS.iload X0.here hx rfl (hb hby at_263) rfl ?_
   refine XS.iconst X0.here hx rfl (hb hby at_265) ?_
   refine XS.icmpYes X0.here hx rfl (pc0 := 266) (pc' := 274) rfl (hb hby at_266) rfl (flt (by decide)).2.2.2 (by decide) (by decide) ?_
   refine XS.iload X0.here hx rfl (hb hby at_274) rfl ?_
   refine XS.iconst X0.here hx rfl (hb hby at_276) ?_
   refine XS.icmpYes X0.here hx rfl (pc0 := 277) (pc' := 285) rfl (hb hby at_277) rfl (flt (by decide)).2.2.2 (by decide) (by decide) ?_
   exact hq)
  exact sec_t0 hw hx hby hml hret hlk hnm hown hZ X0 e0 k3 N0 C0 hS0 (by omega) (by omega) hcc hss S_c hzc P0 P1 P2 P3 P4 P5 P6 P7 P8 P9 O0 hcd hln (if_neg no0) (by decide)
 ·
  have hp4 : (0 : Int32) < kk := by rcases hk with hk <;> rw [hk] <;> decide
  let l5 : Array Slot := #[sl0, sl1, sl2, sl3, sl4, sl5, sl6, sl7, (vi 1), (vi kk), sl10, sl11, sl12, sl13, sl14, (vr r), .unset, .unset]
  have k6 : AtQ p e below S0 T0 m 249 l5 [(.ref r)] := fun tt hq => k0 tt (by
   refine XS.iload X0.here hx rfl (hb hby at_242) rfl ?_
   refine XS.ifNo X0.here hx rfl (hb hby at_244) rfl ((if0 _ _).trans (tlt hp4).2.2.2) ?_
   refine XS.aload X0.here hx rfl (hb hby at_247) rfl rfl ?_
   exact hq)
  obtain ⟨_, T7, L7, X7, ⟨x7, y7x, rfl, Nq7, Kq7, P7_0, P7_1, P7_2, P7_3, P7_4, P7_5⟩, k7a⟩ := callV' X0 hx hZ (y := yqR) (z := yqR) hown (wq hw 94 rfl) (wq hw 95 rfl) (notFace_of_selects (args := #[]) (mvT hZ (wq hw 97 rfl))) (wq hw 97 rfl) (wq hw 96 rfl) (by decide) P0 (backC (W := 0) (ha0 hh xl xc (by omega) O0 P0 P1 P2 P3 P4 P5 P6 P7 P8 P9) hZ (wq hw 98 rfl) (wq hw 9 rfl) (by decide) (by decide)) e0 (argsL := []) (rest := []) rfl rfl pd_6 rfl (by rw [hml]; rfl) (hb hby at_249) (Nat.le_of_eq rfl) hcc hss k6
  have k7 : AtQ p e below S0 T7 m 252 l5 [] := k7a
  have N7 := N0.app Nq7
  obtain ⟨h7, e7⟩ : ∃ z, T7.heap = z := ⟨_, rfl⟩
  rw [e7] at Kq7 P7_0 P7_1 P7_2 P7_3 P7_4 P7_5
  have z7 : hh.size ≤ h7.size := Kq7.1
  have C7 := C0.trans (CHr.keep Kq7 (sfS (Safe.exa hZ.alike P0 (by decide) (by decide)) sf0) C0.1)
  let l9 : Array Slot := #[sl0, sl1, sl2, sl3, sl4, sl5, sl6, sl7, (vi 1), (vi 1), sl10, sl11, sl12, sl13, sl14, (vr r), .unset, .unset]
  have k8 : AtQ p e below S0 T7 m 252 l9 [] := by
   have hq : AtQ p e below S0 T7 m 252 #[sl0, sl1, sl2, sl3, sl4, sl5, sl6, sl7, (vi 1), (vi kk), sl10, sl11, sl12, sl13, sl14, (vr r), .unset, .unset] [] := k7
   rw [hk] at hq; exact hq
  have k10 : AtQ p e below S0 T7 m 285 l9 [] := fun tt hq => k8 tt (by
   refine XS.iload X7.here hx rfl (hb hby at_252) rfl ?_
   refine XS.iconst X7.here hx rfl (hb hby at_254) ?_
   refine XS.icmpYes X7.here hx rfl (pc0 := 255) (pc' := 263) rfl (hb hby at_255) rfl (flt (by decide)).2.2.2 (by decide) (by decide) ?_
   refine XS.iload X7.here hx rfl (hb hby at_263) rfl ?_
   refine XS.iconst X7.here hx rfl (hb hby at_265) ?_
   refine XS.icmpYes X7.here hx rfl (pc0 := 266) (pc' := 274) rfl (hb hby at_266) rfl (flt (by decide)).2.2.2 (by decide) (by decide) ?_
   refine XS.iload X7.here hx rfl (hb hby at_274) rfl ?_
   refine XS.iconst X7.here hx rfl (hb hby at_276) ?_
   refine XS.icmpYes X7.here hx rfl (pc0 := 277) (pc' := 285) rfl (hb hby at_277) rfl (flt (by decide)).2.2.2 (by decide) (by decide) ?_
   exact hq)
  have f11 : Exa Z h7 a "java/lang/String" := (P6.keep Kq7)
  have f12 : FqA Z h7 a (.ref t) := (P7.keep Kq7 (nin1 (by omega)))
  have f13 : FqB Z h7 a (.int cd) := (P8.keep Kq7 (nin1 (by omega)))
  have f14 : Arv Z h7 t kt .byte nb vs (.int 0) := (P9.keep Kq7 (nin1 (by omega)))
  have f15 : Old Z n0 h7 := (O0.keep Kq7 (allS (by omega) all0))
  exact sec_t1 hw hx hby hml hret hlk hnm hown hZ X7 e7 k10 N7 C7 hS0 (by omega) (by omega) hcc hss S_c hzc P7_0 P7_1 P7_2 P7_3 P7_4 P7_5 f11 f12 f13 f14 f15 hcd hln (if_pos rfl) (by decide)
theorem dqS_0 : decode jdk_52_method_7_code 0 = .ok (.getstatic 44, 3) := by decide +kernel
theorem dqS_3 : decode jdk_52_method_7_code 3 = .ok (.ifCond .ne 16, 3) := by decide +kernel
theorem dqS_6 : decode jdk_52_method_7_code 6 = .ok (.iload_n 1, 1) := by decide +kernel
theorem dqS_7 : decode jdk_52_method_7_code 7 = .ok (.iload_n 2, 1) := by decide +kernel
theorem dqS_8 : decode jdk_52_method_7_code 8 = .ok (.if_icmp .lt 11, 3) := by decide +kernel
theorem dqS_11 : decode jdk_52_method_7_code 11 = .ok (.new 52, 3) := by decide +kernel
theorem dqS_14 : decode jdk_52_method_7_code 14 = .ok (.dup, 1) := by decide +kernel
theorem dqS_15 : decode jdk_52_method_7_code 15 = .ok (.invokespecial 66, 3) := by decide +kernel
theorem dqS_18 : decode jdk_52_method_7_code 18 = .ok (.athrow, 1) := by decide +kernel
theorem dqS_19 : decode jdk_52_method_7_code 19 = .ok (.iload_n 3, 1) := by decide +kernel
theorem dqS_20 : decode jdk_52_method_7_code 20 = .ok (.ifCond .eq 8, 3) := by decide +kernel
theorem dqS_23 : decode jdk_52_method_7_code 23 = .ok (.iload_n 1, 1) := by decide +kernel
theorem dqS_24 : decode jdk_52_method_7_code 24 = .ok (.aload_n 0, 1) := by decide +kernel
theorem dqS_25 : decode jdk_52_method_7_code 25 = .ok (.invokestatic 67, 3) := by decide +kernel
theorem dqS_28 : decode jdk_52_method_7_code 28 = .ok (.aload_n 0, 1) := by decide +kernel
theorem dqS_29 : decode jdk_52_method_7_code 29 = .ok (.iload_n 1, 1) := by decide +kernel
theorem dqS_30 : decode jdk_52_method_7_code 30 = .ok (.invokestatic 71, 3) := by decide +kernel
theorem dqS_33 : decode jdk_52_method_7_code 33 = .ok (.istore 4, 2) := by decide +kernel
theorem dqS_35 : decode jdk_52_method_7_code 35 = .ok (.iload 4, 2) := by decide +kernel
theorem dqS_37 : decode jdk_52_method_7_code 37 = .ok (.invokestatic 75, 3) := by decide +kernel
theorem dqS_40 : decode jdk_52_method_7_code 40 = .ok (.ifCond .eq 43, 3) := by decide +kernel
theorem dqS_43 : decode jdk_52_method_7_code 43 = .ok (.iinc 1 1, 3) := by decide +kernel
theorem dqS_46 : decode jdk_52_method_7_code 46 = .ok (.iload_n 1, 1) := by decide +kernel
theorem dqS_47 : decode jdk_52_method_7_code 47 = .ok (.iload_n 2, 1) := by decide +kernel
theorem dqS_48 : decode jdk_52_method_7_code 48 = .ok (.if_icmp .ge 35, 3) := by decide +kernel
theorem dqS_51 : decode jdk_52_method_7_code 51 = .ok (.iload_n 3, 1) := by decide +kernel
theorem dqS_52 : decode jdk_52_method_7_code 52 = .ok (.ifCond .eq 8, 3) := by decide +kernel
theorem dqS_55 : decode jdk_52_method_7_code 55 = .ok (.iload_n 1, 1) := by decide +kernel
theorem dqS_56 : decode jdk_52_method_7_code 56 = .ok (.aload_n 0, 1) := by decide +kernel
theorem dqS_57 : decode jdk_52_method_7_code 57 = .ok (.invokestatic 67, 3) := by decide +kernel
theorem dqS_60 : decode jdk_52_method_7_code 60 = .ok (.aload_n 0, 1) := by decide +kernel
theorem dqS_61 : decode jdk_52_method_7_code 61 = .ok (.iload_n 1, 1) := by decide +kernel
theorem dqS_62 : decode jdk_52_method_7_code 62 = .ok (.invokestatic 71, 3) := by decide +kernel
theorem dqS_65 : decode jdk_52_method_7_code 65 = .ok (.istore 5, 2) := by decide +kernel
theorem dqS_67 : decode jdk_52_method_7_code 67 = .ok (.iload 5, 2) := by decide +kernel
theorem dqS_69 : decode jdk_52_method_7_code 69 = .ok (.invokestatic 81, 3) := by decide +kernel
theorem dqS_72 : decode jdk_52_method_7_code 72 = .ok (.ifCond .eq 11, 3) := by decide +kernel
theorem dqS_75 : decode jdk_52_method_7_code 75 = .ok (.iload 4, 2) := by decide +kernel
theorem dqS_77 : decode jdk_52_method_7_code 77 = .ok (.iload 5, 2) := by decide +kernel
theorem dqS_79 : decode jdk_52_method_7_code 79 = .ok (.invokestatic 84, 3) := by decide +kernel
theorem dqS_82 : decode jdk_52_method_7_code 82 = .ok (.ireturn, 1) := by decide +kernel
theorem dqS_83 : decode jdk_52_method_7_code 83 = .ok (.iload 4, 2) := by decide +kernel
theorem dqS_85 : decode jdk_52_method_7_code 85 = .ok (.ireturn, 1) := by decide +kernel
theorem dqU_0 : decode jdk_89_method_14_code 0 = .ok (.iload_n 0, 1) := by decide +kernel
theorem dqU_1 : decode jdk_89_method_14_code 1 = .ok (.ldc 75, 2) := by decide +kernel
theorem dqU_3 : decode jdk_89_method_14_code 3 = .ok (.if_icmp .lt 13, 3) := by decide +kernel
theorem dqU_6 : decode jdk_89_method_14_code 6 = .ok (.iload_n 0, 1) := by decide +kernel
theorem dqU_7 : decode jdk_89_method_14_code 7 = .ok (.ldc 76, 2) := by decide +kernel
theorem dqU_9 : decode jdk_89_method_14_code 9 = .ok (.if_icmp .ge 7, 3) := by decide +kernel
theorem dqU_12 : decode jdk_89_method_14_code 12 = .ok (.iconst 1, 1) := by decide +kernel
theorem dqU_13 : decode jdk_89_method_14_code 13 = .ok (.goto 4, 3) := by decide +kernel
theorem dqU_16 : decode jdk_89_method_14_code 16 = .ok (.iconst 0, 1) := by decide +kernel
theorem dqU_17 : decode jdk_89_method_14_code 17 = .ok (.ireturn, 1) := by decide +kernel
theorem rm_ihs1 (l : Launch) (Z : State) (a0 : Array Value) (hw : ∀ d ∈ tables_1, d.before a0 Z = true)  (h0 : Heap) (n0 : Nat) (hn0 : n0 ≤ h0.size)  :
  Con l Z yqY jdk_89_method_14_code 1 (some .boolean) [] rqA #[(.int 55357)] h0 (fun v h L => v = some (.int 1) ∧ Fr n0 L ∧ h = h0) := by
 refine enter (Ls := #[(vi 55357)]) (plainFor_of_name pn_6) (fun m => by exact entry_eq rfl) ?_
 intro p e s m below meth cd_ s₁ S0 hx hby hml hret hlk hnm hown hZ X0 e0 k0
 have N0 := Fr.nil n0
 have k1 : AtQ p e below S0 s₁ m 17 #[(vi 55357)] [(.int 1)] := fun tt hq => k0 tt (by
  refine XS.iloadN X0.here hx rfl (hb hby dqU_0) rfl ?_
  refine X0.ldcInt hx hown (mvT hZ (wq hw 129 rfl)) (g := (mkF m 1 #[(vi 55357)] [(.int 55357)])) rfl (hb hby dqU_1) _ ?_
  refine XS.icmpNo X0.here hx rfl (hb hby dqU_3) rfl (flt (by decide)).1 ?_
  refine XS.iloadN X0.here hx rfl (hb hby dqU_6) rfl ?_
  refine X0.ldcInt hx hown (mvT hZ (wq hw 130 rfl)) (g := (mkF m 7 #[(vi 55357)] [(.int 55357)])) rfl (hb hby dqU_7) _ ?_
  refine XS.icmpNo X0.here hx rfl (hb hby dqU_9) rfl (tlt (by decide)).2.1 ?_
  refine XS.iconst X0.here hx rfl (hb hby dqU_12) ?_
  refine XS.goto X0.here hx rfl (pc0 := 13) (pc' := 17) rfl (hb hby dqU_13) (by decide) (by decide) ?_
  exact hq)
 have hE := e0
 refine retInt X0 hx hret hlk (by simp) rfl (hb hby dqU_17) k1 ?_ (by decide) (by decide)
 try rw [hE]
 exact ⟨rfl, N0, rfl⟩
theorem pd_19 : parseMethodDescriptor "(C)Z" = some ⟨[.char], some .boolean⟩ := by decide +kernel
theorem dqV_0 : decode jdk_89_method_15_code 0 = .ok (.iload_n 0, 1) := by decide +kernel
theorem dqV_1 : decode jdk_89_method_15_code 1 = .ok (.ldc 76, 2) := by decide +kernel
theorem dqV_3 : decode jdk_89_method_15_code 3 = .ok (.if_icmp .lt 13, 3) := by decide +kernel
theorem dqV_6 : decode jdk_89_method_15_code 6 = .ok (.iload_n 0, 1) := by decide +kernel
theorem dqV_7 : decode jdk_89_method_15_code 7 = .ok (.ldc 77, 2) := by decide +kernel
theorem dqV_9 : decode jdk_89_method_15_code 9 = .ok (.if_icmp .ge 7, 3) := by decide +kernel
theorem dqV_12 : decode jdk_89_method_15_code 12 = .ok (.iconst 1, 1) := by decide +kernel
theorem dqV_13 : decode jdk_89_method_15_code 13 = .ok (.goto 4, 3) := by decide +kernel
theorem dqV_16 : decode jdk_89_method_15_code 16 = .ok (.iconst 0, 1) := by decide +kernel
theorem dqV_17 : decode jdk_89_method_15_code 17 = .ok (.ireturn, 1) := by decide +kernel
theorem rm_ils1 (l : Launch) (Z : State) (a0 : Array Value) (hw : ∀ d ∈ tables_1, d.before a0 Z = true)  (h0 : Heap) (n0 : Nat) (hn0 : n0 ≤ h0.size)  :
  Con l Z yqZ jdk_89_method_15_code 1 (some .boolean) [] rqA #[(.int 56832)] h0 (fun v h L => v = some (.int 1) ∧ Fr n0 L ∧ h = h0) := by
 refine enter (Ls := #[(vi 56832)]) (plainFor_of_name pn_6) (fun m => by exact entry_eq rfl) ?_
 intro p e s m below meth cd_ s₁ S0 hx hby hml hret hlk hnm hown hZ X0 e0 k0
 have N0 := Fr.nil n0
 have k1 : AtQ p e below S0 s₁ m 17 #[(vi 56832)] [(.int 1)] := fun tt hq => k0 tt (by
  refine XS.iloadN X0.here hx rfl (hb hby dqV_0) rfl ?_
  refine X0.ldcInt hx hown (mvT hZ (wq hw 130 rfl)) (g := (mkF m 1 #[(vi 56832)] [(.int 56832)])) rfl (hb hby dqV_1) _ ?_
  refine XS.icmpNo X0.here hx rfl (hb hby dqV_3) rfl (flt (by decide)).1 ?_
  refine XS.iloadN X0.here hx rfl (hb hby dqV_6) rfl ?_
  refine X0.ldcInt hx hown (mvT hZ (wq hw 134 rfl)) (g := (mkF m 7 #[(vi 56832)] [(.int 56832)])) rfl (hb hby dqV_7) _ ?_
  refine XS.icmpNo X0.here hx rfl (hb hby dqV_9) rfl (tlt (by decide)).2.1 ?_
  refine XS.iconst X0.here hx rfl (hb hby dqV_12) ?_
  refine XS.goto X0.here hx rfl (pc0 := 13) (pc' := 17) rfl (hb hby dqV_13) (by decide) (by decide) ?_
  exact hq)
 have hE := e0
 refine retInt X0 hx hret hlk (by simp) rfl (hb hby dqV_17) k1 ?_ (by decide) (by decide)
 try rw [hE]
 exact ⟨rfl, N0, rfl⟩
theorem dqX_0 : decode jdk_89_method_19_code 0 = .ok (.iload_n 0, 1) := by decide +kernel
theorem dqX_1 : decode jdk_89_method_19_code 1 = .ok (.bipush 10, 2) := by decide +kernel
theorem dqX_3 : decode jdk_89_method_19_code 3 = .ok (.ishl, 1) := by decide +kernel
theorem dqX_4 : decode jdk_89_method_19_code 4 = .ok (.iload_n 1, 1) := by decide +kernel
theorem dqX_5 : decode jdk_89_method_19_code 5 = .ok (.iadd, 1) := by decide +kernel
theorem dqX_6 : decode jdk_89_method_19_code 6 = .ok (.ldc 85, 2) := by decide +kernel
theorem dqX_8 : decode jdk_89_method_19_code 8 = .ok (.iadd, 1) := by decide +kernel
theorem dqX_9 : decode jdk_89_method_19_code 9 = .ok (.ireturn, 1) := by decide +kernel
theorem rm_tcp (l : Launch) (Z : State) (a0 : Array Value) (hw : ∀ d ∈ tables_1, d.before a0 Z = true)  (h0 : Heap) (n0 : Nat) (hn0 : n0 ≤ h0.size)  :
  Con l Z yqAA jdk_89_method_19_code 2 (some .int) [] rqA #[(.int 55357), (.int 56832)] h0 (fun v h L => v = some (.int 128512) ∧ Fr n0 L ∧ h = h0) := by
 refine enter (Ls := #[(vi 55357), (vi 56832)]) (plainFor_of_name pn_6) (fun m => by exact entry_eq rfl) ?_
 intro p e s m below meth cd_ s₁ S0 hx hby hml hret hlk hnm hown hZ X0 e0 k0
 have N0 := Fr.nil n0
 have k1 : AtQ p e below S0 s₁ m 9 #[(vi 55357), (vi 56832)] [(.int 128512)] := fun tt hq => k0 tt (by
  refine XS.iloadN X0.here hx rfl (hb hby dqX_0) rfl ?_
  refine XS.bipush X0.here hx rfl (hb hby dqX_1) ?_
  refine XS.ishl X0.here hx rfl (hb hby dqX_3) rfl ?_
  refine XS.iloadN X0.here hx rfl (hb hby dqX_4) rfl ?_
  refine XS.iadd X0.here hx rfl (hb hby dqX_5) rfl ?_
  refine X0.ldcInt hx hown (mvT hZ (wq hw 138 rfl)) (g := (mkF m 6 #[(vi 55357), (vi 56832)] [(.int 56742400)])) rfl (hb hby dqX_6) _ ?_
  refine XS.iadd X0.here hx rfl (hb hby dqX_8) rfl ?_
  exact hq)
 have hE := e0
 refine retInt X0 hx hret hlk (by simp) rfl (hb hby dqX_9) k1 ?_ (by decide) (by decide)
 try rw [hE]
 exact ⟨rfl, N0, rfl⟩
theorem pd_20 : parseMethodDescriptor "(CC)I" = some ⟨[.char, .char], some .int⟩ := by decide +kernel
theorem rm_cp4p (l : Launch) (Z : State) (a0 : Array Value) (hw : ∀ d ∈ tables_1, d.before a0 Z = true) (t : Addr) (i : Int32) (cnt : Int32) (h0 : Heap) (n0 : Nat) (hn0 : n0 ≤ h0.size) (S_ad : Sta Z Z.heap "java/lang/StringUTF16" "$assertionsDisabled" "Z" (.int 1)) (O0 : Old Z n0 h0) (hg : Con l Z yqW jdk_52_method_5_code 2 (some .char) [] rqA #[(.ref t), (.int i)] h0 (fun v h L => v = some (.int 55357) ∧ Fr n0 L ∧ h = h0)) (hg2 : Con l Z yqW jdk_52_method_5_code 2 (some .char) [] rqA #[(.ref t), (.int (i + (1 : Int32)))] h0 (fun v h L => v = some (.int 56832) ∧ Fr n0 L ∧ h = h0)) (hlt : (i + (1 : Int32)) < cnt) :
  Con l Z yqAB jdk_52_method_7_code 6 (some .int) [] rqG #[(.ref t), (.int i), (.int cnt), (.int 0)] h0 (fun v h L => v = some (.int 128512) ∧ Fr n0 L ∧ h = h0) := by
 refine enter (Ls := #[(vr t), (vi i), (vi cnt), (vi 0), .unset, .unset]) (plainFor_of_name pn_0) (fun m => by exact entry_eq rfl) ?_
 intro p e s m below meth cd_ s₁ S0 hx hby hml hret hlk hnm hown hZ X0 e0 k0
 have N0 := Fr.nil n0
 obtain ⟨T1, X1, e1, st1⟩ := getS2 X0 hx hZ hown (host := "") (Or.inl (wq hw 53 rfl)) Via.refl e0 (staOld S_ad O0) (g := (mkF m 0 #[(vr t), (vi i), (vi cnt), (vi 0), .unset, .unset] [])) rfl (hb hby dqS_0)
 have k1 : AtQ p e below S0 T1 m 3 #[(vr t), (vi i), (vi cnt), (vi 0), .unset, .unset] [(.int 1)] := fun tt hq => k0 tt (st1 tt hq)
 have k2 : AtQ p e below S0 T1 m 30 #[(vr t), (vi i), (vi cnt), (vi 0), .unset, .unset] [(.int i), (.ref t)] := fun tt hq => k1 tt (by
  refine XS.ifYes X1.here hx rfl (pc0 := 3) (pc' := 19) rfl (hb hby dqS_3) rfl ((if0 _ _).trans (feq (by decide)).2) (by decide) (by decide) ?_
  refine XS.iloadN X1.here hx rfl (hb hby dqS_19) rfl ?_
  refine XS.ifYes X1.here hx rfl (pc0 := 20) (pc' := 28) rfl (hb hby dqS_20) rfl ((if0 _ _).trans (teq (by decide)).1) (by decide) (by decide) ?_
  refine XS.aloadN X1.here hx rfl (hb hby dqS_28) rfl rfl ?_
  refine XS.iloadN X1.here hx rfl (hb hby dqS_29) rfl ?_
  exact hq)
 obtain ⟨_, T3, L3, X3, ⟨rfl, Nq3, eq3⟩, k3a⟩ := callS' X1 hx hZ (y := yqW) hown (wq hw 56 rfl) (wq hw 57 rfl) (wq hw 35 rfl) (wq hw 58 rfl) (by decide) (backC (W := 0) (hg) hZ (wq hw 58 rfl) (wq hw 35 rfl) (by decide) (by decide)) e1 (argsL := [(.ref t), (.int i)]) (rest := []) rfl rfl pd_17 rfl (by rw [hml]; rfl) (hb hby dqS_30) (Nat.le_of_eq rfl) (by decide) (by decide) k2
 have k3 : AtQ p e below S0 T3 m 33 #[(vr t), (vi i), (vi cnt), (vi 0), .unset, .unset] [(.int 55357)] := k3a
 have N3 := N0.app Nq3
 have e3 : T3.heap = h0 := eq3
 have k4 : AtQ p e below S0 T3 m 37 #[(vr t), (vi i), (vi cnt), (vi 0), (vi 55357), .unset] [(.int 55357)] := fun tt hq => k3 tt (by
  refine XS.istore X3.here hx rfl (hb hby dqS_33) rfl (l' := #[(vr t), (vi i), (vi cnt), (vi 0), (vi 55357), .unset]) rfl ?_
  refine XS.iload X3.here hx rfl (hb hby dqS_35) rfl ?_
  exact hq)
 obtain ⟨_, T5, L5, X5, ⟨rfl, Nq5, eq5⟩, k5a⟩ := callS' X3 hx hZ (y := yqY) hown (wq hw 125 rfl) (wq hw 126 rfl) (wq hw 127 rfl) (wq hw 128 rfl) (by decide) (backC (W := 0) (rm_ihs1 l Z a0 hw h0 n0 (by omega)) hZ (wq hw 128 rfl) (wq hw 127 rfl) (by decide) (by decide)) e3 (argsL := [(.int 55357)]) (rest := []) rfl rfl pd_19 rfl (by rw [hml]; rfl) (hb hby dqS_37) (Nat.le_of_eq rfl) (by decide) (by decide) k4
 have k5 : AtQ p e below S0 T5 m 40 #[(vr t), (vi i), (vi cnt), (vi 0), (vi 55357), .unset] [(.int 1)] := k5a
 have N5 := N3.app Nq5
 have e5 : T5.heap = h0 := eq5
 have k6 : AtQ p e below S0 T5 m 62 #[(vr t), (vi (i + (1 : Int32))), (vi cnt), (vi 0), (vi 55357), .unset] [(.int (i + (1 : Int32))), (.ref t)] := fun tt hq => k5 tt (by
  refine XS.ifNo X5.here hx rfl (hb hby dqS_40) rfl ((if0 _ _).trans (feq (by decide)).1) ?_
  refine XS.iinc X5.here hx rfl (hb hby dqS_43) rfl (l' := #[(vr t), (vi (i + (1 : Int32))), (vi cnt), (vi 0), (vi 55357), .unset]) rfl ?_
  refine XS.iloadN X5.here hx rfl (hb hby dqS_46) rfl ?_
  refine XS.iloadN X5.here hx rfl (hb hby dqS_47) rfl ?_
  refine XS.icmpNo X5.here hx rfl (hb hby dqS_48) rfl (tlt hlt).2.1 ?_
  refine XS.iloadN X5.here hx rfl (hb hby dqS_51) rfl ?_
  refine XS.ifYes X5.here hx rfl (pc0 := 52) (pc' := 60) rfl (hb hby dqS_52) rfl ((if0 _ _).trans (teq (by decide)).1) (by decide) (by decide) ?_
  refine XS.aloadN X5.here hx rfl (hb hby dqS_60) rfl rfl ?_
  refine XS.iloadN X5.here hx rfl (hb hby dqS_61) rfl ?_
  exact hq)
 obtain ⟨_, T7, L7, X7, ⟨rfl, Nq7, eq7⟩, k7a⟩ := callS' X5 hx hZ (y := yqW) hown (wq hw 56 rfl) (wq hw 57 rfl) (wq hw 35 rfl) (wq hw 58 rfl) (by decide) (backC (W := 0) (hg2) hZ (wq hw 58 rfl) (wq hw 35 rfl) (by decide) (by decide)) e5 (argsL := [(.ref t), (.int (i + (1 : Int32)))]) (rest := []) rfl rfl pd_17 rfl (by rw [hml]; rfl) (hb hby dqS_62) (Nat.le_of_eq rfl) (by decide) (by decide) k6
 have k7 : AtQ p e below S0 T7 m 65 #[(vr t), (vi (i + (1 : Int32))), (vi cnt), (vi 0), (vi 55357), .unset] [(.int 56832)] := k7a
 have N7 := N5.app Nq7
 have e7 : T7.heap = h0 := eq7
 have k8 : AtQ p e below S0 T7 m 69 #[(vr t), (vi (i + (1 : Int32))), (vi cnt), (vi 0), (vi 55357), (vi 56832)] [(.int 56832)] := fun tt hq => k7 tt (by
  refine XS.istore X7.here hx rfl (hb hby dqS_65) rfl (l' := #[(vr t), (vi (i + (1 : Int32))), (vi cnt), (vi 0), (vi 55357), (vi 56832)]) rfl ?_
  refine XS.iload X7.here hx rfl (hb hby dqS_67) rfl ?_
  exact hq)
 obtain ⟨_, T9, L9, X9, ⟨rfl, Nq9, eq9⟩, k9a⟩ := callS' X7 hx hZ (y := yqZ) hown (wq hw 131 rfl) (wq hw 132 rfl) (wq hw 127 rfl) (wq hw 133 rfl) (by decide) (backC (W := 0) (rm_ils1 l Z a0 hw h0 n0 (by omega)) hZ (wq hw 133 rfl) (wq hw 127 rfl) (by decide) (by decide)) e7 (argsL := [(.int 56832)]) (rest := []) rfl rfl pd_19 rfl (by rw [hml]; rfl) (hb hby dqS_69) (Nat.le_of_eq rfl) (by decide) (by decide) k8
 have k9 : AtQ p e below S0 T9 m 72 #[(vr t), (vi (i + (1 : Int32))), (vi cnt), (vi 0), (vi 55357), (vi 56832)] [(.int 1)] := k9a
 have N9 := N7.app Nq9
 have e9 : T9.heap = h0 := eq9
 have k10 : AtQ p e below S0 T9 m 79 #[(vr t), (vi (i + (1 : Int32))), (vi cnt), (vi 0), (vi 55357), (vi 56832)] [(.int 56832), (.int 55357)] := fun tt hq => k9 tt (by
  refine XS.ifNo X9.here hx rfl (hb hby dqS_72) rfl ((if0 _ _).trans (feq (by decide)).1) ?_
  refine XS.iload X9.here hx rfl (hb hby dqS_75) rfl ?_
  refine XS.iload X9.here hx rfl (hb hby dqS_77) rfl ?_
  exact hq)
 obtain ⟨_, T11, L11, X11, ⟨rfl, Nq11, eq11⟩, k11a⟩ := callS' X9 hx hZ (y := yqAA) hown (wq hw 135 rfl) (wq hw 136 rfl) (wq hw 127 rfl) (wq hw 137 rfl) (by decide) (backC (W := 0) (rm_tcp l Z a0 hw h0 n0 (by omega)) hZ (wq hw 137 rfl) (wq hw 127 rfl) (by decide) (by decide)) e9 (argsL := [(.int 55357), (.int 56832)]) (rest := []) rfl rfl pd_20 rfl (by rw [hml]; rfl) (hb hby dqS_79) (Nat.le_of_eq rfl) (by decide) (by decide) k10
 have k11 : AtQ p e below S0 T11 m 82 #[(vr t), (vi (i + (1 : Int32))), (vi cnt), (vi 0), (vi 55357), (vi 56832)] [(.int 128512)] := k11a
 have N11 := N9.app Nq11
 have e11 : T11.heap = h0 := eq11
 have hE := e11
 refine retInt X11 hx hret hlk (by simp) rfl (hb hby dqS_82) k11 ?_ (by decide) (by decide)
 try rw [hE]
 exact ⟨rfl, N11, rfl⟩
theorem rm_ihs0 (l : Launch) (Z : State) (a0 : Array Value) (hw : ∀ d ∈ tables_1, d.before a0 Z = true) (c : Int32) (h0 : Heap) (n0 : Nat) (hn0 : n0 ≤ h0.size) (hs : c < (55296 : Int32)) :
  Con l Z yqY jdk_89_method_14_code 1 (some .boolean) [] rqA #[(.int c)] h0 (fun v h L => v = some (.int 0) ∧ Fr n0 L ∧ h = h0) := by
 refine enter (Ls := #[(vi c)]) (plainFor_of_name pn_6) (fun m => by exact entry_eq rfl) ?_
 intro p e s m below meth cd_ s₁ S0 hx hby hml hret hlk hnm hown hZ X0 e0 k0
 have N0 := Fr.nil n0
 have k1 : AtQ p e below S0 s₁ m 17 #[(vi c)] [(.int 0)] := fun tt hq => k0 tt (by
  refine XS.iloadN X0.here hx rfl (hb hby dqU_0) rfl ?_
  refine X0.ldcInt hx hown (mvT hZ (wq hw 129 rfl)) (g := (mkF m 1 #[(vi c)] [(.int c)])) rfl (hb hby dqU_1) _ ?_
  refine XS.icmpYes X0.here hx rfl (pc0 := 3) (pc' := 16) rfl (hb hby dqU_3) rfl (tlt hs).1 (by decide) (by decide) ?_
  refine XS.iconst X0.here hx rfl (hb hby dqU_16) ?_
  exact hq)
 have hE := e0
 refine retInt X0 hx hret hlk (by simp) rfl (hb hby dqU_17) k1 ?_ (by decide) (by decide)
 try rw [hE]
 exact ⟨rfl, N0, rfl⟩
theorem rm_cp4s (l : Launch) (Z : State) (a0 : Array Value) (hw : ∀ d ∈ tables_1, d.before a0 Z = true) (t : Addr) (i : Int32) (cnt : Int32) (c : Int32) (h0 : Heap) (n0 : Nat) (hn0 : n0 ≤ h0.size) (S_ad : Sta Z Z.heap "java/lang/StringUTF16" "$assertionsDisabled" "Z" (.int 1)) (O0 : Old Z n0 h0) (hg : Con l Z yqW jdk_52_method_5_code 2 (some .char) [] rqA #[(.ref t), (.int i)] h0 (fun v h L => v = some (.int c) ∧ Fr n0 L ∧ h = h0)) (hs : c < (55296 : Int32)) :
  Con l Z yqAB jdk_52_method_7_code 6 (some .int) [] rqG #[(.ref t), (.int i), (.int cnt), (.int 0)] h0 (fun v h L => v = some (.int c) ∧ Fr n0 L ∧ h = h0) := by
 refine enter (Ls := #[(vr t), (vi i), (vi cnt), (vi 0), .unset, .unset]) (plainFor_of_name pn_0) (fun m => by exact entry_eq rfl) ?_
 intro p e s m below meth cd_ s₁ S0 hx hby hml hret hlk hnm hown hZ X0 e0 k0
 have N0 := Fr.nil n0
 obtain ⟨T1, X1, e1, st1⟩ := getS2 X0 hx hZ hown (host := "") (Or.inl (wq hw 53 rfl)) Via.refl e0 (staOld S_ad O0) (g := (mkF m 0 #[(vr t), (vi i), (vi cnt), (vi 0), .unset, .unset] [])) rfl (hb hby dqS_0)
 have k1 : AtQ p e below S0 T1 m 3 #[(vr t), (vi i), (vi cnt), (vi 0), .unset, .unset] [(.int 1)] := fun tt hq => k0 tt (st1 tt hq)
 have k2 : AtQ p e below S0 T1 m 30 #[(vr t), (vi i), (vi cnt), (vi 0), .unset, .unset] [(.int i), (.ref t)] := fun tt hq => k1 tt (by
  refine XS.ifYes X1.here hx rfl (pc0 := 3) (pc' := 19) rfl (hb hby dqS_3) rfl ((if0 _ _).trans (feq (by decide)).2) (by decide) (by decide) ?_
  refine XS.iloadN X1.here hx rfl (hb hby dqS_19) rfl ?_
  refine XS.ifYes X1.here hx rfl (pc0 := 20) (pc' := 28) rfl (hb hby dqS_20) rfl ((if0 _ _).trans (teq (by decide)).1) (by decide) (by decide) ?_
  refine XS.aloadN X1.here hx rfl (hb hby dqS_28) rfl rfl ?_
  refine XS.iloadN X1.here hx rfl (hb hby dqS_29) rfl ?_
  exact hq)
 obtain ⟨_, T3, L3, X3, ⟨rfl, Nq3, eq3⟩, k3a⟩ := callS' X1 hx hZ (y := yqW) hown (wq hw 56 rfl) (wq hw 57 rfl) (wq hw 35 rfl) (wq hw 58 rfl) (by decide) (backC (W := 0) (hg) hZ (wq hw 58 rfl) (wq hw 35 rfl) (by decide) (by decide)) e1 (argsL := [(.ref t), (.int i)]) (rest := []) rfl rfl pd_17 rfl (by rw [hml]; rfl) (hb hby dqS_30) (Nat.le_of_eq rfl) (by decide) (by decide) k2
 have k3 : AtQ p e below S0 T3 m 33 #[(vr t), (vi i), (vi cnt), (vi 0), .unset, .unset] [(.int c)] := k3a
 have N3 := N0.app Nq3
 have e3 : T3.heap = h0 := eq3
 have k4 : AtQ p e below S0 T3 m 37 #[(vr t), (vi i), (vi cnt), (vi 0), (vi c), .unset] [(.int c)] := fun tt hq => k3 tt (by
  refine XS.istore X3.here hx rfl (hb hby dqS_33) rfl (l' := #[(vr t), (vi i), (vi cnt), (vi 0), (vi c), .unset]) rfl ?_
  refine XS.iload X3.here hx rfl (hb hby dqS_35) rfl ?_
  exact hq)
 obtain ⟨_, T5, L5, X5, ⟨rfl, Nq5, eq5⟩, k5a⟩ := callS' X3 hx hZ (y := yqY) hown (wq hw 125 rfl) (wq hw 126 rfl) (wq hw 127 rfl) (wq hw 128 rfl) (by decide) (backC (W := 0) (rm_ihs0 l Z a0 hw c h0 n0 (by omega) hs) hZ (wq hw 128 rfl) (wq hw 127 rfl) (by decide) (by decide)) e3 (argsL := [(.int c)]) (rest := []) rfl rfl pd_19 rfl (by rw [hml]; rfl) (hb hby dqS_37) (Nat.le_of_eq rfl) (by decide) (by decide) k4
 have k5 : AtQ p e below S0 T5 m 40 #[(vr t), (vi i), (vi cnt), (vi 0), (vi c), .unset] [(.int 0)] := k5a
 have N5 := N3.app Nq5
 have e5 : T5.heap = h0 := eq5
 have k6 : AtQ p e below S0 T5 m 85 #[(vr t), (vi i), (vi cnt), (vi 0), (vi c), .unset] [(.int c)] := fun tt hq => k5 tt (by
  refine XS.ifYes X5.here hx rfl (pc0 := 40) (pc' := 83) rfl (hb hby dqS_40) rfl ((if0 _ _).trans (teq (by decide)).1) (by decide) (by decide) ?_
  refine XS.iload X5.here hx rfl (hb hby dqS_83) rfl ?_
  exact hq)
 have hE := e5
 refine retInt X5 hx hret hlk (by simp) rfl (hb hby dqS_85) k6 ?_ (by decide) (by decide)
 try rw [hE]
 exact ⟨rfl, N5, rfl⟩
theorem dqT_0 : decode jdk_52_method_8_code 0 = .ok (.aload_n 0, 1) := by decide +kernel
theorem dqT_1 : decode jdk_52_method_8_code 1 = .ok (.iload_n 1, 1) := by decide +kernel
theorem dqT_2 : decode jdk_52_method_8_code 2 = .ok (.iload_n 2, 1) := by decide +kernel
theorem dqT_3 : decode jdk_52_method_8_code 3 = .ok (.iconst 0, 1) := by decide +kernel
theorem dqT_4 : decode jdk_52_method_8_code 4 = .ok (.invokestatic 88, 3) := by decide +kernel
theorem dqT_7 : decode jdk_52_method_8_code 7 = .ok (.ireturn, 1) := by decide +kernel
theorem pd_21 : parseMethodDescriptor "([BIIZ)I" = some ⟨[(.array .byte), .int, .int, .boolean], some .int⟩ := by decide +kernel
theorem rm_cp3u (l : Launch) (Z : State) (a0 : Array Value) (hw : ∀ d ∈ tables_1, d.before a0 Z = true) (t : Addr) (i : Int32) (cnt : Int32) (c : Int32) (h0 : Heap) (n0 : Nat) (hn0 : n0 ≤ h0.size) (hc4 : Con l Z yqAB jdk_52_method_7_code 6 (some .int) [] rqG #[(.ref t), (.int i), (.int cnt), (.int 0)] h0 (fun v h L => v = some (.int c) ∧ Fr n0 L ∧ h = h0)) :
  Con l Z yqAC jdk_52_method_8_code 3 (some .int) [] rqP #[(.ref t), (.int i), (.int cnt)] h0 (fun v h L => v = some (.int c) ∧ Fr n0 L ∧ h = h0) := by
 refine enter (Ls := #[(vr t), (vi i), (vi cnt)]) (plainFor_of_name pn_0) (fun m => by exact entry_eq rfl) ?_
 intro p e s m below meth cd_ s₁ S0 hx hby hml hret hlk hnm hown hZ X0 e0 k0
 have N0 := Fr.nil n0
 have k1 : AtQ p e below S0 s₁ m 4 #[(vr t), (vi i), (vi cnt)] [(.int 0), (.int cnt), (.int i), (.ref t)] := fun tt hq => k0 tt (by
  refine XS.aloadN X0.here hx rfl (hb hby dqT_0) rfl rfl ?_
  refine XS.iloadN X0.here hx rfl (hb hby dqT_1) rfl ?_
  refine XS.iloadN X0.here hx rfl (hb hby dqT_2) rfl ?_
  refine XS.iconst X0.here hx rfl (hb hby dqT_3) ?_
  exact hq)
 obtain ⟨_, T2, L2, X2, ⟨rfl, Nq2, eq2⟩, k2a⟩ := callS' X0 hx hZ (y := yqAB) hown (wq hw 122 rfl) (wq hw 123 rfl) (wq hw 35 rfl) (wq hw 124 rfl) (by decide) (backC (W := 0) (hc4) hZ (wq hw 124 rfl) (wq hw 35 rfl) (by decide) (by decide)) e0 (argsL := [(.ref t), (.int i), (.int cnt), (.int 0)]) (rest := []) rfl rfl pd_21 rfl (by rw [hml]; rfl) (hb hby dqT_4) (Nat.le_of_eq rfl) (by decide) (by decide) k1
 have k2 : AtQ p e below S0 T2 m 7 #[(vr t), (vi i), (vi cnt)] [(.int c)] := k2a
 have N2 := N0.app Nq2
 have e2 : T2.heap = h0 := eq2
 have hE := e2
 refine retInt X2 hx hret hlk (by simp) rfl (hb hby dqT_7) k2 ?_ (by decide) (by decide)
 try rw [hE]
 exact ⟨rfl, N2, rfl⟩
theorem rm_lat1 (l : Launch) (Z : State) (a0 : Array Value) (hw : ∀ d ∈ tables_1, d.before a0 Z = true) (zc : Int32) (a : Addr) (h0 : Heap) (n0 : Nat) (hn0 : n0 ≤ h0.size) (S_c : Sta Z Z.heap "java/lang/String" "COMPACT_STRINGS" "Z" (.int zc)) (hzc : ¬ zc = (0 : Int32)) (O0 : Old Z n0 h0) (F0 : FqB Z h0 a (.int 1)) :
  Con l Z yqE jdk_42_method_154_code 1 (some .boolean) [] rqA #[(.ref a)] h0 (fun v h L => v = some (.int 0) ∧ Fr n0 L ∧ h = h0) := by
 refine enter (Ls := #[(vr a)]) (plainFor_of_name pn_1) (fun m => by exact entry_eq rfl) ?_
 intro p e s m below meth cd_ s₁ S0 hx hby hml hret hlk hnm hown hZ X0 e0 k0
 have N0 := Fr.nil n0
 obtain ⟨T1, X1, e1, st1⟩ := getS2 X0 hx hZ hown (host := "") (Or.inl (wq hw 32 rfl)) Via.refl e0 (staOld S_c O0) (g := (mkF m 0 #[(vr a)] [])) rfl (hb hby dqF_0)
 have k1 : AtQ p e below S0 T1 m 3 #[(vr a)] [(.int zc)] := fun tt hq => k0 tt (st1 tt hq)
 have k2 : AtQ p e below S0 T1 m 7 #[(vr a)] [(.ref a)] := fun tt hq => k1 tt (by
  refine XS.ifNo X1.here hx rfl (hb hby dqF_3) rfl ((if0 _ _).trans (feq hzc).1) ?_
  refine XS.aloadN X1.here hx rfl (hb hby dqF_6) rfl rfl ?_
  exact hq)
 obtain ⟨T3, X3, e3, st3⟩ := getF X1 hx hZ hown (host := "") (Or.inl (wq hw 62 rfl)) Via.refl e1 F0 (g := (mkF m 7 #[(vr a)] [(.ref a)])) rfl rfl (hb hby dqF_7)
 have k3 : AtQ p e below S0 T3 m 10 #[(vr a)] [(.int 1)] := fun tt hq => k2 tt (st3 tt hq)
 have k4 : AtQ p e below S0 T3 m 18 #[(vr a)] [(.int 0)] := fun tt hq => k3 tt (by
  refine XS.ifYes X3.here hx rfl (pc0 := 10) (pc' := 17) rfl (hb hby dqF_10) rfl ((if0 _ _).trans (feq (by decide)).2) (by decide) (by decide) ?_
  refine XS.iconst X3.here hx rfl (hb hby dqF_17) ?_
  exact hq)
 have hE := e3
 refine retInt X3 hx hret hlk (by simp) rfl (hb hby dqF_18) k4 ?_ (by decide) (by decide)
 try rw [hE]
 exact ⟨rfl, N0, rfl⟩
theorem pd_22 : parseMethodDescriptor "([BII)I" = some ⟨[(.array .byte), .int, .int], some .int⟩ := by decide +kernel
theorem rm_cpu (l : Launch) (Z : State) (a0 : Array Value) (hw : ∀ d ∈ tables_1, d.before a0 Z = true) (zc : Int32) (fm : Value) (a : Addr) (t : Addr) (kt : ClassId) (nb : Int32) (vs : List Value) (i : Int32) (cnt : Int32) (c : Int32) (h0 : Heap) (n0 : Nat) (hn0 : n0 ≤ h0.size) (S_c : Sta Z Z.heap "java/lang/String" "COMPACT_STRINGS" "Z" (.int zc)) (hzc : ¬ zc = (0 : Int32)) (S_f : Sta Z Z.heap "jdk/internal/util/Preconditions" "SIOOBE_FORMATTER" "Ljava/util/function/BiFunction;" fm) (hfm : fm.isRef = true) (O0 : Old Z n0 h0) (P0 : Exa Z h0 a "java/lang/String") (P1 : FqA Z h0 a (.ref t)) (P2 : FqB Z h0 a (.int 1)) (P3 : Arv Z h0 t kt .byte nb vs (.int 0)) (hi0 : ¬ i < (0 : Int32)) (hi1 : i < cnt) (hcnt : (nb >>> ((1 : Int32) &&& 31)) = cnt) (hc3 : Con l Z yqAC jdk_52_method_8_code 3 (some .int) [] rqP #[(.ref t), (.int i), (.int cnt)] h0 (fun v h L => v = some (.int c) ∧ Fr n0 L ∧ h = h0)) :
  Con l Z yqH jdk_42_method_57_code 3 (some .int) [] rqF #[(.ref a), (.int i)] h0 (fun v h L => v = some (.int c) ∧ Fr n0 L ∧ h = h0) := by
 refine enter (Ls := #[(vr a), (vi i), .unset]) (plainFor_of_name pn_1) (fun m => by exact entry_eq rfl) ?_
 intro p e s m below meth cd_ s₁ S0 hx hby hml hret hlk hnm hown hZ X0 e0 k0
 have N0 := Fr.nil n0
 have k1 : AtQ p e below S0 s₁ m 1 #[(vr a), (vi i), .unset] [(.ref a)] := fun tt hq => k0 tt (by
  refine XS.aloadN X0.here hx rfl (hb hby dqJ_0) rfl rfl ?_
  exact hq)
 obtain ⟨_, T2, L2, X2, ⟨rfl, Nq2, eq2⟩, k2a⟩ := callV' X0 hx hZ (y := yqE) (z := yqE) hown (wq hw 106 rfl) (wq hw 107 rfl) (notFace_of_selects (args := #[]) (mvT hZ (wq hw 109 rfl))) (wq hw 109 rfl) (wq hw 108 rfl) (by decide) P0 (backC (W := 0) (rm_lat1 l Z a0 hw zc a h0 n0 (by omega) S_c hzc O0 P2) hZ (wq hw 110 rfl) (wq hw 14 rfl) (by decide) (by decide)) e0 (argsL := []) (rest := []) rfl rfl pd_3 rfl (by rw [hml]; rfl) (hb hby dqJ_1) (Nat.le_of_eq rfl) (by decide) (by decide) k1
 have k2 : AtQ p e below S0 T2 m 4 #[(vr a), (vi i), .unset] [(.int 0)] := k2a
 have N2 := N0.app Nq2
 have e2 : T2.heap = h0 := eq2
 have k3 : AtQ p e below S0 T2 m 28 #[(vr a), (vi i), .unset] [(.ref a)] := fun tt hq => k2 tt (by
  refine XS.ifYes X2.here hx rfl (pc0 := 4) (pc' := 27) rfl (hb hby dqJ_4) rfl ((if0 _ _).trans (teq (by decide)).1) (by decide) (by decide) ?_
  refine XS.aloadN X2.here hx rfl (hb hby dqJ_27) rfl rfl ?_
  exact hq)
 obtain ⟨T4, X4, e4, st4⟩ := getF X2 hx hZ hown (host := "") (Or.inl (wq hw 63 rfl)) Via.refl e2 P1 (g := (mkF m 28 #[(vr a), (vi i), .unset] [(.ref a)])) rfl rfl (hb hby dqJ_28)
 have k4 : AtQ p e below S0 T4 m 31 #[(vr a), (vi i), .unset] [(.ref t)] := fun tt hq => k3 tt (st4 tt hq)
 obtain ⟨cl5, Ar5, -, S5, M5, -, -⟩ := id P3
 have st5 := fun tt => X4.arraylength hx (by rw [e4]; exact Ar5.1) (State.isArrayOf_alike hZ.alike Ar5.2.1) (g := (mkF m 31 #[(vr a), (vi i), .unset] [(.ref t)])) rfl rfl (hb hby dqJ_31) tt
 rw [len_of S5 M5] at st5
 have k5 : AtQ p e below S0 T4 m 32 #[(vr a), (vi i), .unset] [(.int nb)] := fun tt hq => k4 tt (st5 tt hq)
 have k6 : AtQ p e below S0 T4 m 34 #[(vr a), (vi i), .unset] [(.int (nb >>> ((1 : Int32) &&& 31)))] := fun tt hq => k5 tt (by
  refine XS.iconst X4.here hx rfl (hb hby dqJ_32) ?_
  refine XS.ishr X4.here hx rfl (hb hby dqJ_33) rfl ?_
  exact hq)
 have ht7 := hcnt
 ·
  have k8 : AtQ p e below S0 T4 m 34 #[(vr a), (vi i), .unset] [(.int cnt)] := by have hq := k6; rw [ht7] at hq; exact hq
  have k9 : AtQ p e below S0 T4 m 37 #[(vr a), (vi i), (vi cnt)] [(.int cnt), (.int i)] := fun tt hq => k8 tt (by
   refine XS.istoreN X4.here hx rfl (hb hby dqJ_34) rfl (l' := #[(vr a), (vi i), (vi cnt)]) rfl ?_
   refine XS.iloadN X4.here hx rfl (hb hby dqJ_35) rfl ?_
   refine XS.iloadN X4.here hx rfl (hb hby dqJ_36) rfl ?_
   exact hq)
  obtain ⟨_, T10, L10, X10, ⟨rfl, Nq10, eq10⟩, k10a⟩ := callS' X4 hx hZ (y := yqG) hown (wq hw 111 rfl) (wq hw 112 rfl) (wq hw 14 rfl) (wq hw 113 rfl) (by decide) (backC (W := 0) (rm_chk l Z a0 hw fm i cnt h0 n0 (by omega) S_f hfm O0 hi0 hi1) hZ (wq hw 113 rfl) (wq hw 14 rfl) (by decide) (by decide)) e4 (argsL := [(.int i), (.int cnt)]) (rest := []) rfl rfl pd_4 rfl (by rw [hml]; rfl) (hb hby dqJ_37) (Nat.le_of_eq rfl) (by decide) (by decide) k9
  have k10 : AtQ p e below S0 T10 m 40 #[(vr a), (vi i), (vi cnt)] [] := k10a
  have N10 := N2.app Nq10
  have e10 : T10.heap = h0 := eq10
  have k11 : AtQ p e below S0 T10 m 41 #[(vr a), (vi i), (vi cnt)] [(.ref a)] := fun tt hq => k10 tt (by
   refine XS.aloadN X10.here hx rfl (hb hby dqJ_40) rfl rfl ?_
   exact hq)
  obtain ⟨T12, X12, e12, st12⟩ := getF X10 hx hZ hown (host := "") (Or.inl (wq hw 63 rfl)) Via.refl e10 P1 (g := (mkF m 41 #[(vr a), (vi i), (vi cnt)] [(.ref a)])) rfl rfl (hb hby dqJ_41)
  have k12 : AtQ p e below S0 T12 m 44 #[(vr a), (vi i), (vi cnt)] [(.ref t)] := fun tt hq => k11 tt (st12 tt hq)
  have k13 : AtQ p e below S0 T12 m 46 #[(vr a), (vi i), (vi cnt)] [(.int cnt), (.int i), (.ref t)] := fun tt hq => k12 tt (by
   refine XS.iloadN X12.here hx rfl (hb hby dqJ_44) rfl ?_
   refine XS.iloadN X12.here hx rfl (hb hby dqJ_45) rfl ?_
   exact hq)
  obtain ⟨_, T14, L14, X14, ⟨rfl, Nq14, eq14⟩, k14a⟩ := callS' X12 hx hZ (y := yqAC) hown (wq hw 119 rfl) (wq hw 120 rfl) (wq hw 35 rfl) (wq hw 121 rfl) (by decide) (backC (W := 0) (hc3) hZ (wq hw 121 rfl) (wq hw 35 rfl) (by decide) (by decide)) e12 (argsL := [(.ref t), (.int i), (.int cnt)]) (rest := []) rfl rfl pd_22 rfl (by rw [hml]; rfl) (hb hby dqJ_46) (Nat.le_of_eq rfl) (by decide) (by decide) k13
  have k14 : AtQ p e below S0 T14 m 49 #[(vr a), (vi i), (vi cnt)] [(.int c)] := k14a
  have N14 := N10.app Nq14
  have e14 : T14.heap = h0 := eq14
  have hE := e14
  refine retInt X14 hx hret hlk (by simp) rfl (hb hby dqJ_49) k14 ?_ (by decide) (by decide)
  try rw [hE]
  exact ⟨rfl, N14, rfl⟩
theorem rm_clu0 (l : Launch) (Z : State) (a0 : Array Value) (hw : ∀ d ∈ tables_1, d.before a0 Z = true) (t : Addr) (kt : ClassId) (nc : Int32) (nb : Int32) (vs : List Value) (h0 : Heap) (n0 : Nat) (hn0 : n0 ≤ h0.size) (P0 : Arv Z h0 t kt .byte nb vs (.int 0)) (hr : ((nc - nb).toUInt32 >>> ((31 : Int32) &&& 31).toUInt32).toInt32.toInt8.toInt32 = (0 : Int32)) :
  Con l Z yqX jdk_52_method_15_code 2 (some .byte) [] rqA #[(.ref t), (.int nc)] h0 (fun v h L => v = some (.int 0) ∧ Fr n0 L ∧ h = h0) := by
 refine enter (Ls := #[(vr t), (vi nc)]) (plainFor_of_name pn_0) (fun m => by exact entry_eq rfl) ?_
 intro p e s m below meth cd_ s₁ S0 hx hby hml hret hlk hnm hown hZ X0 e0 k0
 have N0 := Fr.nil n0
 have k1 : AtQ p e below S0 s₁ m 2 #[(vr t), (vi nc)] [(.ref t), (.int nc)] := fun tt hq => k0 tt (by
  refine XS.iloadN X0.here hx rfl (hb hby dqL_0) rfl ?_
  refine XS.aloadN X0.here hx rfl (hb hby dqL_1) rfl rfl ?_
  exact hq)
 obtain ⟨cl2, Ar2, -, S2, M2, -, -⟩ := id P0
 have st2 := fun tt => X0.arraylength hx (by rw [e0]; exact Ar2.1) (State.isArrayOf_alike hZ.alike Ar2.2.1) (g := (mkF m 2 #[(vr t), (vi nc)] [(.ref t), (.int nc)])) rfl rfl (hb hby dqL_2) tt
 rw [len_of S2 M2] at st2
 have k2 : AtQ p e below S0 s₁ m 3 #[(vr t), (vi nc)] [(.int nb), (.int nc)] := fun tt hq => k1 tt (st2 tt hq)
 have k3 : AtQ p e below S0 s₁ m 8 #[(vr t), (vi nc)] [(.int ((((nc - nb).toUInt32 >>> ((31 : Int32) &&& 31).toUInt32).toInt32).toInt8.toInt32))] := fun tt hq => k2 tt (by
  refine XS.isub X0.here hx rfl (hb hby dqL_3) rfl ?_
  refine XS.bipush X0.here hx rfl (hb hby dqL_4) ?_
  refine XS.iushr X0.here hx rfl (hb hby dqL_6) rfl ?_
  refine XS.i2b X0.here hx rfl (hb hby dqL_7) rfl ?_
  exact hq)
 have hE := e0
 refine retInt X0 hx hret hlk (by simp) (by rw [hr]; rfl) (hb hby dqL_8) k3 ?_ (by decide) (by decide)
 try rw [hE]
 exact ⟨by rw [hr], N0, rfl⟩
theorem rm_n4u0 (l : Launch) (Z : State) (a0 : Array Value) (hw : ∀ d ∈ tables_1, d.before a0 Z = true) (zc : Int32) (a : Addr) (b : Addr) (nc : Int32) (nb : Int32) (vs : List Value) (u1 : Value) (u2 : Value) (h0 : Heap) (n0 : Nat) (hn0 : n0 ≤ h0.size) (S_c : Sta Z Z.heap "java/lang/String" "COMPACT_STRINGS" "Z" (.int zc)) (hzc : ¬ zc = (0 : Int32)) (O0 : Old Z n0 h0) (E0 : Exa Z h0 a "java/lang/String") (F1 : FqA Z h0 a u1) (F2 : FqB Z h0 a u2) (ga : n0 ≤ a) (ya : @LT.lt Nat instLTNat a h0.size) (hnc : ¬ nc = (0 : Int32)) (hcl : ((nc - nb).toUInt32 >>> ((31 : Int32) &&& 31).toUInt32).toInt32.toInt8.toInt32 = (0 : Int32)) (hc3 : Con l Z yqB jdk_52_method_16_code 6 (some (.array .byte)) [] rqB #[(.ref b), (.int 0), (.int nc)] h0 (fun v h L => ∃ (t : Addr) (k : ClassId), v = some (.ref t) ∧ Fr n0 L ∧ h0.size ≤ t ∧ Keep h0 h [] ∧ Arv Z h t k .byte nb vs (.int 0))) :
  Con l Z yqC jdk_42_method_149_code 6 none [] rqN #[(.ref a), (.ref b), (.int 0), (.int nc), .null] h0 (fun v h L => v = none ∧ Fr n0 L ∧ Keep h0 h [a] ∧ ∃ (t : Addr) (k : ClassId), h0.size ≤ t ∧ Exa Z h a "java/lang/String" ∧ FqA Z h a (.ref t) ∧ FqB Z h a (.int 0) ∧ Arv Z h t k .byte nb vs (.int 0)) := by
 refine enter (Ls := #[(vr a), (vr b), (vi 0), (vi nc), .val .null, .unset]) (plainFor_of_name pn_1) (fun m => by exact entry_eq rfl) ?_
 intro p e s m below meth cd_ s₁ S0 hx hby hml hret hlk hnm hown hZ X0 e0 k0
 have N0 := Fr.nil n0
 have k1 : AtQ p e below S0 s₁ m 1 #[(vr a), (vr b), (vi 0), (vi nc), .val .null, .unset] [(.ref a)] := fun tt hq => k0 tt (by
  refine XS.aloadN X0.here hx rfl (hb hby dqD_0) rfl rfl ?_
  exact hq)
 obtain ⟨T2, X2, e2, st2⟩ := initO X0 hx hZ hown (wq hw 29 rfl) (wq hw 30 rfl) (wq hw 31 rfl) e0 (g := (mkF m 1 #[(vr a), (vr b), (vi 0), (vi nc), .val .null, .unset] [(.ref a)])) rfl (by rw [hml]; rfl) rfl (hb hby dqD_1) (by decide) (W := 0) (by show 2 * 0 + _ ≤ _; exact Nat.le_of_eq rfl) (by decide)
 have k2 : AtQ p e below S0 T2 m 4 #[(vr a), (vr b), (vi 0), (vi nc), .val .null, .unset] [] := fun tt hq => k1 tt (st2 tt hq)
 have k3 : AtQ p e below S0 T2 m 27 #[(vr a), (vr b), (vi 0), (vi nc), .val .null, .unset] [] := fun tt hq => k2 tt (by
  refine XS.iloadN X2.here hx rfl (hb hby dqD_4) rfl ?_
  refine XS.ifYes X2.here hx rfl (pc0 := 5) (pc' := 27) rfl (hb hby dqD_5) rfl ((if0 _ _).trans (feq hnc).2) (by decide) (by decide) ?_
  exact hq)
 obtain ⟨T4, X4, e4, st4⟩ := getS2 X2 hx hZ hown (host := "") (Or.inl (wq hw 32 rfl)) Via.refl e2 (staOld S_c O0) (g := (mkF m 27 #[(vr a), (vr b), (vi 0), (vi nc), .val .null, .unset] [])) rfl (hb hby dqD_27)
 have k4 : AtQ p e below S0 T4 m 30 #[(vr a), (vr b), (vi 0), (vi nc), .val .null, .unset] [(.int zc)] := fun tt hq => k3 tt (st4 tt hq)
 have k5 : AtQ p e below S0 T4 m 36 #[(vr a), (vr b), (vi 0), (vi nc), .val .null, .unset] [(.int nc), (.int 0), (.ref b)] := fun tt hq => k4 tt (by
  refine XS.ifNo X4.here hx rfl (hb hby dqD_30) rfl ((if0 _ _).trans (feq hzc).1) ?_
  refine XS.aloadN X4.here hx rfl (hb hby dqD_33) rfl rfl ?_
  refine XS.iloadN X4.here hx rfl (hb hby dqD_34) rfl ?_
  refine XS.iloadN X4.here hx rfl (hb hby dqD_35) rfl ?_
  exact hq)
 obtain ⟨_, T6, L6, X6, ⟨t6, kt6, rfl, Nq6, gt6, Kq6, V6⟩, k6a⟩ := callS' X4 hx hZ (y := yqB) hown (wq hw 33 rfl) (wq hw 34 rfl) (wq hw 35 rfl) (wq hw 36 rfl) (by decide) (backC (W := 0) (hc3) hZ (wq hw 36 rfl) (wq hw 35 rfl) (by decide) (by decide)) e4 (argsL := [(.ref b), (.int 0), (.int nc)]) (rest := []) rfl rfl pd_16 rfl (by rw [hml]; rfl) (hb hby dqD_36) (Nat.le_of_eq rfl) (by decide) (by decide) k5
 have k6 : AtQ p e below S0 T6 m 39 #[(vr a), (vr b), (vi 0), (vi nc), .val .null, .unset] [(.ref t6)] := k6a
 have N6 := N0.app Nq6
 obtain ⟨h6, e6⟩ : ∃ z, T6.heap = z := ⟨_, rfl⟩
 rw [e6] at Kq6 V6
 have z6 : h0.size ≤ h6.size := Kq6.1
 have y6 : @LT.lt Nat instLTNat t6 h6.size := V6.lt
 have k7 : AtQ p e below S0 T6 m 45 #[(vr a), (vr b), (vi 0), (vi nc), .val .null, (vr t6)] [(.int nc), (.ref t6), (.ref a)] := fun tt hq => k6 tt (by
  refine XS.astore X6.here hx rfl (hb hby dqD_39) rfl rfl (l' := #[(vr a), (vr b), (vi 0), (vi nc), .val .null, (vr t6)]) rfl ?_
  refine XS.aloadN X6.here hx rfl (hb hby dqD_41) rfl rfl ?_
  refine XS.aload X6.here hx rfl (hb hby dqD_42) rfl rfl ?_
  refine XS.iloadN X6.here hx rfl (hb hby dqD_44) rfl ?_
  exact hq)
 obtain ⟨_, T8, L8, X8, ⟨rfl, Nq8, eq8⟩, k8a⟩ := callS' X6 hx hZ (y := yqX) hown (wq hw 59 rfl) (wq hw 60 rfl) (wq hw 35 rfl) (wq hw 61 rfl) (by decide) (backC (W := 1) (rm_clu0 l Z a0 hw t6 kt6 nc nb vs h6 n0 (by omega) V6 hcl) hZ (wq hw 61 rfl) (wq hw 35 rfl) (by decide) (by decide)) e6 (argsL := [(.ref t6), (.int nc)]) (rest := [(.ref a)]) rfl rfl pd_18 rfl (by rw [hml]; rfl) (hb hby dqD_45) (Nat.le_of_eq rfl) (by decide) (by decide) k7
 have k8 : AtQ p e below S0 T8 m 48 #[(vr a), (vr b), (vi 0), (vi nc), .val .null, (vr t6)] [(.int 0), (.ref a)] := k8a
 have N8 := N6.app Nq8
 have e8 : T8.heap = h6 := eq8
 have f9 : Exa Z h6 a "java/lang/String" := (E0.keep Kq6)
 have f10 : FqB Z h6 a u2 := (F2.keep Kq6 nin0)
 obtain ⟨T11, h11, X11, e11, W11, st11⟩ := putF X8 hx hZ hown (host := "") (Or.inl (wq hw 62 rfl)) Via.refl e8 f10 f9 (Or.inr ⟨(wq hw 18 rfl), rfl, hnm⟩) (wq hw 15 rfl) (ty := .byte) (by decide) rfl rfl (g := (mkF m 48 #[(vr a), (vr b), (vi 0), (vi nc), .val .null, (vr t6)] [(.int 0), (.ref a)])) rfl rfl (hb hby dqD_48)
 have k11 : AtQ p e below S0 T11 m 51 #[(vr a), (vr b), (vi 0), (vi nc), .val .null, (vr t6)] [] := fun tt hq => k8 tt (st11 tt hq)
 have z11 : h11.size = h6.size := W11.size
 have F11 := f10.same W11
 have N11 := Fr.snoc X11 N8 (by omega : n0 ≤ a)
 have f12 : Exa Z h11 a "java/lang/String" := (f9.wr W11)
 have f13 : FqA Z h11 a u1 := ((F1.keep Kq6 nin0).other W11 (Or.inr (slot_ne (Or.inr (wq hw 17 rfl)) (Or.inr (wq hw 18 rfl)) (by decide) (t := (.array .byte)) (t' := .byte) (by decide) (by decide))))
 have k14 : AtQ p e below S0 T11 m 54 #[(vr a), (vr b), (vi 0), (vi nc), .val .null, (vr t6)] [(.ref t6), (.ref a)] := fun tt hq => k11 tt (by
  refine XS.aloadN X11.here hx rfl (hb hby dqD_51) rfl rfl ?_
  refine XS.aload X11.here hx rfl (hb hby dqD_52) rfl rfl ?_
  exact hq)
 obtain ⟨T15, h15, X15, e15, W15, st15⟩ := putF X11 hx hZ hown (host := "") (Or.inl (wq hw 63 rfl)) Via.refl e11 f13 f12 (Or.inr ⟨(wq hw 17 rfl), rfl, hnm⟩) (wq hw 15 rfl) (ty := (.array .byte)) (by decide) rfl rfl (g := (mkF m 54 #[(vr a), (vr b), (vi 0), (vi nc), .val .null, (vr t6)] [(.ref t6), (.ref a)])) rfl rfl (hb hby dqD_54)
 have k15 : AtQ p e below S0 T15 m 57 #[(vr a), (vr b), (vi 0), (vi nc), .val .null, (vr t6)] [] := fun tt hq => k14 tt (st15 tt hq)
 have z15 : h15.size = h11.size := W15.size
 have F15 := f13.same W15
 have N15 := Fr.snoc X15 N11 (by omega : n0 ≤ a)
 have f16 : Exa Z h15 a "java/lang/String" := (f12.wr W15)
 have f17 : FqB Z h15 a (.int 0) := (F11.other W15 (Or.inr (slot_ne (Or.inr (wq hw 18 rfl)) (Or.inr (wq hw 17 rfl)) (by decide) (t := .byte) (t' := (.array .byte)) (by decide) (by decide))))
 have f18 : Arv Z h15 t6 kt6 .byte nb vs (.int 0) := ((V6.other W11 (adr_ne (by omega))).other W15 (adr_ne (by omega)))
 have hE := e15
 refine retVoid X15 hx hret hlk (hb hby dqD_57) k15 ?_ (by decide) (by decide)
 try rw [hE]
 exact ⟨rfl, N15, ((((Keep.refl h0 [a]).trans Kq6 all0).wr W11 (Or.inl (by simp))).wr W15 (Or.inl (by simp))), t6, kt6, (by omega), f16, F15, f17, f18⟩
theorem rm_n1u0 (l : Launch) (Z : State) (a0 : Array Value) (hw : ∀ d ∈ tables_1, d.before a0 Z = true) (zc : Int32) (a : Addr) (b : Addr) (nc : Int32) (nb : Int32) (vs : List Value) (u1 : Value) (u2 : Value) (kb : ClassId) (us : List Value) (h0 : Heap) (n0 : Nat) (hn0 : n0 ≤ h0.size) (S_c : Sta Z Z.heap "java/lang/String" "COMPACT_STRINGS" "Z" (.int zc)) (hzc : ¬ zc = (0 : Int32)) (O0 : Old Z n0 h0) (E0 : Exa Z h0 a "java/lang/String") (F1 : FqA Z h0 a u1) (F2 : FqB Z h0 a u2) (ga : n0 ≤ a) (ya : @LT.lt Nat instLTNat a h0.size) (hnc : ¬ nc = (0 : Int32)) (hcl : ((nc - nb).toUInt32 >>> ((31 : Int32) &&& 31).toUInt32).toInt32.toInt8.toInt32 = (0 : Int32)) (hc3 : Con l Z yqB jdk_52_method_16_code 6 (some (.array .byte)) [] rqB #[(.ref b), (.int 0), (.int nc)] h0 (fun v h L => ∃ (t : Addr) (k : ClassId), v = some (.ref t) ∧ Fr n0 L ∧ h0.size ≤ t ∧ Keep h0 h [] ∧ Arv Z h t k .byte nb vs (.int 0))) (P0 : Arv Z h0 b kb .char nc us (.int 0)) :
  Con l Z yqD jdk_42_method_3_code 2 none [] rqO #[(.ref a), (.ref b)] h0 (fun v h L => v = none ∧ Fr n0 L ∧ Keep h0 h [a] ∧ ∃ (t : Addr) (k : ClassId), h0.size ≤ t ∧ Exa Z h a "java/lang/String" ∧ FqA Z h a (.ref t) ∧ FqB Z h a (.int 0) ∧ Arv Z h t k .byte nb vs (.int 0)) := by
 refine enter (Ls := #[(vr a), (vr b)]) (plainFor_of_name pn_1) (fun m => by exact entry_eq rfl) ?_
 intro p e s m below meth cd_ s₁ S0 hx hby hml hret hlk hnm hown hZ X0 e0 k0
 have N0 := Fr.nil n0
 have k1 : AtQ p e below S0 s₁ m 4 #[(vr a), (vr b)] [(.ref b), (.int 0), (.ref b), (.ref a)] := fun tt hq => k0 tt (by
  refine XS.aloadN X0.here hx rfl (hb hby dqH_0) rfl rfl ?_
  refine XS.aloadN X0.here hx rfl (hb hby dqH_1) rfl rfl ?_
  refine XS.iconst X0.here hx rfl (hb hby dqH_2) ?_
  refine XS.aloadN X0.here hx rfl (hb hby dqH_3) rfl rfl ?_
  exact hq)
 obtain ⟨cl2, Ar2, -, S2, M2, -, -⟩ := id P0
 have st2 := fun tt => X0.arraylength hx (by rw [e0]; exact Ar2.1) (State.isArrayOf_alike hZ.alike Ar2.2.1) (g := (mkF m 4 #[(vr a), (vr b)] [(.ref b), (.int 0), (.ref b), (.ref a)])) rfl rfl (hb hby dqH_4) tt
 rw [len_of S2 M2] at st2
 have k2 : AtQ p e below S0 s₁ m 5 #[(vr a), (vr b)] [(.int nc), (.int 0), (.ref b), (.ref a)] := fun tt hq => k1 tt (st2 tt hq)
 have k3 : AtQ p e below S0 s₁ m 6 #[(vr a), (vr b)] [.null, (.int nc), (.int 0), (.ref b), (.ref a)] := fun tt hq => k2 tt (by
  refine XS.aconstNull X0.here hx rfl (hb hby dqH_5) ?_
  exact hq)
 obtain ⟨_, T4, L4, X4, ⟨rfl, Nq4, Kq4, t4, kt4, gt4, P40, P41, P42, P43⟩, k4a⟩ := callC' X0 hx hZ (y := yqC) rfl hown (wq hw 25 rfl) (wq hw 26 rfl) (wq hw 28 rfl) (by decide) (backC (W := 0) (rm_n4u0 l Z a0 hw zc a b nc nb vs u1 u2 h0 n0 (by omega) S_c hzc O0 E0 F1 F2 ga ya hnc hcl hc3) hZ (wq hw 28 rfl) (wq hw 14 rfl) (by decide) (by decide)) e0 (argsL := [(.ref b), (.int 0), (.int nc), .null]) (rest := []) rfl rfl pd_1 rfl (by rw [hml]; rfl) (hb hby dqH_6) (Nat.le_of_eq rfl) (by decide) (by decide) k3
 have k4 : AtQ p e below S0 T4 m 9 #[(vr a), (vr b)] [] := k4a
 have N4 := N0.app Nq4
 obtain ⟨h4, e4⟩ : ∃ z, T4.heap = z := ⟨_, rfl⟩
 rw [e4] at Kq4 P40 P41 P42 P43
 have z4 : h0.size ≤ h4.size := Kq4.1
 have y4 : @LT.lt Nat instLTNat t4 h4.size := P43.lt
 have hE := e4
 refine retVoid X4 hx hret hlk (hb hby dqH_9) k4 ?_ (by decide) (by decide)
 try rw [hE]
 exact ⟨rfl, N4, ((Keep.refl h0 [a]).trans Kq4 (allS (Or.inl (by simp)) all0)), t4, kt4, (by omega), P40, P41, P42, P43⟩
theorem rm_c5_3_1 (l : Launch) (Z : State) (a0 : Array Value) (hw : ∀ d ∈ tables_1, d.before a0 Z = true) (b : Addr) (kb : ClassId) (t : Addr) (kt : ClassId) (d0 : Int32) (d1 : Int32) (d2 : Int32) (h0 : Heap) (n0 : Nat) (hn0 : n0 ≤ h0.size) (P0 : Arv Z h0 b kb .char (3 : Int32) [(.int d0), (.int d1), (.int d2)] (.int 0)) (P1 : Arv Z h0 t kt .byte (3 : Int32) [(.int 0), (.int 0), (.int 0)] (.int 0)) (ga : n0 ≤ t) (nbt : ¬ (@Eq Nat b t)) (hd0 : ¬ (255 : Int32) < d0) (hd1 : (255 : Int32) < d1) :
  Con l Z yqA jdk_52_method_21_code 7 (some .int) [] rqA #[(.ref b), (.int 0), (.ref t), (.int 0), (.int 3)] h0 (fun v h L => v = some (.int 1) ∧ Fr n0 L ∧ Keep h0 h [t] ∧ Arv Z h t kt .byte (3 : Int32) [(.int (nar .byte (d0.toInt8.toInt32))), (.int 0), (.int 0)] (.int 0)) := by
 refine enter (Ls := #[(vr b), (vi 0), (vr t), (vi 0), (vi 3), .unset, .unset]) (plainFor_of_name pn_0) (fun m => by exact entry_eq rfl) ?_
 intro p e s m below meth cd_ s₁ S0 hx hby hml hret hlk hnm hown hZ X0 e0 k0
 have N0 := Fr.nil n0
 have k1 : AtQ p e below S0 s₁ m 12 #[(vr b), (vi 0), (vr t), (vi 0), (vi 3), (vi 0), .unset] [(.int 0), (.ref b)] := fun tt hq => k0 tt (by
  refine XS.iconst X0.here hx rfl (hb hby dqN_0) ?_
  refine XS.istore X0.here hx rfl (hb hby dqN_1) rfl (l' := #[(vr b), (vi 0), (vr t), (vi 0), (vi 3), (vi 0), .unset]) rfl ?_
  refine XS.iload X0.here hx rfl (hb hby dqN_3) rfl ?_
  refine XS.iload X0.here hx rfl (hb hby dqN_5) rfl ?_
  refine XS.icmpNo X0.here hx rfl (hb hby dqN_7) rfl (tlt (by decide)).2.1 ?_
  refine XS.aloadN X0.here hx rfl (hb hby dqN_10) rfl rfl ?_
  refine XS.iloadN X0.here hx rfl (hb hby dqN_11) rfl ?_
  exact hq)
 obtain ⟨cl2, Ar2, -, S2, -, G2, -⟩ := id P0
 have hi2 := inb_of (j := (0 : Int32)) S2 ⟨by decide, by decide⟩
 have st2 := fun tt => X0.caload hx (j := (0 : Int32)) (v := (.int d0)) (by rw [e0]; exact Ar2.1) (State.isArrayOf_alike hZ.alike Ar2.2.1) Ar2.2.2 hi2 (G2.at hi2 rfl) (g := (mkF m 12 #[(vr b), (vi 0), (vr t), (vi 0), (vi 3), (vi 0), .unset] [(.int 0), (.ref b)])) rfl rfl (hb hby dqN_12) tt
 have k2 : AtQ p e below S0 s₁ m 13 #[(vr b), (vi 0), (vr t), (vi 0), (vi 3), (vi 0), .unset] [(.int d0)] := fun tt hq => k1 tt (st2 tt hq)
 have k3 : AtQ p e below S0 s₁ m 31 #[(vr b), (vi 0), (vr t), (vi 0), (vi 3), (vi 0), (vi d0)] [(.int (d0.toInt8.toInt32)), (.int 0), (.ref t)] := fun tt hq => k2 tt (by
  refine XS.istore X0.here hx rfl (hb hby dqN_13) rfl (l' := #[(vr b), (vi 0), (vr t), (vi 0), (vi 3), (vi 0), (vi d0)]) rfl ?_
  refine XS.iload X0.here hx rfl (hb hby dqN_15) rfl ?_
  refine XS.sipush X0.here hx rfl (hb hby dqN_17) ?_
  refine XS.icmpYes X0.here hx rfl (pc0 := 20) (pc' := 26) rfl (hb hby dqN_20) rfl (flt hd0).2.2.2 (by decide) (by decide) ?_
  refine XS.aloadN X0.here hx rfl (hb hby dqN_26) rfl rfl ?_
  refine XS.iloadN X0.here hx rfl (hb hby dqN_27) rfl ?_
  refine XS.iload X0.here hx rfl (hb hby dqN_28) rfl ?_
  refine XS.i2b X0.here hx rfl (hb hby dqN_30) rfl ?_
  exact hq)
 obtain ⟨cl4, Ar4, q4, S4, M4, G4, J4⟩ := id P1
 obtain ⟨T4, h4, X4, e4, W4, st4⟩ := stB X0 hx hZ e0 Ar4 (j := (0 : Int32)) (inb_of S4 (⟨by decide, by decide⟩)) (g := (mkF m 31 #[(vr b), (vi 0), (vr t), (vi 0), (vi 3), (vi 0), (vi d0)] [(.int (d0.toInt8.toInt32)), (.int 0), (.ref t)])) rfl rfl (hb hby dqN_31)
 have k4 : AtQ p e below S0 T4 m 32 #[(vr b), (vi 0), (vr t), (vi 0), (vi 3), (vi 0), (vi d0)] [] := fun tt hq => k3 tt (st4 tt hq)
 have z4 : h4.size = h0.size := W4.size
 have V4 : Arv Z h4 t kt .byte (3 : Int32) [(.int (nar .byte (d0.toInt8.toInt32))), (.int 0), (.int 0)] (.int 0) := Arv.set Ar4 q4 S4 M4 G4 J4 (fits_nar_byte _) W4 0 rfl (Nat.le_of_ble_eq_true rfl)
 have N4 := Fr.snoc X4 N0 (by omega : n0 ≤ t)
 have f5 : Arv Z h4 b kb .char (3 : Int32) [(.int d0), (.int d1), (.int d2)] (.int 0) := (P0.other W4 (adr_ne (by omega)))
 have k6 : AtQ p e below S0 T4 m 12 #[(vr b), (vi 1), (vr t), (vi 1), (vi 3), (vi 1), (vi d0)] [(.int 1), (.ref b)] := fun tt hq => k4 tt (by
  refine XS.iinc X4.here hx rfl (hb hby dqN_32) rfl (l' := #[(vr b), (vi 1), (vr t), (vi 0), (vi 3), (vi 0), (vi d0)]) rfl ?_
  refine XS.iinc X4.here hx rfl (hb hby dqN_35) rfl (l' := #[(vr b), (vi 1), (vr t), (vi 1), (vi 3), (vi 0), (vi d0)]) rfl ?_
  refine XS.iinc X4.here hx rfl (hb hby dqN_38) rfl (l' := #[(vr b), (vi 1), (vr t), (vi 1), (vi 3), (vi 1), (vi d0)]) rfl ?_
  refine XS.goto X4.here hx rfl (pc0 := 41) (pc' := 3) rfl (hb hby dqN_41) (by decide) (by decide) ?_
  refine XS.iload X4.here hx rfl (hb hby dqN_3) rfl ?_
  refine XS.iload X4.here hx rfl (hb hby dqN_5) rfl ?_
  refine XS.icmpNo X4.here hx rfl (hb hby dqN_7) rfl (tlt (by decide)).2.1 ?_
  refine XS.aloadN X4.here hx rfl (hb hby dqN_10) rfl rfl ?_
  refine XS.iloadN X4.here hx rfl (hb hby dqN_11) rfl ?_
  exact hq)
 obtain ⟨cl7, Ar7, -, S7, -, G7, -⟩ := id f5
 have hi7 := inb_of (j := (1 : Int32)) S7 ⟨by decide, by decide⟩
 have st7 := fun tt => X4.caload hx (j := (1 : Int32)) (v := (.int d1)) (by rw [e4]; exact Ar7.1) (State.isArrayOf_alike hZ.alike Ar7.2.1) Ar7.2.2 hi7 (G7.at hi7 rfl) (g := (mkF m 12 #[(vr b), (vi 1), (vr t), (vi 1), (vi 3), (vi 1), (vi d0)] [(.int 1), (.ref b)])) rfl rfl (hb hby dqN_12) tt
 have k7 : AtQ p e below S0 T4 m 13 #[(vr b), (vi 1), (vr t), (vi 1), (vi 3), (vi 1), (vi d0)] [(.int d1)] := fun tt hq => k6 tt (st7 tt hq)
 have k8 : AtQ p e below S0 T4 m 25 #[(vr b), (vi 1), (vr t), (vi 1), (vi 3), (vi 1), (vi d1)] [(.int 1)] := fun tt hq => k7 tt (by
  refine XS.istore X4.here hx rfl (hb hby dqN_13) rfl (l' := #[(vr b), (vi 1), (vr t), (vi 1), (vi 3), (vi 1), (vi d1)]) rfl ?_
  refine XS.iload X4.here hx rfl (hb hby dqN_15) rfl ?_
  refine XS.sipush X4.here hx rfl (hb hby dqN_17) ?_
  refine XS.icmpNo X4.here hx rfl (hb hby dqN_20) rfl (tlt hd1).2.2.2 ?_
  refine XS.iload X4.here hx rfl (hb hby dqN_23) rfl ?_
  exact hq)
 have hE := e4
 refine retInt X4 hx hret hlk (by simp) rfl (hb hby dqN_25) k8 ?_ (by decide) (by decide)
 try rw [hE]
 exact ⟨rfl, N4, ((Keep.refl h0 [t]).wr W4 (Or.inl (by simp))), V4⟩
theorem rm_nbl3 (l : Launch) (Z : State) (a0 : Array Value) (hw : ∀ d ∈ tables_1, d.before a0 Z = true)  (h0 : Heap) (n0 : Nat) (hn0 : n0 ≤ h0.size)  :
  Con l Z yqS jdk_52_method_3_code 1 (some .int) [] rqA #[(.int 3)] h0 (fun v h L => v = some (.int 6) ∧ Fr n0 L ∧ h = h0) := by
 refine enter (Ls := #[(vi 3)]) (plainFor_of_name pn_0) (fun m => by exact entry_eq rfl) ?_
 intro p e s m below meth cd_ s₁ S0 hx hby hml hret hlk hnm hown hZ X0 e0 k0
 have N0 := Fr.nil n0
 have k1 : AtQ p e below S0 s₁ m 58 #[(vi 3)] [(.int 6)] := fun tt hq => k0 tt (by
  refine XS.iloadN X0.here hx rfl (hb hby dqP_0) rfl ?_
  refine XS.ifYes X0.here hx rfl (pc0 := 1) (pc' := 12) rfl (hb hby dqP_1) rfl ((if0 _ _).trans (flt (by decide)).2.1) (by decide) (by decide) ?_
  refine XS.iloadN X0.here hx rfl (hb hby dqP_12) rfl ?_
  refine X0.ldcInt hx hown (mvT hZ (wq hw 49 rfl)) (g := (mkF m 13 #[(vi 3)] [(.int 3)])) rfl (hb hby dqP_13) _ ?_
  refine XS.icmpYes X0.here hx rfl (pc0 := 15) (pc' := 55) rfl (hb hby dqP_15) rfl (tlt (by decide)).1 (by decide) (by decide) ?_
  refine XS.iloadN X0.here hx rfl (hb hby dqP_55) rfl ?_
  refine XS.iconst X0.here hx rfl (hb hby dqP_56) ?_
  refine XS.ishl X0.here hx rfl (hb hby dqP_57) rfl ?_
  exact hq)
 have hE := e0
 refine retInt X0 hx hret hlk (by simp) rfl (hb hby dqP_58) k1 ?_ (by decide) (by decide)
 try rw [hE]
 exact ⟨rfl, N0, rfl⟩
theorem rm_nbf3 (l : Launch) (Z : State) (a0 : Array Value) (hw : ∀ d ∈ tables_1, d.before a0 Z = true)  (h0 : Heap) (n0 : Nat) (hn0 : n0 ≤ h0.size)  :
  Con l Z yqT jdk_52_method_2_code 1 (some (.array .byte)) [] rqQ #[(.int 3)] h0 (fun v h L => ∃ (t : Addr) (k : ClassId), v = some (.ref t) ∧ Fr n0 L ∧ h0.size ≤ t ∧ Keep h0 h [] ∧ Arv Z h t k .byte (6 : Int32) [(.int 0), (.int 0), (.int 0), (.int 0), (.int 0), (.int 0)] (.int 0)) := by
 refine enter (Ls := #[(vi 3)]) (plainFor_of_name pn_0) (fun m => by exact entry_eq rfl) ?_
 intro p e s m below meth cd_ s₁ S0 hx hby hml hret hlk hnm hown hZ X0 e0 k0
 have N0 := Fr.nil n0
 have k1 : AtQ p e below S0 s₁ m 1 #[(vi 3)] [(.int 3)] := fun tt hq => k0 tt (by
  refine XS.iloadN X0.here hx rfl (hb hby dqO_0) rfl ?_
  exact hq)
 obtain ⟨_, T2, L2, X2, ⟨rfl, Nq2, eq2⟩, k2a⟩ := callS' X0 hx hZ (y := yqS) hown (wq hw 46 rfl) (wq hw 47 rfl) (wq hw 35 rfl) (wq hw 48 rfl) (by decide) (backC (W := 0) (rm_nbl3 l Z a0 hw h0 n0 (by omega)) hZ (wq hw 48 rfl) (wq hw 35 rfl) (by decide) (by decide)) e0 (argsL := [(.int 3)]) (rest := []) rfl rfl pd_13 rfl (by rw [hml]; rfl) (hb hby dqO_1) (Nat.le_of_eq rfl) (by decide) (by decide) k1
 have k2 : AtQ p e below S0 T2 m 4 #[(vi 3)] [(.int 6)] := k2a
 have N2 := N0.app Nq2
 have e2 : T2.heap = h0 := eq2
 obtain ⟨T3, h3, c3, X3, e3, E3, A3, st3⟩ := newP X2 hx hZ (wq hw 16 rfl) e2 (g := (mkF m 4 #[(vi 3)] [(.int 6)])) rfl (hb hby dqO_4) rfl (by decide) (cap := 6) (by decide) (by decide) (by decide) (by decide)
 obtain ⟨b3, g3⟩ : ∃ z, z = h0.size := ⟨_, rfl⟩
 rw [← g3] at A3 st3
 have k3 : AtQ p e below S0 T3 m 6 #[(vi 3)] [(.ref b3)] := fun tt hq => k2 tt (st3 tt hq)
 have z3 : h0.size ≤ h3.size := E3.1
 have V3 : Arv Z h3 b3 c3 .byte (6 : Int32) [(.int 0), (.int 0), (.int 0), (.int 0), (.int 0), (.int 0)] (.int 0) := (Arv.new A3 (by decide)).pad (pad_rep [] (.int 0) 6)
 have y3 : @LT.lt Nat instLTNat b3 h3.size := V3.lt
 have hE := e3
 refine retRef X3 hx hret hlk rfl rfl (hb hby dqO_6) k3 ?_ (by decide) (by decide)
 try rw [hE]
 exact ⟨b3, _, rfl, N2, (by omega), ((Keep.refl h0 []).ext E3), V3⟩
theorem rm_tb3 (l : Launch) (Z : State) (a0 : Array Value) (hw : ∀ d ∈ tables_1, d.before a0 Z = true) (b : Addr) (kb : ClassId) (d0 : Int32) (d1 : Int32) (d2 : Int32) (h0 : Heap) (n0 : Nat) (hn0 : n0 ≤ h0.size) (S_ad : Sta Z Z.heap "java/lang/StringUTF16" "$assertionsDisabled" "Z" (.int 1)) (S_hi : Sta Z Z.heap "java/lang/StringUTF16" "HI_BYTE_SHIFT" "I" (.int 0)) (S_lo : Sta Z Z.heap "java/lang/StringUTF16" "LO_BYTE_SHIFT" "I" (.int 8)) (O0 : Old Z n0 h0) (P0 : Arv Z h0 b kb .char (3 : Int32) [(.int d0), (.int d1), (.int d2)] (.int 0)) (yb : @LT.lt Nat instLTNat b h0.size) :
  Con l Z yqV jdk_52_method_14_code 5 (some (.array .byte)) [] rqR #[(.ref b), (.int 0), (.int 3)] h0 (fun v h L => ∃ (t : Addr) (k : ClassId), v = some (.ref t) ∧ Fr n0 L ∧ h0.size ≤ t ∧ Keep h0 h [] ∧ Arv Z h t k .byte (6 : Int32) [(.int (ulo d0)), (.int (uhi d0)), (.int (ulo d1)), (.int (uhi d1)), (.int (ulo d2)), (.int (uhi d2))] (.int 0)) := by
 refine enter (Ls := #[(vr b), (vi 0), (vi 3), .unset, .unset]) (plainFor_of_name pn_0) (fun m => by exact entry_eq rfl) ?_
 intro p e s m below meth cd_ s₁ S0 hx hby hml hret hlk hnm hown hZ X0 e0 k0
 have N0 := Fr.nil n0
 have k1 : AtQ p e below S0 s₁ m 1 #[(vr b), (vi 0), (vi 3), .unset, .unset] [(.int 3)] := fun tt hq => k0 tt (by
  refine XS.iloadN X0.here hx rfl (hb hby dqK_0) rfl ?_
  exact hq)
 obtain ⟨_, T2, L2, X2, ⟨t2, kt2, rfl, Nq2, gt2, Kq2, V2⟩, k2a⟩ := callS' X0 hx hZ (y := yqT) hown (wq hw 43 rfl) (wq hw 44 rfl) (wq hw 35 rfl) (wq hw 45 rfl) (by decide) (backC (W := 0) (rm_nbf3 l Z a0 hw h0 n0 (by omega)) hZ (wq hw 45 rfl) (wq hw 35 rfl) (by decide) (by decide)) e0 (argsL := [(.int 3)]) (rest := []) rfl rfl pd_14 rfl (by rw [hml]; rfl) (hb hby dqK_1) (Nat.le_of_eq rfl) (by decide) (by decide) k1
 have k2 : AtQ p e below S0 T2 m 4 #[(vr b), (vi 0), (vi 3), .unset, .unset] [(.ref t2)] := k2a
 have N2 := N0.app Nq2
 obtain ⟨h2, e2⟩ : ∃ z, T2.heap = z := ⟨_, rfl⟩
 rw [e2] at Kq2 V2
 have z2 : h0.size ≤ h2.size := Kq2.1
 have y2 : @LT.lt Nat instLTNat t2 h2.size := V2.lt
 have f3 : Arv Z h2 b kb .char (3 : Int32) [(.int d0), (.int d1), (.int d2)] (.int 0) := (P0.keep Kq2 nin0)
 have k4 : AtQ p e below S0 T2 m 19 #[(vr b), (vi 0), (vi 3), (vr t2), (vi 0)] [(.int 0), (.ref b), (.int 0), (.ref t2)] := fun tt hq => k2 tt (by
  refine XS.astoreN X2.here hx rfl (hb hby dqK_4) rfl rfl (l' := #[(vr b), (vi 0), (vi 3), (vr t2), .unset]) rfl ?_
  refine XS.iconst X2.here hx rfl (hb hby dqK_5) ?_
  refine XS.istore X2.here hx rfl (hb hby dqK_6) rfl (l' := #[(vr b), (vi 0), (vi 3), (vr t2), (vi 0)]) rfl ?_
  refine XS.iload X2.here hx rfl (hb hby dqK_8) rfl ?_
  refine XS.iloadN X2.here hx rfl (hb hby dqK_10) rfl ?_
  refine XS.icmpNo X2.here hx rfl (hb hby dqK_11) rfl (tlt (by decide)).2.1 ?_
  refine XS.aloadN X2.here hx rfl (hb hby dqK_14) rfl rfl ?_
  refine XS.iload X2.here hx rfl (hb hby dqK_15) rfl ?_
  refine XS.aloadN X2.here hx rfl (hb hby dqK_17) rfl rfl ?_
  refine XS.iloadN X2.here hx rfl (hb hby dqK_18) rfl ?_
  exact hq)
 obtain ⟨cl5, Ar5, -, S5, -, G5, -⟩ := id f3
 have hi5 := inb_of (j := (0 : Int32)) S5 ⟨by decide, by decide⟩
 have st5 := fun tt => X2.caload hx (j := (0 : Int32)) (v := (.int d0)) (by rw [e2]; exact Ar5.1) (State.isArrayOf_alike hZ.alike Ar5.2.1) Ar5.2.2 hi5 (G5.at hi5 rfl) (g := (mkF m 19 #[(vr b), (vi 0), (vi 3), (vr t2), (vi 0)] [(.int 0), (.ref b), (.int 0), (.ref t2)])) rfl rfl (hb hby dqK_19) tt
 have k5 : AtQ p e below S0 T2 m 20 #[(vr b), (vi 0), (vi 3), (vr t2), (vi 0)] [(.int d0), (.int 0), (.ref t2)] := fun tt hq => k4 tt (st5 tt hq)
 have f6 : Old Z n0 h2 := (O0.keep Kq2 all0)
 obtain ⟨_, T7, L7, X7, ⟨rfl, Nq7, Kq7, V7⟩, k7a⟩ := callS' X2 hx hZ (y := yqU) hown (wq hw 50 rfl) (wq hw 51 rfl) (wq hw 35 rfl) (wq hw 52 rfl) (by decide) (backC (W := 0) (rm_put l Z a0 hw t2 kt2 (6 : Int32) _ (0 : Int32) (0 : Int32) 0 1 d0 [(.int (ulo d0)), (.int (uhi d0)), (.int 0), (.int 0), (.int 0), (.int 0)] h2 n0 (by omega) S_ad S_hi S_lo f6 V2 (by omega) (by decide) (by decide) (by decide) (by decide) (by decide) (Nat.le_of_ble_eq_true rfl) (Nat.le_of_ble_eq_true rfl) rfl) hZ (wq hw 52 rfl) (wq hw 35 rfl) (by decide) (by decide)) e2 (argsL := [(.ref t2), (.int 0), (.int d0)]) (rest := []) rfl rfl pd_15 rfl (by rw [hml]; rfl) (hb hby dqK_20) (Nat.le_of_eq rfl) (by decide) (by decide) k5
 have k7 : AtQ p e below S0 T7 m 23 #[(vr b), (vi 0), (vi 3), (vr t2), (vi 0)] [] := k7a
 have N7 := N2.app Nq7
 obtain ⟨h7, e7⟩ : ∃ z, T7.heap = z := ⟨_, rfl⟩
 rw [e7] at Kq7 V7
 have z7 : h2.size ≤ h7.size := Kq7.1
 have f8 : Arv Z h7 b kb .char (3 : Int32) [(.int d0), (.int d1), (.int d2)] (.int 0) := (f3.keep Kq7 (nin1 (by omega)))
 have k9 : AtQ p e below S0 T7 m 19 #[(vr b), (vi 1), (vi 3), (vr t2), (vi 1)] [(.int 1), (.ref b), (.int 1), (.ref t2)] := fun tt hq => k7 tt (by
  refine XS.iinc X7.here hx rfl (hb hby dqK_23) rfl (l' := #[(vr b), (vi 1), (vi 3), (vr t2), (vi 0)]) rfl ?_
  refine XS.iinc X7.here hx rfl (hb hby dqK_26) rfl (l' := #[(vr b), (vi 1), (vi 3), (vr t2), (vi 1)]) rfl ?_
  refine XS.goto X7.here hx rfl (pc0 := 29) (pc' := 8) rfl (hb hby dqK_29) (by decide) (by decide) ?_
  refine XS.iload X7.here hx rfl (hb hby dqK_8) rfl ?_
  refine XS.iloadN X7.here hx rfl (hb hby dqK_10) rfl ?_
  refine XS.icmpNo X7.here hx rfl (hb hby dqK_11) rfl (tlt (by decide)).2.1 ?_
  refine XS.aloadN X7.here hx rfl (hb hby dqK_14) rfl rfl ?_
  refine XS.iload X7.here hx rfl (hb hby dqK_15) rfl ?_
  refine XS.aloadN X7.here hx rfl (hb hby dqK_17) rfl rfl ?_
  refine XS.iloadN X7.here hx rfl (hb hby dqK_18) rfl ?_
  exact hq)
 obtain ⟨cl10, Ar10, -, S10, -, G10, -⟩ := id f8
 have hi10 := inb_of (j := (1 : Int32)) S10 ⟨by decide, by decide⟩
 have st10 := fun tt => X7.caload hx (j := (1 : Int32)) (v := (.int d1)) (by rw [e7]; exact Ar10.1) (State.isArrayOf_alike hZ.alike Ar10.2.1) Ar10.2.2 hi10 (G10.at hi10 rfl) (g := (mkF m 19 #[(vr b), (vi 1), (vi 3), (vr t2), (vi 1)] [(.int 1), (.ref b), (.int 1), (.ref t2)])) rfl rfl (hb hby dqK_19) tt
 have k10 : AtQ p e below S0 T7 m 20 #[(vr b), (vi 1), (vi 3), (vr t2), (vi 1)] [(.int d1), (.int 1), (.ref t2)] := fun tt hq => k9 tt (st10 tt hq)
 have f11 : Old Z n0 h7 := (f6.keep Kq7 (allS (by omega) all0))
 obtain ⟨_, T12, L12, X12, ⟨rfl, Nq12, Kq12, V12⟩, k12a⟩ := callS' X7 hx hZ (y := yqU) hown (wq hw 50 rfl) (wq hw 51 rfl) (wq hw 35 rfl) (wq hw 52 rfl) (by decide) (backC (W := 0) (rm_put l Z a0 hw t2 kt2 (6 : Int32) _ (1 : Int32) (2 : Int32) 2 3 d1 [(.int (ulo d0)), (.int (uhi d0)), (.int (ulo d1)), (.int (uhi d1)), (.int 0), (.int 0)] h7 n0 (by omega) S_ad S_hi S_lo f11 V7 (by omega) (by decide) (by decide) (by decide) (by decide) (by decide) (Nat.le_of_ble_eq_true rfl) (Nat.le_of_ble_eq_true rfl) rfl) hZ (wq hw 52 rfl) (wq hw 35 rfl) (by decide) (by decide)) e7 (argsL := [(.ref t2), (.int 1), (.int d1)]) (rest := []) rfl rfl pd_15 rfl (by rw [hml]; rfl) (hb hby dqK_20) (Nat.le_of_eq rfl) (by decide) (by decide) k10
 have k12 : AtQ p e below S0 T12 m 23 #[(vr b), (vi 1), (vi 3), (vr t2), (vi 1)] [] := k12a
 have N12 := N7.app Nq12
 obtain ⟨h12, e12⟩ : ∃ z, T12.heap = z := ⟨_, rfl⟩
 rw [e12] at Kq12 V12
 have z12 : h7.size ≤ h12.size := Kq12.1
 have f13 : Arv Z h12 b kb .char (3 : Int32) [(.int d0), (.int d1), (.int d2)] (.int 0) := (f8.keep Kq12 (nin1 (by omega)))
 have k14 : AtQ p e below S0 T12 m 19 #[(vr b), (vi 2), (vi 3), (vr t2), (vi 2)] [(.int 2), (.ref b), (.int 2), (.ref t2)] := fun tt hq => k12 tt (by
  refine XS.iinc X12.here hx rfl (hb hby dqK_23) rfl (l' := #[(vr b), (vi 2), (vi 3), (vr t2), (vi 1)]) rfl ?_
  refine XS.iinc X12.here hx rfl (hb hby dqK_26) rfl (l' := #[(vr b), (vi 2), (vi 3), (vr t2), (vi 2)]) rfl ?_
  refine XS.goto X12.here hx rfl (pc0 := 29) (pc' := 8) rfl (hb hby dqK_29) (by decide) (by decide) ?_
  refine XS.iload X12.here hx rfl (hb hby dqK_8) rfl ?_
  refine XS.iloadN X12.here hx rfl (hb hby dqK_10) rfl ?_
  refine XS.icmpNo X12.here hx rfl (hb hby dqK_11) rfl (tlt (by decide)).2.1 ?_
  refine XS.aloadN X12.here hx rfl (hb hby dqK_14) rfl rfl ?_
  refine XS.iload X12.here hx rfl (hb hby dqK_15) rfl ?_
  refine XS.aloadN X12.here hx rfl (hb hby dqK_17) rfl rfl ?_
  refine XS.iloadN X12.here hx rfl (hb hby dqK_18) rfl ?_
  exact hq)
 obtain ⟨cl15, Ar15, -, S15, -, G15, -⟩ := id f13
 have hi15 := inb_of (j := (2 : Int32)) S15 ⟨by decide, by decide⟩
 have st15 := fun tt => X12.caload hx (j := (2 : Int32)) (v := (.int d2)) (by rw [e12]; exact Ar15.1) (State.isArrayOf_alike hZ.alike Ar15.2.1) Ar15.2.2 hi15 (G15.at hi15 rfl) (g := (mkF m 19 #[(vr b), (vi 2), (vi 3), (vr t2), (vi 2)] [(.int 2), (.ref b), (.int 2), (.ref t2)])) rfl rfl (hb hby dqK_19) tt
 have k15 : AtQ p e below S0 T12 m 20 #[(vr b), (vi 2), (vi 3), (vr t2), (vi 2)] [(.int d2), (.int 2), (.ref t2)] := fun tt hq => k14 tt (st15 tt hq)
 have f16 : Old Z n0 h12 := (f11.keep Kq12 (allS (by omega) all0))
 obtain ⟨_, T17, L17, X17, ⟨rfl, Nq17, Kq17, V17⟩, k17a⟩ := callS' X12 hx hZ (y := yqU) hown (wq hw 50 rfl) (wq hw 51 rfl) (wq hw 35 rfl) (wq hw 52 rfl) (by decide) (backC (W := 0) (rm_put l Z a0 hw t2 kt2 (6 : Int32) _ (2 : Int32) (4 : Int32) 4 5 d2 [(.int (ulo d0)), (.int (uhi d0)), (.int (ulo d1)), (.int (uhi d1)), (.int (ulo d2)), (.int (uhi d2))] h12 n0 (by omega) S_ad S_hi S_lo f16 V12 (by omega) (by decide) (by decide) (by decide) (by decide) (by decide) (Nat.le_of_ble_eq_true rfl) (Nat.le_of_ble_eq_true rfl) rfl) hZ (wq hw 52 rfl) (wq hw 35 rfl) (by decide) (by decide)) e12 (argsL := [(.ref t2), (.int 2), (.int d2)]) (rest := []) rfl rfl pd_15 rfl (by rw [hml]; rfl) (hb hby dqK_20) (Nat.le_of_eq rfl) (by decide) (by decide) k15
 have k17 : AtQ p e below S0 T17 m 23 #[(vr b), (vi 2), (vi 3), (vr t2), (vi 2)] [] := k17a
 have N17 := N12.app Nq17
 obtain ⟨h17, e17⟩ : ∃ z, T17.heap = z := ⟨_, rfl⟩
 rw [e17] at Kq17 V17
 have z17 : h12.size ≤ h17.size := Kq17.1
 have k18 : AtQ p e below S0 T17 m 33 #[(vr b), (vi 3), (vi 3), (vr t2), (vi 3)] [(.ref t2)] := fun tt hq => k17 tt (by
  refine XS.iinc X17.here hx rfl (hb hby dqK_23) rfl (l' := #[(vr b), (vi 3), (vi 3), (vr t2), (vi 2)]) rfl ?_
  refine XS.iinc X17.here hx rfl (hb hby dqK_26) rfl (l' := #[(vr b), (vi 3), (vi 3), (vr t2), (vi 3)]) rfl ?_
  refine XS.goto X17.here hx rfl (pc0 := 29) (pc' := 8) rfl (hb hby dqK_29) (by decide) (by decide) ?_
  refine XS.iload X17.here hx rfl (hb hby dqK_8) rfl ?_
  refine XS.iloadN X17.here hx rfl (hb hby dqK_10) rfl ?_
  refine XS.icmpYes X17.here hx rfl (pc0 := 11) (pc' := 32) rfl (hb hby dqK_11) rfl (flt (by decide)).2.1 (by decide) (by decide) ?_
  refine XS.aloadN X17.here hx rfl (hb hby dqK_32) rfl rfl ?_
  exact hq)
 have hE := e17
 refine retRef X17 hx hret hlk rfl rfl (hb hby dqK_33) k18 ?_ (by decide) (by decide)
 try rw [hE]
 exact ⟨t2, _, rfl, N17, (by omega), (((((Keep.refl h0 []).trans Kq2 all0).trans Kq7 (allS (Or.inr (by omega)) all0)).trans Kq12 (allS (Or.inr (by omega)) all0)).trans Kq17 (allS (Or.inr (by omega)) all0)), V17⟩
theorem rm_c3_3_1 (l : Launch) (Z : State) (a0 : Array Value) (hw : ∀ d ∈ tables_1, d.before a0 Z = true) (b : Addr) (kb : ClassId) (d0 : Int32) (d1 : Int32) (d2 : Int32) (h0 : Heap) (n0 : Nat) (hn0 : n0 ≤ h0.size) (S_ad : Sta Z Z.heap "java/lang/StringUTF16" "$assertionsDisabled" "Z" (.int 1)) (S_hi : Sta Z Z.heap "java/lang/StringUTF16" "HI_BYTE_SHIFT" "I" (.int 0)) (S_lo : Sta Z Z.heap "java/lang/StringUTF16" "LO_BYTE_SHIFT" "I" (.int 8)) (O0 : Old Z n0 h0) (P0 : Arv Z h0 b kb .char (3 : Int32) [(.int d0), (.int d1), (.int d2)] (.int 0)) (yb : @LT.lt Nat instLTNat b h0.size) (hd0 : ¬ (255 : Int32) < d0) (hd1 : (255 : Int32) < d1) (g0 : ¬ d1 < (0 : Int32)) (g1 : d1 < (65536 : Int32)) :
  Con l Z yqB jdk_52_method_16_code 6 (some (.array .byte)) [] rqB #[(.ref b), (.int 0), (.int 3)] h0 (fun v h L => ∃ (t : Addr) (k : ClassId), v = some (.ref t) ∧ Fr n0 L ∧ h0.size ≤ t ∧ Keep h0 h [] ∧ Arv Z h t k .byte (6 : Int32) [(.int (ulo d0)), (.int (uhi d0)), (.int (ulo d1)), (.int (uhi d1)), (.int (ulo d2)), (.int (uhi d2))] (.int 0)) := by
 refine enter (Ls := #[(vr b), (vi 0), (vi 3), .unset, .unset, .unset]) (plainFor_of_name pn_0) (fun m => by exact entry_eq rfl) ?_
 intro p e s m below meth cd_ s₁ S0 hx hby hml hret hlk hnm hown hZ X0 e0 k0
 have N0 := Fr.nil n0
 have k1 : AtQ p e below S0 s₁ m 1 #[(vr b), (vi 0), (vi 3), .unset, .unset, .unset] [(.int 3)] := fun tt hq => k0 tt (by
  refine XS.iloadN X0.here hx rfl (hb hby dqM_0) rfl ?_
  exact hq)
 obtain ⟨T2, h2, c2, X2, e2, E2, A2, st2⟩ := newP X0 hx hZ (wq hw 16 rfl) e0 (g := (mkF m 1 #[(vr b), (vi 0), (vi 3), .unset, .unset, .unset] [(.int 3)])) rfl (hb hby dqM_1) rfl (by decide) (cap := 3) (by decide) (by decide) (by decide) (by decide)
 obtain ⟨b2, g2⟩ : ∃ z, z = h0.size := ⟨_, rfl⟩
 rw [← g2] at A2 st2
 have k2 : AtQ p e below S0 T2 m 3 #[(vr b), (vi 0), (vi 3), .unset, .unset, .unset] [(.ref b2)] := fun tt hq => k1 tt (st2 tt hq)
 have z2 : h0.size ≤ h2.size := E2.1
 have V2 : Arv Z h2 b2 c2 .byte (3 : Int32) [(.int 0), (.int 0), (.int 0)] (.int 0) := (Arv.new A2 (by decide)).pad (pad_rep [] (.int 0) 3)
 have y2 : @LT.lt Nat instLTNat b2 h2.size := V2.lt
 have k3 : AtQ p e below S0 T2 m 9 #[(vr b), (vi 0), (vi 3), (vr b2), .unset, .unset] [(.int 3), (.int 0), (.ref b2), (.int 0), (.ref b)] := fun tt hq => k2 tt (by
  refine XS.astoreN X2.here hx rfl (hb hby dqM_3) rfl rfl (l' := #[(vr b), (vi 0), (vi 3), (vr b2), .unset, .unset]) rfl ?_
  refine XS.aloadN X2.here hx rfl (hb hby dqM_4) rfl rfl ?_
  refine XS.iloadN X2.here hx rfl (hb hby dqM_5) rfl ?_
  refine XS.aloadN X2.here hx rfl (hb hby dqM_6) rfl rfl ?_
  refine XS.iconst X2.here hx rfl (hb hby dqM_7) ?_
  refine XS.iloadN X2.here hx rfl (hb hby dqM_8) rfl ?_
  exact hq)
 have f4 : Arv Z h2 b kb .char (3 : Int32) [(.int d0), (.int d1), (.int d2)] (.int 0) := (P0.ext E2)
 obtain ⟨_, T5, L5, X5, ⟨rfl, Nq5, Kq5, V5⟩, k5a⟩ := callS' X2 hx hZ (y := yqA) hown (wq hw 37 rfl) (wq hw 38 rfl) (wq hw 35 rfl) (wq hw 39 rfl) (by decide) (backC (W := 0) (rm_c5_3_1 l Z a0 hw b kb b2 c2 d0 d1 d2 h2 n0 (by omega) f4 V2 (by omega) (by omega) hd0 hd1) hZ (wq hw 39 rfl) (wq hw 35 rfl) (by decide) (by decide)) e2 (argsL := [(.ref b), (.int 0), (.ref b2), (.int 0), (.int 3)]) (rest := []) rfl rfl pd_0 rfl (by rw [hml]; rfl) (hb hby dqM_9) (Nat.le_of_eq rfl) (by decide) (by decide) k3
 have k5 : AtQ p e below S0 T5 m 12 #[(vr b), (vi 0), (vi 3), (vr b2), .unset, .unset] [(.int 1)] := k5a
 have N5 := N0.app Nq5
 obtain ⟨h5, e5⟩ : ∃ z, T5.heap = z := ⟨_, rfl⟩
 rw [e5] at Kq5 V5
 have z5 : h2.size ≤ h5.size := Kq5.1
 have k6 : AtQ p e below S0 T5 m 23 #[(vr b), (vi 0), (vi 3), (vr b2), (vi 1), .unset] [(.int 3), (.int 0), (.ref b)] := fun tt hq => k5 tt (by
  refine XS.istore X5.here hx rfl (hb hby dqM_12) rfl (l' := #[(vr b), (vi 0), (vi 3), (vr b2), (vi 1), .unset]) rfl ?_
  refine XS.iload X5.here hx rfl (hb hby dqM_14) rfl ?_
  refine XS.iloadN X5.here hx rfl (hb hby dqM_16) rfl ?_
  refine XS.icmpNo X5.here hx rfl (hb hby dqM_17) rfl (feq (by decide)).1 ?_
  refine XS.aloadN X5.here hx rfl (hb hby dqM_20) rfl rfl ?_
  refine XS.iloadN X5.here hx rfl (hb hby dqM_21) rfl ?_
  refine XS.iloadN X5.here hx rfl (hb hby dqM_22) rfl ?_
  exact hq)
 have f7 : Old Z n0 h5 := ((O0.ext E2).keep Kq5 (allS (by omega) all0))
 have f8 : Arv Z h5 b kb .char (3 : Int32) [(.int d0), (.int d1), (.int d2)] (.int 0) := (f4.keep Kq5 (nin1 (by omega)))
 obtain ⟨_, T9, L9, X9, ⟨t9, kt9, rfl, Nq9, gt9, Kq9, V9⟩, k9a⟩ := callS' X5 hx hZ (y := yqV) hown (wq hw 40 rfl) (wq hw 41 rfl) (wq hw 35 rfl) (wq hw 42 rfl) (by decide) (backC (W := 0) (rm_tb3 l Z a0 hw b kb d0 d1 d2 h5 n0 (by omega) S_ad S_hi S_lo f7 f8 (by omega)) hZ (wq hw 42 rfl) (wq hw 35 rfl) (by decide) (by decide)) e5 (argsL := [(.ref b), (.int 0), (.int 3)]) (rest := []) rfl rfl pd_16 rfl (by rw [hml]; rfl) (hb hby dqM_23) (Nat.le_of_eq rfl) (by decide) (by decide) k6
 have k9 : AtQ p e below S0 T9 m 26 #[(vr b), (vi 0), (vi 3), (vr b2), (vi 1), .unset] [(.ref t9)] := k9a
 have N9 := N5.app Nq9
 obtain ⟨h9, e9⟩ : ∃ z, T9.heap = z := ⟨_, rfl⟩
 rw [e9] at Kq9 V9
 have z9 : h5.size ≤ h9.size := Kq9.1
 have y9 : @LT.lt Nat instLTNat t9 h9.size := V9.lt
 have k10 : AtQ p e below S0 T9 m 32 #[(vr b), (vi 0), (vi 3), (vr b2), (vi 1), (vr t9)] [(.int 1), (.ref t9)] := fun tt hq => k9 tt (by
  refine XS.astore X9.here hx rfl (hb hby dqM_26) rfl rfl (l' := #[(vr b), (vi 0), (vi 3), (vr b2), (vi 1), (vr t9)]) rfl ?_
  refine XS.aload X9.here hx rfl (hb hby dqM_28) rfl rfl ?_
  refine XS.iload X9.here hx rfl (hb hby dqM_30) rfl ?_
  exact hq)
 have f11 : Old Z n0 h9 := (f7.keep Kq9 all0)
 obtain ⟨_, T12, L12, X12, ⟨rfl, Nq12, eq12⟩, k12a⟩ := callS' X9 hx hZ (y := yqW) hown (wq hw 56 rfl) (wq hw 57 rfl) (wq hw 35 rfl) (wq hw 58 rfl) (by decide) (backC (W := 0) (rm_get l Z a0 hw t9 kt9 (6 : Int32) _ (1 : Int32) (2 : Int32) (ulo d1) (uhi d1) d1 h9 n0 (by omega) S_ad S_hi S_lo f11 V9 (by decide) (by decide) (by decide) rfl rfl (own_gc g0 g1) g0 g1) hZ (wq hw 58 rfl) (wq hw 35 rfl) (by decide) (by decide)) e9 (argsL := [(.ref t9), (.int 1)]) (rest := []) rfl rfl pd_17 rfl (by rw [hml]; rfl) (hb hby dqM_32) (Nat.le_of_eq rfl) (by decide) (by decide) k10
 have k12 : AtQ p e below S0 T12 m 35 #[(vr b), (vi 0), (vi 3), (vr b2), (vi 1), (vr t9)] [(.int d1)] := k12a
 have N12 := N9.app Nq12
 have e12 : T12.heap = h9 := eq12
 have k13 : AtQ p e below S0 T12 m 56 #[(vr b), (vi 0), (vi 3), (vr b2), (vi 1), (vr t9)] [(.ref t9)] := fun tt hq => k12 tt (by
  refine XS.sipush X12.here hx rfl (hb hby dqM_35) ?_
  refine XS.icmpYes X12.here hx rfl (pc0 := 38) (pc' := 54) rfl (hb hby dqM_38) rfl (tlt hd1).2.2.1 (by decide) (by decide) ?_
  refine XS.aload X12.here hx rfl (hb hby dqM_54) rfl rfl ?_
  exact hq)
 have hE := e12
 refine retRef X12 hx hret hlk rfl rfl (hb hby dqM_56) k13 ?_ (by decide) (by decide)
 try rw [hE]
 exact ⟨t9, _, rfl, N12, (by omega), ((((Keep.refl h0 []).ext E2).trans Kq5 (allS (Or.inr (by omega)) all0)).trans Kq9 all0), V9⟩
theorem sec_m2 {l : Launch} {Z : State} {a0 : Array Value} (hw : ∀ d ∈ tables_1, d.before a0 Z = true) {zc : Int32} {r : Addr} {so : Addr} {a : Addr} {t : Addr} {kt : ClassId} {nb : Int32} {vs : List Value} {cd : Int32} {xl : Int32} {xc : Int32} {sl0 : Slot} {sl1 : Slot} {sl2 : Slot} {sl3 : Slot} {sl4 : Slot} {sl5 : Slot} {sl6 : Slot} {sl7 : Slot} {sl10 : Slot} {sl11 : Slot} {sl12 : Slot} {sl13 : Slot} {sl14 : Slot} {kk : Int32} {o0 : Int32} {o1 : Int32} {o2 : Int32} {p : Program} {e : Env} {s T0 S0 : State} {m : MethodId} {below : List Frame} {meth : Method} {cd_ : Code} {vm0 vm1 : Vm} {h0 hh : Heap} {n0 n1 cc ss : Nat} {as' : Array Value} {LL : List Loc} (hx : p.tables.exec = Jvm.exec) (hby : cd_.code = code) (hml : cd_.maxLocals = maxLocals) (hret : meth.sig.returnType = ret) (hlk : meth.locks = false) (hnm : meth.name = x.name) (hown : vm1.findClass x.cls = some m.cls) (hZ : Z.Warmed39 vm1) (X0 : Stand p l e room_1 (s.setVm vm1) m as' below meth cd_ T0 LL cc ss) (e0 : T0.heap = hh) (k0 : To p.tables e below S0 (T0.setTop (mkF m 242 #[sl0, sl1, sl2, sl3, sl4, sl5, sl6, sl7, (vi 2), (vi kk), sl10, sl11, sl12, sl13, sl14, (vr r), .unset, .unset] []))) (N0 : Fr n0 LL) (C0 : CHr Z own_EL vm0 h0 vm1 hh) (hS0 : s.Since vm1 n1) (hn1 : n1 ≤ hh.size) (hn0 : n0 ≤ hh.size) (hcc : cc ≤ room_1.cells) (hss : ss ≤ room_1.slots) (S_c : Sta Z Z.heap "java/lang/String" "COMPACT_STRINGS" "Z" (.int zc)) (hzc : ¬ zc = (0 : Int32)) (P0 : Exa Z hh r "com/example/ceruline/ceruline/parsing/SourceReader") (P1 : FqE Z hh r (.ref so)) (P2 : FqF Z hh r (.ref a)) (P3 : FqG Z hh r (.int o0)) (P4 : FqH Z hh r (.int xl)) (P5 : FqI Z hh r (.int xc)) (P6 : Exa Z hh a "java/lang/String") (P7 : FqA Z hh a (.ref t)) (P8 : FqB Z hh a (.int cd)) (P9 : Arv Z hh t kt .byte nb vs (.int 0)) (O0 : Old Z n0 hh) (hcd : narrow .byte (.int cd) = .int cd) (hln : (nb >>> (cd &&& 31)) = o2) (no0 : ¬ o0 = o2) (no1 : ¬ o1 = o2) (hk : kk = (0 : Int32) ∨ kk = (1 : Int32) ∨ kk = (2 : Int32)) (gr : n0 ≤ r) (nra : ¬ (@Eq Nat a r)) (nrt : ¬ (@Eq Nat t r)) (ha0 : ∀ (H : Heap) (xl xc : Int32), n0 ≤ H.size → Old Z n0 H → Exa Z H r "com/example/ceruline/ceruline/parsing/SourceReader" → FqE Z H r (.ref so) → FqF Z H r (.ref a) → FqG Z H r (.int o0) → FqH Z H r (.int xl) → FqI Z H r (.int xc) → Exa Z H a "java/lang/String" → FqA Z H a (.ref t) → FqB Z H a (.int cd) → Arv Z H t kt .byte nb vs (.int 0) → Con l Z yqR prog_66_method_4_code 2 none [] rqK #[(.ref r)] H (fun v h L => ∃ (y1 y2 : Int32), v = none ∧ Fr n0 L ∧ Keep H h [r] ∧ Exa Z h r "com/example/ceruline/ceruline/parsing/SourceReader" ∧ FqE Z h r (.ref so) ∧ FqF Z h r (.ref a) ∧ FqG Z h r (.int o1) ∧ FqH Z h r (.int y1) ∧ FqI Z h r (.int y2))) (ha1 : ∀ (H : Heap) (xl xc : Int32), n0 ≤ H.size → Old Z n0 H → Exa Z H r "com/example/ceruline/ceruline/parsing/SourceReader" → FqE Z H r (.ref so) → FqF Z H r (.ref a) → FqG Z H r (.int o1) → FqH Z H r (.int xl) → FqI Z H r (.int xc) → Exa Z H a "java/lang/String" → FqA Z H a (.ref t) → FqB Z H a (.int cd) → Arv Z H t kt .byte nb vs (.int 0) → Con l Z yqR prog_66_method_4_code 2 none [] rqK #[(.ref r)] H (fun v h L => ∃ (y1 y2 : Int32), v = none ∧ Fr n0 L ∧ Keep H h [r] ∧ Exa Z h r "com/example/ceruline/ceruline/parsing/SourceReader" ∧ FqE Z h r (.ref so) ∧ FqF Z h r (.ref a) ∧ FqG Z h r (.int o2) ∧ FqH Z h r (.int y1) ∧ FqI Z h r (.int y2))) :
  FinW p e below s room_1 S0 Z own_EL vm0 h0 (fun v h L => v = some (.int 1) ∧ Fr n0 L) := by
 rcases hk with hk | hk
 ·
  let l2 : Array Slot := #[sl0, sl1, sl2, sl3, sl4, sl5, sl6, sl7, (vi 2), (vi 0), sl10, sl11, sl12, sl13, sl14, (vr r), .unset, .unset]
  have k1 : AtQ p e below S0 T0 m 242 l2 [] := by
   have hq : AtQ p e below S0 T0 m 242 #[sl0, sl1, sl2, sl3, sl4, sl5, sl6, sl7, (vi 2), (vi kk), sl10, sl11, sl12, sl13, sl14, (vr r), .unset, .unset] [] := k0
   rw [hk] at hq; exact hq
  have k3 : AtQ p e below S0 T0 m 285 l2 [] := fun tt hq => k1 tt (by
   refine XS.iload X0.here hx rfl (hb hby at_242) rfl ?_
   refine XS.ifYes X0.here hx rfl (pc0 := 244) (pc' := 252) rfl (hb hby at_244) rfl ((if0 _ _).trans (flt (by decide)).2.2.2) (by decide) (by decide) ?_
   refine XS.iload X0.here hx rfl (hb hby at_252) rfl ?_
   refine XS.iconst X0.here hx rfl (hb hby at_254) ?_
   refine XS.icmpYes X0.here hx rfl (pc0 := 255) (pc' := 263) rfl (hb hby at_255) rfl (flt (by decide)).2.2.2 (by decide) (by decide) ?_
   refine XS.iload X0.here hx rfl (hb hby at_263) rfl ?_
   refine XS.iconst X0.here hx rfl (hb hby at_265) ?_
   refine XS.icmpYes X0.here hx rfl (pc0 := 266) (pc' := 274) rfl (hb hby at_266) rfl (flt (by decide)).2.2.2 (by decide) (by decide) ?_
   refine XS.iload X0.here hx rfl (hb hby at_274) rfl ?_
   refine XS.iconst X0.here hx rfl (hb hby at_276) ?_
   refine XS.icmpYes X0.here hx rfl (pc0 := 277) (pc' := 285) rfl (hb hby at_277) rfl (flt (by decide)).2.2.2 (by decide) (by decide) ?_
   exact hq)
  exact sec_t0 hw hx hby hml hret hlk hnm hown hZ X0 e0 k3 N0 C0 hS0 (by omega) (by omega) hcc hss S_c hzc P0 P1 P2 P3 P4 P5 P6 P7 P8 P9 O0 hcd hln (if_neg no0) (by decide)
 ·
  have hp4 : (0 : Int32) < kk := by rcases hk with hk | hk <;> rw [hk] <;> decide
  let l5 : Array Slot := #[sl0, sl1, sl2, sl3, sl4, sl5, sl6, sl7, (vi 2), (vi kk), sl10, sl11, sl12, sl13, sl14, (vr r), .unset, .unset]
  have k6 : AtQ p e below S0 T0 m 249 l5 [(.ref r)] := fun tt hq => k0 tt (by
   refine XS.iload X0.here hx rfl (hb hby at_242) rfl ?_
   refine XS.ifNo X0.here hx rfl (hb hby at_244) rfl ((if0 _ _).trans (tlt hp4).2.2.2) ?_
   refine XS.aload X0.here hx rfl (hb hby at_247) rfl rfl ?_
   exact hq)
  obtain ⟨_, T7, L7, X7, ⟨x7, y7x, rfl, Nq7, Kq7, P7_0, P7_1, P7_2, P7_3, P7_4, P7_5⟩, k7a⟩ := callV' X0 hx hZ (y := yqR) (z := yqR) hown (wq hw 94 rfl) (wq hw 95 rfl) (notFace_of_selects (args := #[]) (mvT hZ (wq hw 97 rfl))) (wq hw 97 rfl) (wq hw 96 rfl) (by decide) P0 (backC (W := 0) (ha0 hh xl xc (by omega) O0 P0 P1 P2 P3 P4 P5 P6 P7 P8 P9) hZ (wq hw 98 rfl) (wq hw 9 rfl) (by decide) (by decide)) e0 (argsL := []) (rest := []) rfl rfl pd_6 rfl (by rw [hml]; rfl) (hb hby at_249) (Nat.le_of_eq rfl) hcc hss k6
  have k7 : AtQ p e below S0 T7 m 252 l5 [] := k7a
  have N7 := N0.app Nq7
  obtain ⟨h7, e7⟩ : ∃ z, T7.heap = z := ⟨_, rfl⟩
  rw [e7] at Kq7 P7_0 P7_1 P7_2 P7_3 P7_4 P7_5
  have z7 : hh.size ≤ h7.size := Kq7.1
  have C7 := C0.trans (CHr.keep Kq7 (sfS (Safe.exa hZ.alike P0 (by decide) (by decide)) sf0) C0.1)
  rcases hk with hk | hk
  ·
   let l9 : Array Slot := #[sl0, sl1, sl2, sl3, sl4, sl5, sl6, sl7, (vi 2), (vi 1), sl10, sl11, sl12, sl13, sl14, (vr r), .unset, .unset]
   have k8 : AtQ p e below S0 T7 m 252 l9 [] := by
    have hq : AtQ p e below S0 T7 m 252 #[sl0, sl1, sl2, sl3, sl4, sl5, sl6, sl7, (vi 2), (vi kk), sl10, sl11, sl12, sl13, sl14, (vr r), .unset, .unset] [] := k7
    rw [hk] at hq; exact hq
   have k10 : AtQ p e below S0 T7 m 285 l9 [] := fun tt hq => k8 tt (by
    refine XS.iload X7.here hx rfl (hb hby at_252) rfl ?_
    refine XS.iconst X7.here hx rfl (hb hby at_254) ?_
    refine XS.icmpYes X7.here hx rfl (pc0 := 255) (pc' := 263) rfl (hb hby at_255) rfl (flt (by decide)).2.2.2 (by decide) (by decide) ?_
    refine XS.iload X7.here hx rfl (hb hby at_263) rfl ?_
    refine XS.iconst X7.here hx rfl (hb hby at_265) ?_
    refine XS.icmpYes X7.here hx rfl (pc0 := 266) (pc' := 274) rfl (hb hby at_266) rfl (flt (by decide)).2.2.2 (by decide) (by decide) ?_
    refine XS.iload X7.here hx rfl (hb hby at_274) rfl ?_
    refine XS.iconst X7.here hx rfl (hb hby at_276) ?_
    refine XS.icmpYes X7.here hx rfl (pc0 := 277) (pc' := 285) rfl (hb hby at_277) rfl (flt (by decide)).2.2.2 (by decide) (by decide) ?_
    exact hq)
   have f11 : Exa Z h7 a "java/lang/String" := (P6.keep Kq7)
   have f12 : FqA Z h7 a (.ref t) := (P7.keep Kq7 (nin1 (by omega)))
   have f13 : FqB Z h7 a (.int cd) := (P8.keep Kq7 (nin1 (by omega)))
   have f14 : Arv Z h7 t kt .byte nb vs (.int 0) := (P9.keep Kq7 (nin1 (by omega)))
   have f15 : Old Z n0 h7 := (O0.keep Kq7 (allS (by omega) all0))
   exact sec_t0 hw hx hby hml hret hlk hnm hown hZ X7 e7 k10 N7 C7 hS0 (by omega) (by omega) hcc hss S_c hzc P7_0 P7_1 P7_2 P7_3 P7_4 P7_5 f11 f12 f13 f14 f15 hcd hln (if_neg no1) (by decide)
  ·
   have hp16 : (1 : Int32) < kk := by rcases hk with hk <;> rw [hk] <;> decide
   have k17 : AtQ p e below S0 T7 m 260 l5 [(.ref r)] := fun tt hq => k7 tt (by
    refine XS.iload X7.here hx rfl (hb hby at_252) rfl ?_
    refine XS.iconst X7.here hx rfl (hb hby at_254) ?_
    refine XS.icmpNo X7.here hx rfl (hb hby at_255) rfl (tlt hp16).2.2.2 ?_
    refine XS.aload X7.here hx rfl (hb hby at_258) rfl rfl ?_
    exact hq)
   have f18 : Old Z n0 h7 := (O0.keep Kq7 (allS (by omega) all0))
   have f19 : Exa Z h7 a "java/lang/String" := (P6.keep Kq7)
   have f20 : FqA Z h7 a (.ref t) := (P7.keep Kq7 (nin1 (by omega)))
   have f21 : FqB Z h7 a (.int cd) := (P8.keep Kq7 (nin1 (by omega)))
   have f22 : Arv Z h7 t kt .byte nb vs (.int 0) := (P9.keep Kq7 (nin1 (by omega)))
   obtain ⟨_, T23, L23, X23, ⟨x23, y23x, rfl, Nq23, Kq23, P23_0, P23_1, P23_2, P23_3, P23_4, P23_5⟩, k23a⟩ := callV' X7 hx hZ (y := yqR) (z := yqR) hown (wq hw 94 rfl) (wq hw 95 rfl) (notFace_of_selects (args := #[]) (mvT hZ (wq hw 97 rfl))) (wq hw 97 rfl) (wq hw 96 rfl) (by decide) P7_0 (backC (W := 0) (ha1 h7 x7 y7x (by omega) f18 P7_0 P7_1 P7_2 P7_3 P7_4 P7_5 f19 f20 f21 f22) hZ (wq hw 98 rfl) (wq hw 9 rfl) (by decide) (by decide)) e7 (argsL := []) (rest := []) rfl rfl pd_6 rfl (by rw [hml]; rfl) (hb hby at_260) (Nat.le_of_eq rfl) hcc hss k17
   have k23 : AtQ p e below S0 T23 m 263 l5 [] := k23a
   have N23 := N7.app Nq23
   obtain ⟨h23, e23⟩ : ∃ z, T23.heap = z := ⟨_, rfl⟩
   rw [e23] at Kq23 P23_0 P23_1 P23_2 P23_3 P23_4 P23_5
   have z23 : h7.size ≤ h23.size := Kq23.1
   have C23 := C7.trans (CHr.keep Kq23 (sfS (Safe.exa hZ.alike P7_0 (by decide) (by decide)) sf0) C7.1)
   let l25 : Array Slot := #[sl0, sl1, sl2, sl3, sl4, sl5, sl6, sl7, (vi 2), (vi 2), sl10, sl11, sl12, sl13, sl14, (vr r), .unset, .unset]
   have k24 : AtQ p e below S0 T23 m 263 l25 [] := by
    have hq : AtQ p e below S0 T23 m 263 #[sl0, sl1, sl2, sl3, sl4, sl5, sl6, sl7, (vi 2), (vi kk), sl10, sl11, sl12, sl13, sl14, (vr r), .unset, .unset] [] := k23
    rw [hk] at hq; exact hq
   have k26 : AtQ p e below S0 T23 m 285 l25 [] := fun tt hq => k24 tt (by
    refine XS.iload X23.here hx rfl (hb hby at_263) rfl ?_
    refine XS.iconst X23.here hx rfl (hb hby at_265) ?_
    refine XS.icmpYes X23.here hx rfl (pc0 := 266) (pc' := 274) rfl (hb hby at_266) rfl (flt (by decide)).2.2.2 (by decide) (by decide) ?_
    refine XS.iload X23.here hx rfl (hb hby at_274) rfl ?_
    refine XS.iconst X23.here hx rfl (hb hby at_276) ?_
    refine XS.icmpYes X23.here hx rfl (pc0 := 277) (pc' := 285) rfl (hb hby at_277) rfl (flt (by decide)).2.2.2 (by decide) (by decide) ?_
    exact hq)
   have f27 : Exa Z h23 a "java/lang/String" := (f19.keep Kq23)
   have f28 : FqA Z h23 a (.ref t) := (f20.keep Kq23 (nin1 (by omega)))
   have f29 : FqB Z h23 a (.int cd) := (f21.keep Kq23 (nin1 (by omega)))
   have f30 : Arv Z h23 t kt .byte nb vs (.int 0) := (f22.keep Kq23 (nin1 (by omega)))
   have f31 : Old Z n0 h23 := (f18.keep Kq23 (allS (by omega) all0))
   exact sec_t1 hw hx hby hml hret hlk hnm hown hZ X23 e23 k26 N23 C23 hS0 (by omega) (by omega) hcc hss S_c hzc P23_0 P23_1 P23_2 P23_3 P23_4 P23_5 f27 f28 f29 f30 f31 hcd hln (if_pos rfl) (by decide)
theorem rm_c5_3_0 (l : Launch) (Z : State) (a0 : Array Value) (hw : ∀ d ∈ tables_1, d.before a0 Z = true) (b : Addr) (kb : ClassId) (t : Addr) (kt : ClassId) (d0 : Int32) (d1 : Int32) (d2 : Int32) (h0 : Heap) (n0 : Nat) (hn0 : n0 ≤ h0.size) (P0 : Arv Z h0 b kb .char (3 : Int32) [(.int d0), (.int d1), (.int d2)] (.int 0)) (P1 : Arv Z h0 t kt .byte (3 : Int32) [(.int 0), (.int 0), (.int 0)] (.int 0)) (ga : n0 ≤ t) (nbt : ¬ (@Eq Nat b t)) (hd0 : (255 : Int32) < d0) :
  Con l Z yqA jdk_52_method_21_code 7 (some .int) [] rqA #[(.ref b), (.int 0), (.ref t), (.int 0), (.int 3)] h0 (fun v h L => v = some (.int 0) ∧ Fr n0 L ∧ Keep h0 h [t] ∧ Arv Z h t kt .byte (3 : Int32) [(.int 0), (.int 0), (.int 0)] (.int 0)) := by
 refine enter (Ls := #[(vr b), (vi 0), (vr t), (vi 0), (vi 3), .unset, .unset]) (plainFor_of_name pn_0) (fun m => by exact entry_eq rfl) ?_
 intro p e s m below meth cd_ s₁ S0 hx hby hml hret hlk hnm hown hZ X0 e0 k0
 have N0 := Fr.nil n0
 have k1 : AtQ p e below S0 s₁ m 12 #[(vr b), (vi 0), (vr t), (vi 0), (vi 3), (vi 0), .unset] [(.int 0), (.ref b)] := fun tt hq => k0 tt (by
  refine XS.iconst X0.here hx rfl (hb hby dqN_0) ?_
  refine XS.istore X0.here hx rfl (hb hby dqN_1) rfl (l' := #[(vr b), (vi 0), (vr t), (vi 0), (vi 3), (vi 0), .unset]) rfl ?_
  refine XS.iload X0.here hx rfl (hb hby dqN_3) rfl ?_
  refine XS.iload X0.here hx rfl (hb hby dqN_5) rfl ?_
  refine XS.icmpNo X0.here hx rfl (hb hby dqN_7) rfl (tlt (by decide)).2.1 ?_
  refine XS.aloadN X0.here hx rfl (hb hby dqN_10) rfl rfl ?_
  refine XS.iloadN X0.here hx rfl (hb hby dqN_11) rfl ?_
  exact hq)
 obtain ⟨cl2, Ar2, -, S2, -, G2, -⟩ := id P0
 have hi2 := inb_of (j := (0 : Int32)) S2 ⟨by decide, by decide⟩
 have st2 := fun tt => X0.caload hx (j := (0 : Int32)) (v := (.int d0)) (by rw [e0]; exact Ar2.1) (State.isArrayOf_alike hZ.alike Ar2.2.1) Ar2.2.2 hi2 (G2.at hi2 rfl) (g := (mkF m 12 #[(vr b), (vi 0), (vr t), (vi 0), (vi 3), (vi 0), .unset] [(.int 0), (.ref b)])) rfl rfl (hb hby dqN_12) tt
 have k2 : AtQ p e below S0 s₁ m 13 #[(vr b), (vi 0), (vr t), (vi 0), (vi 3), (vi 0), .unset] [(.int d0)] := fun tt hq => k1 tt (st2 tt hq)
 have k3 : AtQ p e below S0 s₁ m 25 #[(vr b), (vi 0), (vr t), (vi 0), (vi 3), (vi 0), (vi d0)] [(.int 0)] := fun tt hq => k2 tt (by
  refine XS.istore X0.here hx rfl (hb hby dqN_13) rfl (l' := #[(vr b), (vi 0), (vr t), (vi 0), (vi 3), (vi 0), (vi d0)]) rfl ?_
  refine XS.iload X0.here hx rfl (hb hby dqN_15) rfl ?_
  refine XS.sipush X0.here hx rfl (hb hby dqN_17) ?_
  refine XS.icmpNo X0.here hx rfl (hb hby dqN_20) rfl (tlt hd0).2.2.2 ?_
  refine XS.iload X0.here hx rfl (hb hby dqN_23) rfl ?_
  exact hq)
 have hE := e0
 refine retInt X0 hx hret hlk (by simp) rfl (hb hby dqN_25) k3 ?_ (by decide) (by decide)
 try rw [hE]
 exact ⟨rfl, N0, (Keep.refl h0 [t]), P1⟩
theorem rm_c3_3_0 (l : Launch) (Z : State) (a0 : Array Value) (hw : ∀ d ∈ tables_1, d.before a0 Z = true) (b : Addr) (kb : ClassId) (d0 : Int32) (d1 : Int32) (d2 : Int32) (h0 : Heap) (n0 : Nat) (hn0 : n0 ≤ h0.size) (S_ad : Sta Z Z.heap "java/lang/StringUTF16" "$assertionsDisabled" "Z" (.int 1)) (S_hi : Sta Z Z.heap "java/lang/StringUTF16" "HI_BYTE_SHIFT" "I" (.int 0)) (S_lo : Sta Z Z.heap "java/lang/StringUTF16" "LO_BYTE_SHIFT" "I" (.int 8)) (O0 : Old Z n0 h0) (P0 : Arv Z h0 b kb .char (3 : Int32) [(.int d0), (.int d1), (.int d2)] (.int 0)) (yb : @LT.lt Nat instLTNat b h0.size) (hd0 : (255 : Int32) < d0) (g0 : ¬ d0 < (0 : Int32)) (g1 : d0 < (65536 : Int32)) :
  Con l Z yqB jdk_52_method_16_code 6 (some (.array .byte)) [] rqB #[(.ref b), (.int 0), (.int 3)] h0 (fun v h L => ∃ (t : Addr) (k : ClassId), v = some (.ref t) ∧ Fr n0 L ∧ h0.size ≤ t ∧ Keep h0 h [] ∧ Arv Z h t k .byte (6 : Int32) [(.int (ulo d0)), (.int (uhi d0)), (.int (ulo d1)), (.int (uhi d1)), (.int (ulo d2)), (.int (uhi d2))] (.int 0)) := by
 refine enter (Ls := #[(vr b), (vi 0), (vi 3), .unset, .unset, .unset]) (plainFor_of_name pn_0) (fun m => by exact entry_eq rfl) ?_
 intro p e s m below meth cd_ s₁ S0 hx hby hml hret hlk hnm hown hZ X0 e0 k0
 have N0 := Fr.nil n0
 have k1 : AtQ p e below S0 s₁ m 1 #[(vr b), (vi 0), (vi 3), .unset, .unset, .unset] [(.int 3)] := fun tt hq => k0 tt (by
  refine XS.iloadN X0.here hx rfl (hb hby dqM_0) rfl ?_
  exact hq)
 obtain ⟨T2, h2, c2, X2, e2, E2, A2, st2⟩ := newP X0 hx hZ (wq hw 16 rfl) e0 (g := (mkF m 1 #[(vr b), (vi 0), (vi 3), .unset, .unset, .unset] [(.int 3)])) rfl (hb hby dqM_1) rfl (by decide) (cap := 3) (by decide) (by decide) (by decide) (by decide)
 obtain ⟨b2, g2⟩ : ∃ z, z = h0.size := ⟨_, rfl⟩
 rw [← g2] at A2 st2
 have k2 : AtQ p e below S0 T2 m 3 #[(vr b), (vi 0), (vi 3), .unset, .unset, .unset] [(.ref b2)] := fun tt hq => k1 tt (st2 tt hq)
 have z2 : h0.size ≤ h2.size := E2.1
 have V2 : Arv Z h2 b2 c2 .byte (3 : Int32) [(.int 0), (.int 0), (.int 0)] (.int 0) := (Arv.new A2 (by decide)).pad (pad_rep [] (.int 0) 3)
 have y2 : @LT.lt Nat instLTNat b2 h2.size := V2.lt
 have k3 : AtQ p e below S0 T2 m 9 #[(vr b), (vi 0), (vi 3), (vr b2), .unset, .unset] [(.int 3), (.int 0), (.ref b2), (.int 0), (.ref b)] := fun tt hq => k2 tt (by
  refine XS.astoreN X2.here hx rfl (hb hby dqM_3) rfl rfl (l' := #[(vr b), (vi 0), (vi 3), (vr b2), .unset, .unset]) rfl ?_
  refine XS.aloadN X2.here hx rfl (hb hby dqM_4) rfl rfl ?_
  refine XS.iloadN X2.here hx rfl (hb hby dqM_5) rfl ?_
  refine XS.aloadN X2.here hx rfl (hb hby dqM_6) rfl rfl ?_
  refine XS.iconst X2.here hx rfl (hb hby dqM_7) ?_
  refine XS.iloadN X2.here hx rfl (hb hby dqM_8) rfl ?_
  exact hq)
 have f4 : Arv Z h2 b kb .char (3 : Int32) [(.int d0), (.int d1), (.int d2)] (.int 0) := (P0.ext E2)
 obtain ⟨_, T5, L5, X5, ⟨rfl, Nq5, Kq5, V5⟩, k5a⟩ := callS' X2 hx hZ (y := yqA) hown (wq hw 37 rfl) (wq hw 38 rfl) (wq hw 35 rfl) (wq hw 39 rfl) (by decide) (backC (W := 0) (rm_c5_3_0 l Z a0 hw b kb b2 c2 d0 d1 d2 h2 n0 (by omega) f4 V2 (by omega) (by omega) hd0) hZ (wq hw 39 rfl) (wq hw 35 rfl) (by decide) (by decide)) e2 (argsL := [(.ref b), (.int 0), (.ref b2), (.int 0), (.int 3)]) (rest := []) rfl rfl pd_0 rfl (by rw [hml]; rfl) (hb hby dqM_9) (Nat.le_of_eq rfl) (by decide) (by decide) k3
 have k5 : AtQ p e below S0 T5 m 12 #[(vr b), (vi 0), (vi 3), (vr b2), .unset, .unset] [(.int 0)] := k5a
 have N5 := N0.app Nq5
 obtain ⟨h5, e5⟩ : ∃ z, T5.heap = z := ⟨_, rfl⟩
 rw [e5] at Kq5 V5
 have z5 : h2.size ≤ h5.size := Kq5.1
 have k6 : AtQ p e below S0 T5 m 23 #[(vr b), (vi 0), (vi 3), (vr b2), (vi 0), .unset] [(.int 3), (.int 0), (.ref b)] := fun tt hq => k5 tt (by
  refine XS.istore X5.here hx rfl (hb hby dqM_12) rfl (l' := #[(vr b), (vi 0), (vi 3), (vr b2), (vi 0), .unset]) rfl ?_
  refine XS.iload X5.here hx rfl (hb hby dqM_14) rfl ?_
  refine XS.iloadN X5.here hx rfl (hb hby dqM_16) rfl ?_
  refine XS.icmpNo X5.here hx rfl (hb hby dqM_17) rfl (feq (by decide)).1 ?_
  refine XS.aloadN X5.here hx rfl (hb hby dqM_20) rfl rfl ?_
  refine XS.iloadN X5.here hx rfl (hb hby dqM_21) rfl ?_
  refine XS.iloadN X5.here hx rfl (hb hby dqM_22) rfl ?_
  exact hq)
 have f7 : Old Z n0 h5 := ((O0.ext E2).keep Kq5 (allS (by omega) all0))
 have f8 : Arv Z h5 b kb .char (3 : Int32) [(.int d0), (.int d1), (.int d2)] (.int 0) := (f4.keep Kq5 (nin1 (by omega)))
 obtain ⟨_, T9, L9, X9, ⟨t9, kt9, rfl, Nq9, gt9, Kq9, V9⟩, k9a⟩ := callS' X5 hx hZ (y := yqV) hown (wq hw 40 rfl) (wq hw 41 rfl) (wq hw 35 rfl) (wq hw 42 rfl) (by decide) (backC (W := 0) (rm_tb3 l Z a0 hw b kb d0 d1 d2 h5 n0 (by omega) S_ad S_hi S_lo f7 f8 (by omega)) hZ (wq hw 42 rfl) (wq hw 35 rfl) (by decide) (by decide)) e5 (argsL := [(.ref b), (.int 0), (.int 3)]) (rest := []) rfl rfl pd_16 rfl (by rw [hml]; rfl) (hb hby dqM_23) (Nat.le_of_eq rfl) (by decide) (by decide) k6
 have k9 : AtQ p e below S0 T9 m 26 #[(vr b), (vi 0), (vi 3), (vr b2), (vi 0), .unset] [(.ref t9)] := k9a
 have N9 := N5.app Nq9
 obtain ⟨h9, e9⟩ : ∃ z, T9.heap = z := ⟨_, rfl⟩
 rw [e9] at Kq9 V9
 have z9 : h5.size ≤ h9.size := Kq9.1
 have y9 : @LT.lt Nat instLTNat t9 h9.size := V9.lt
 have k10 : AtQ p e below S0 T9 m 32 #[(vr b), (vi 0), (vi 3), (vr b2), (vi 0), (vr t9)] [(.int 0), (.ref t9)] := fun tt hq => k9 tt (by
  refine XS.astore X9.here hx rfl (hb hby dqM_26) rfl rfl (l' := #[(vr b), (vi 0), (vi 3), (vr b2), (vi 0), (vr t9)]) rfl ?_
  refine XS.aload X9.here hx rfl (hb hby dqM_28) rfl rfl ?_
  refine XS.iload X9.here hx rfl (hb hby dqM_30) rfl ?_
  exact hq)
 have f11 : Old Z n0 h9 := (f7.keep Kq9 all0)
 obtain ⟨_, T12, L12, X12, ⟨rfl, Nq12, eq12⟩, k12a⟩ := callS' X9 hx hZ (y := yqW) hown (wq hw 56 rfl) (wq hw 57 rfl) (wq hw 35 rfl) (wq hw 58 rfl) (by decide) (backC (W := 0) (rm_get l Z a0 hw t9 kt9 (6 : Int32) _ (0 : Int32) (0 : Int32) (ulo d0) (uhi d0) d0 h9 n0 (by omega) S_ad S_hi S_lo f11 V9 (by decide) (by decide) (by decide) rfl rfl (own_gc g0 g1) g0 g1) hZ (wq hw 58 rfl) (wq hw 35 rfl) (by decide) (by decide)) e9 (argsL := [(.ref t9), (.int 0)]) (rest := []) rfl rfl pd_17 rfl (by rw [hml]; rfl) (hb hby dqM_32) (Nat.le_of_eq rfl) (by decide) (by decide) k10
 have k12 : AtQ p e below S0 T12 m 35 #[(vr b), (vi 0), (vi 3), (vr b2), (vi 0), (vr t9)] [(.int d0)] := k12a
 have N12 := N9.app Nq12
 have e12 : T12.heap = h9 := eq12
 have k13 : AtQ p e below S0 T12 m 56 #[(vr b), (vi 0), (vi 3), (vr b2), (vi 0), (vr t9)] [(.ref t9)] := fun tt hq => k12 tt (by
  refine XS.sipush X12.here hx rfl (hb hby dqM_35) ?_
  refine XS.icmpYes X12.here hx rfl (pc0 := 38) (pc' := 54) rfl (hb hby dqM_38) rfl (tlt hd0).2.2.1 (by decide) (by decide) ?_
  refine XS.aload X12.here hx rfl (hb hby dqM_54) rfl rfl ?_
  exact hq)
 have hE := e12
 refine retRef X12 hx hret hlk rfl rfl (hb hby dqM_56) k13 ?_ (by decide) (by decide)
 try rw [hE]
 exact ⟨t9, _, rfl, N12, (by omega), ((((Keep.refl h0 []).ext E2).trans Kq5 (allS (Or.inr (by omega)) all0)).trans Kq9 all0), V9⟩
theorem rm_c5_4_2 (l : Launch) (Z : State) (a0 : Array Value) (hw : ∀ d ∈ tables_1, d.before a0 Z = true) (b : Addr) (kb : ClassId) (t : Addr) (kt : ClassId) (d0 : Int32) (d1 : Int32) (d2 : Int32) (d3 : Int32) (h0 : Heap) (n0 : Nat) (hn0 : n0 ≤ h0.size) (P0 : Arv Z h0 b kb .char (4 : Int32) [(.int d0), (.int d1), (.int d2), (.int d3)] (.int 0)) (P1 : Arv Z h0 t kt .byte (4 : Int32) [(.int 0), (.int 0), (.int 0), (.int 0)] (.int 0)) (ga : n0 ≤ t) (nbt : ¬ (@Eq Nat b t)) (hd0 : ¬ (255 : Int32) < d0) (hd1 : ¬ (255 : Int32) < d1) (hd2 : (255 : Int32) < d2) :
  Con l Z yqA jdk_52_method_21_code 7 (some .int) [] rqA #[(.ref b), (.int 0), (.ref t), (.int 0), (.int 4)] h0 (fun v h L => v = some (.int 2) ∧ Fr n0 L ∧ Keep h0 h [t] ∧ Arv Z h t kt .byte (4 : Int32) [(.int (nar .byte (d0.toInt8.toInt32))), (.int (nar .byte (d1.toInt8.toInt32))), (.int 0), (.int 0)] (.int 0)) := by
 refine enter (Ls := #[(vr b), (vi 0), (vr t), (vi 0), (vi 4), .unset, .unset]) (plainFor_of_name pn_0) (fun m => by exact entry_eq rfl) ?_
 intro p e s m below meth cd_ s₁ S0 hx hby hml hret hlk hnm hown hZ X0 e0 k0
 have N0 := Fr.nil n0
 have k1 : AtQ p e below S0 s₁ m 12 #[(vr b), (vi 0), (vr t), (vi 0), (vi 4), (vi 0), .unset] [(.int 0), (.ref b)] := fun tt hq => k0 tt (by
  refine XS.iconst X0.here hx rfl (hb hby dqN_0) ?_
  refine XS.istore X0.here hx rfl (hb hby dqN_1) rfl (l' := #[(vr b), (vi 0), (vr t), (vi 0), (vi 4), (vi 0), .unset]) rfl ?_
  refine XS.iload X0.here hx rfl (hb hby dqN_3) rfl ?_
  refine XS.iload X0.here hx rfl (hb hby dqN_5) rfl ?_
  refine XS.icmpNo X0.here hx rfl (hb hby dqN_7) rfl (tlt (by decide)).2.1 ?_
  refine XS.aloadN X0.here hx rfl (hb hby dqN_10) rfl rfl ?_
  refine XS.iloadN X0.here hx rfl (hb hby dqN_11) rfl ?_
  exact hq)
 obtain ⟨cl2, Ar2, -, S2, -, G2, -⟩ := id P0
 have hi2 := inb_of (j := (0 : Int32)) S2 ⟨by decide, by decide⟩
 have st2 := fun tt => X0.caload hx (j := (0 : Int32)) (v := (.int d0)) (by rw [e0]; exact Ar2.1) (State.isArrayOf_alike hZ.alike Ar2.2.1) Ar2.2.2 hi2 (G2.at hi2 rfl) (g := (mkF m 12 #[(vr b), (vi 0), (vr t), (vi 0), (vi 4), (vi 0), .unset] [(.int 0), (.ref b)])) rfl rfl (hb hby dqN_12) tt
 have k2 : AtQ p e below S0 s₁ m 13 #[(vr b), (vi 0), (vr t), (vi 0), (vi 4), (vi 0), .unset] [(.int d0)] := fun tt hq => k1 tt (st2 tt hq)
 have k3 : AtQ p e below S0 s₁ m 31 #[(vr b), (vi 0), (vr t), (vi 0), (vi 4), (vi 0), (vi d0)] [(.int (d0.toInt8.toInt32)), (.int 0), (.ref t)] := fun tt hq => k2 tt (by
  refine XS.istore X0.here hx rfl (hb hby dqN_13) rfl (l' := #[(vr b), (vi 0), (vr t), (vi 0), (vi 4), (vi 0), (vi d0)]) rfl ?_
  refine XS.iload X0.here hx rfl (hb hby dqN_15) rfl ?_
  refine XS.sipush X0.here hx rfl (hb hby dqN_17) ?_
  refine XS.icmpYes X0.here hx rfl (pc0 := 20) (pc' := 26) rfl (hb hby dqN_20) rfl (flt hd0).2.2.2 (by decide) (by decide) ?_
  refine XS.aloadN X0.here hx rfl (hb hby dqN_26) rfl rfl ?_
  refine XS.iloadN X0.here hx rfl (hb hby dqN_27) rfl ?_
  refine XS.iload X0.here hx rfl (hb hby dqN_28) rfl ?_
  refine XS.i2b X0.here hx rfl (hb hby dqN_30) rfl ?_
  exact hq)
 obtain ⟨cl4, Ar4, q4, S4, M4, G4, J4⟩ := id P1
 obtain ⟨T4, h4, X4, e4, W4, st4⟩ := stB X0 hx hZ e0 Ar4 (j := (0 : Int32)) (inb_of S4 (⟨by decide, by decide⟩)) (g := (mkF m 31 #[(vr b), (vi 0), (vr t), (vi 0), (vi 4), (vi 0), (vi d0)] [(.int (d0.toInt8.toInt32)), (.int 0), (.ref t)])) rfl rfl (hb hby dqN_31)
 have k4 : AtQ p e below S0 T4 m 32 #[(vr b), (vi 0), (vr t), (vi 0), (vi 4), (vi 0), (vi d0)] [] := fun tt hq => k3 tt (st4 tt hq)
 have z4 : h4.size = h0.size := W4.size
 have V4 : Arv Z h4 t kt .byte (4 : Int32) [(.int (nar .byte (d0.toInt8.toInt32))), (.int 0), (.int 0), (.int 0)] (.int 0) := Arv.set Ar4 q4 S4 M4 G4 J4 (fits_nar_byte _) W4 0 rfl (Nat.le_of_ble_eq_true rfl)
 have N4 := Fr.snoc X4 N0 (by omega : n0 ≤ t)
 have f5 : Arv Z h4 b kb .char (4 : Int32) [(.int d0), (.int d1), (.int d2), (.int d3)] (.int 0) := (P0.other W4 (adr_ne (by omega)))
 have k6 : AtQ p e below S0 T4 m 12 #[(vr b), (vi 1), (vr t), (vi 1), (vi 4), (vi 1), (vi d0)] [(.int 1), (.ref b)] := fun tt hq => k4 tt (by
  refine XS.iinc X4.here hx rfl (hb hby dqN_32) rfl (l' := #[(vr b), (vi 1), (vr t), (vi 0), (vi 4), (vi 0), (vi d0)]) rfl ?_
  refine XS.iinc X4.here hx rfl (hb hby dqN_35) rfl (l' := #[(vr b), (vi 1), (vr t), (vi 1), (vi 4), (vi 0), (vi d0)]) rfl ?_
  refine XS.iinc X4.here hx rfl (hb hby dqN_38) rfl (l' := #[(vr b), (vi 1), (vr t), (vi 1), (vi 4), (vi 1), (vi d0)]) rfl ?_
  refine XS.goto X4.here hx rfl (pc0 := 41) (pc' := 3) rfl (hb hby dqN_41) (by decide) (by decide) ?_
  refine XS.iload X4.here hx rfl (hb hby dqN_3) rfl ?_
  refine XS.iload X4.here hx rfl (hb hby dqN_5) rfl ?_
  refine XS.icmpNo X4.here hx rfl (hb hby dqN_7) rfl (tlt (by decide)).2.1 ?_
  refine XS.aloadN X4.here hx rfl (hb hby dqN_10) rfl rfl ?_
  refine XS.iloadN X4.here hx rfl (hb hby dqN_11) rfl ?_
  exact hq)
 obtain ⟨cl7, Ar7, -, S7, -, G7, -⟩ := id f5
 have hi7 := inb_of (j := (1 : Int32)) S7 ⟨by decide, by decide⟩
 have st7 := fun tt => X4.caload hx (j := (1 : Int32)) (v := (.int d1)) (by rw [e4]; exact Ar7.1) (State.isArrayOf_alike hZ.alike Ar7.2.1) Ar7.2.2 hi7 (G7.at hi7 rfl) (g := (mkF m 12 #[(vr b), (vi 1), (vr t), (vi 1), (vi 4), (vi 1), (vi d0)] [(.int 1), (.ref b)])) rfl rfl (hb hby dqN_12) tt
 have k7 : AtQ p e below S0 T4 m 13 #[(vr b), (vi 1), (vr t), (vi 1), (vi 4), (vi 1), (vi d0)] [(.int d1)] := fun tt hq => k6 tt (st7 tt hq)
 have k8 : AtQ p e below S0 T4 m 31 #[(vr b), (vi 1), (vr t), (vi 1), (vi 4), (vi 1), (vi d1)] [(.int (d1.toInt8.toInt32)), (.int 1), (.ref t)] := fun tt hq => k7 tt (by
  refine XS.istore X4.here hx rfl (hb hby dqN_13) rfl (l' := #[(vr b), (vi 1), (vr t), (vi 1), (vi 4), (vi 1), (vi d1)]) rfl ?_
  refine XS.iload X4.here hx rfl (hb hby dqN_15) rfl ?_
  refine XS.sipush X4.here hx rfl (hb hby dqN_17) ?_
  refine XS.icmpYes X4.here hx rfl (pc0 := 20) (pc' := 26) rfl (hb hby dqN_20) rfl (flt hd1).2.2.2 (by decide) (by decide) ?_
  refine XS.aloadN X4.here hx rfl (hb hby dqN_26) rfl rfl ?_
  refine XS.iloadN X4.here hx rfl (hb hby dqN_27) rfl ?_
  refine XS.iload X4.here hx rfl (hb hby dqN_28) rfl ?_
  refine XS.i2b X4.here hx rfl (hb hby dqN_30) rfl ?_
  exact hq)
 obtain ⟨cl9, Ar9, q9, S9, M9, G9, J9⟩ := id V4
 obtain ⟨T9, h9, X9, e9, W9, st9⟩ := stB X4 hx hZ e4 Ar9 (j := (1 : Int32)) (inb_of S9 (⟨by decide, by decide⟩)) (g := (mkF m 31 #[(vr b), (vi 1), (vr t), (vi 1), (vi 4), (vi 1), (vi d1)] [(.int (d1.toInt8.toInt32)), (.int 1), (.ref t)])) rfl rfl (hb hby dqN_31)
 have k9 : AtQ p e below S0 T9 m 32 #[(vr b), (vi 1), (vr t), (vi 1), (vi 4), (vi 1), (vi d1)] [] := fun tt hq => k8 tt (st9 tt hq)
 have z9 : h9.size = h4.size := W9.size
 have V9 : Arv Z h9 t kt .byte (4 : Int32) [(.int (nar .byte (d0.toInt8.toInt32))), (.int (nar .byte (d1.toInt8.toInt32))), (.int 0), (.int 0)] (.int 0) := Arv.set Ar9 q9 S9 M9 G9 J9 (fits_nar_byte _) W9 1 rfl (Nat.le_of_ble_eq_true rfl)
 have N9 := Fr.snoc X9 N4 (by omega : n0 ≤ t)
 have f10 : Arv Z h9 b kb .char (4 : Int32) [(.int d0), (.int d1), (.int d2), (.int d3)] (.int 0) := (f5.other W9 (adr_ne (by omega)))
 have k11 : AtQ p e below S0 T9 m 12 #[(vr b), (vi 2), (vr t), (vi 2), (vi 4), (vi 2), (vi d1)] [(.int 2), (.ref b)] := fun tt hq => k9 tt (by
  refine XS.iinc X9.here hx rfl (hb hby dqN_32) rfl (l' := #[(vr b), (vi 2), (vr t), (vi 1), (vi 4), (vi 1), (vi d1)]) rfl ?_
  refine XS.iinc X9.here hx rfl (hb hby dqN_35) rfl (l' := #[(vr b), (vi 2), (vr t), (vi 2), (vi 4), (vi 1), (vi d1)]) rfl ?_
  refine XS.iinc X9.here hx rfl (hb hby dqN_38) rfl (l' := #[(vr b), (vi 2), (vr t), (vi 2), (vi 4), (vi 2), (vi d1)]) rfl ?_
  refine XS.goto X9.here hx rfl (pc0 := 41) (pc' := 3) rfl (hb hby dqN_41) (by decide) (by decide) ?_
  refine XS.iload X9.here hx rfl (hb hby dqN_3) rfl ?_
  refine XS.iload X9.here hx rfl (hb hby dqN_5) rfl ?_
  refine XS.icmpNo X9.here hx rfl (hb hby dqN_7) rfl (tlt (by decide)).2.1 ?_
  refine XS.aloadN X9.here hx rfl (hb hby dqN_10) rfl rfl ?_
  refine XS.iloadN X9.here hx rfl (hb hby dqN_11) rfl ?_
  exact hq)
 obtain ⟨cl12, Ar12, -, S12, -, G12, -⟩ := id f10
 have hi12 := inb_of (j := (2 : Int32)) S12 ⟨by decide, by decide⟩
 have st12 := fun tt => X9.caload hx (j := (2 : Int32)) (v := (.int d2)) (by rw [e9]; exact Ar12.1) (State.isArrayOf_alike hZ.alike Ar12.2.1) Ar12.2.2 hi12 (G12.at hi12 rfl) (g := (mkF m 12 #[(vr b), (vi 2), (vr t), (vi 2), (vi 4), (vi 2), (vi d1)] [(.int 2), (.ref b)])) rfl rfl (hb hby dqN_12) tt
 have k12 : AtQ p e below S0 T9 m 13 #[(vr b), (vi 2), (vr t), (vi 2), (vi 4), (vi 2), (vi d1)] [(.int d2)] := fun tt hq => k11 tt (st12 tt hq)
 have k13 : AtQ p e below S0 T9 m 25 #[(vr b), (vi 2), (vr t), (vi 2), (vi 4), (vi 2), (vi d2)] [(.int 2)] := fun tt hq => k12 tt (by
  refine XS.istore X9.here hx rfl (hb hby dqN_13) rfl (l' := #[(vr b), (vi 2), (vr t), (vi 2), (vi 4), (vi 2), (vi d2)]) rfl ?_
  refine XS.iload X9.here hx rfl (hb hby dqN_15) rfl ?_
  refine XS.sipush X9.here hx rfl (hb hby dqN_17) ?_
  refine XS.icmpNo X9.here hx rfl (hb hby dqN_20) rfl (tlt hd2).2.2.2 ?_
  refine XS.iload X9.here hx rfl (hb hby dqN_23) rfl ?_
  exact hq)
 have hE := e9
 refine retInt X9 hx hret hlk (by simp) rfl (hb hby dqN_25) k13 ?_ (by decide) (by decide)
 try rw [hE]
 exact ⟨rfl, N9, (((Keep.refl h0 [t]).wr W4 (Or.inl (by simp))).wr W9 (Or.inl (by simp))), V9⟩
theorem rm_nbl4 (l : Launch) (Z : State) (a0 : Array Value) (hw : ∀ d ∈ tables_1, d.before a0 Z = true)  (h0 : Heap) (n0 : Nat) (hn0 : n0 ≤ h0.size)  :
  Con l Z yqS jdk_52_method_3_code 1 (some .int) [] rqA #[(.int 4)] h0 (fun v h L => v = some (.int 8) ∧ Fr n0 L ∧ h = h0) := by
 refine enter (Ls := #[(vi 4)]) (plainFor_of_name pn_0) (fun m => by exact entry_eq rfl) ?_
 intro p e s m below meth cd_ s₁ S0 hx hby hml hret hlk hnm hown hZ X0 e0 k0
 have N0 := Fr.nil n0
 have k1 : AtQ p e below S0 s₁ m 58 #[(vi 4)] [(.int 8)] := fun tt hq => k0 tt (by
  refine XS.iloadN X0.here hx rfl (hb hby dqP_0) rfl ?_
  refine XS.ifYes X0.here hx rfl (pc0 := 1) (pc' := 12) rfl (hb hby dqP_1) rfl ((if0 _ _).trans (flt (by decide)).2.1) (by decide) (by decide) ?_
  refine XS.iloadN X0.here hx rfl (hb hby dqP_12) rfl ?_
  refine X0.ldcInt hx hown (mvT hZ (wq hw 49 rfl)) (g := (mkF m 13 #[(vi 4)] [(.int 4)])) rfl (hb hby dqP_13) _ ?_
  refine XS.icmpYes X0.here hx rfl (pc0 := 15) (pc' := 55) rfl (hb hby dqP_15) rfl (tlt (by decide)).1 (by decide) (by decide) ?_
  refine XS.iloadN X0.here hx rfl (hb hby dqP_55) rfl ?_
  refine XS.iconst X0.here hx rfl (hb hby dqP_56) ?_
  refine XS.ishl X0.here hx rfl (hb hby dqP_57) rfl ?_
  exact hq)
 have hE := e0
 refine retInt X0 hx hret hlk (by simp) rfl (hb hby dqP_58) k1 ?_ (by decide) (by decide)
 try rw [hE]
 exact ⟨rfl, N0, rfl⟩
theorem rm_nbf4 (l : Launch) (Z : State) (a0 : Array Value) (hw : ∀ d ∈ tables_1, d.before a0 Z = true)  (h0 : Heap) (n0 : Nat) (hn0 : n0 ≤ h0.size)  :
  Con l Z yqT jdk_52_method_2_code 1 (some (.array .byte)) [] rqS #[(.int 4)] h0 (fun v h L => ∃ (t : Addr) (k : ClassId), v = some (.ref t) ∧ Fr n0 L ∧ h0.size ≤ t ∧ Keep h0 h [] ∧ Arv Z h t k .byte (8 : Int32) [(.int 0), (.int 0), (.int 0), (.int 0), (.int 0), (.int 0), (.int 0), (.int 0)] (.int 0)) := by
 refine enter (Ls := #[(vi 4)]) (plainFor_of_name pn_0) (fun m => by exact entry_eq rfl) ?_
 intro p e s m below meth cd_ s₁ S0 hx hby hml hret hlk hnm hown hZ X0 e0 k0
 have N0 := Fr.nil n0
 have k1 : AtQ p e below S0 s₁ m 1 #[(vi 4)] [(.int 4)] := fun tt hq => k0 tt (by
  refine XS.iloadN X0.here hx rfl (hb hby dqO_0) rfl ?_
  exact hq)
 obtain ⟨_, T2, L2, X2, ⟨rfl, Nq2, eq2⟩, k2a⟩ := callS' X0 hx hZ (y := yqS) hown (wq hw 46 rfl) (wq hw 47 rfl) (wq hw 35 rfl) (wq hw 48 rfl) (by decide) (backC (W := 0) (rm_nbl4 l Z a0 hw h0 n0 (by omega)) hZ (wq hw 48 rfl) (wq hw 35 rfl) (by decide) (by decide)) e0 (argsL := [(.int 4)]) (rest := []) rfl rfl pd_13 rfl (by rw [hml]; rfl) (hb hby dqO_1) (Nat.le_of_eq rfl) (by decide) (by decide) k1
 have k2 : AtQ p e below S0 T2 m 4 #[(vi 4)] [(.int 8)] := k2a
 have N2 := N0.app Nq2
 have e2 : T2.heap = h0 := eq2
 obtain ⟨T3, h3, c3, X3, e3, E3, A3, st3⟩ := newP X2 hx hZ (wq hw 16 rfl) e2 (g := (mkF m 4 #[(vi 4)] [(.int 8)])) rfl (hb hby dqO_4) rfl (by decide) (cap := 8) (by decide) (by decide) (by decide) (by decide)
 obtain ⟨b3, g3⟩ : ∃ z, z = h0.size := ⟨_, rfl⟩
 rw [← g3] at A3 st3
 have k3 : AtQ p e below S0 T3 m 6 #[(vi 4)] [(.ref b3)] := fun tt hq => k2 tt (st3 tt hq)
 have z3 : h0.size ≤ h3.size := E3.1
 have V3 : Arv Z h3 b3 c3 .byte (8 : Int32) [(.int 0), (.int 0), (.int 0), (.int 0), (.int 0), (.int 0), (.int 0), (.int 0)] (.int 0) := (Arv.new A3 (by decide)).pad (pad_rep [] (.int 0) 8)
 have y3 : @LT.lt Nat instLTNat b3 h3.size := V3.lt
 have hE := e3
 refine retRef X3 hx hret hlk rfl rfl (hb hby dqO_6) k3 ?_ (by decide) (by decide)
 try rw [hE]
 exact ⟨b3, _, rfl, N2, (by omega), ((Keep.refl h0 []).ext E3), V3⟩
theorem rm_tb4 (l : Launch) (Z : State) (a0 : Array Value) (hw : ∀ d ∈ tables_1, d.before a0 Z = true) (b : Addr) (kb : ClassId) (d0 : Int32) (d1 : Int32) (d2 : Int32) (d3 : Int32) (h0 : Heap) (n0 : Nat) (hn0 : n0 ≤ h0.size) (S_ad : Sta Z Z.heap "java/lang/StringUTF16" "$assertionsDisabled" "Z" (.int 1)) (S_hi : Sta Z Z.heap "java/lang/StringUTF16" "HI_BYTE_SHIFT" "I" (.int 0)) (S_lo : Sta Z Z.heap "java/lang/StringUTF16" "LO_BYTE_SHIFT" "I" (.int 8)) (O0 : Old Z n0 h0) (P0 : Arv Z h0 b kb .char (4 : Int32) [(.int d0), (.int d1), (.int d2), (.int d3)] (.int 0)) (yb : @LT.lt Nat instLTNat b h0.size) :
  Con l Z yqV jdk_52_method_14_code 5 (some (.array .byte)) [] rqT #[(.ref b), (.int 0), (.int 4)] h0 (fun v h L => ∃ (t : Addr) (k : ClassId), v = some (.ref t) ∧ Fr n0 L ∧ h0.size ≤ t ∧ Keep h0 h [] ∧ Arv Z h t k .byte (8 : Int32) [(.int (ulo d0)), (.int (uhi d0)), (.int (ulo d1)), (.int (uhi d1)), (.int (ulo d2)), (.int (uhi d2)), (.int (ulo d3)), (.int (uhi d3))] (.int 0)) := by
 refine enter (Ls := #[(vr b), (vi 0), (vi 4), .unset, .unset]) (plainFor_of_name pn_0) (fun m => by exact entry_eq rfl) ?_
 intro p e s m below meth cd_ s₁ S0 hx hby hml hret hlk hnm hown hZ X0 e0 k0
 have N0 := Fr.nil n0
 have k1 : AtQ p e below S0 s₁ m 1 #[(vr b), (vi 0), (vi 4), .unset, .unset] [(.int 4)] := fun tt hq => k0 tt (by
  refine XS.iloadN X0.here hx rfl (hb hby dqK_0) rfl ?_
  exact hq)
 obtain ⟨_, T2, L2, X2, ⟨t2, kt2, rfl, Nq2, gt2, Kq2, V2⟩, k2a⟩ := callS' X0 hx hZ (y := yqT) hown (wq hw 43 rfl) (wq hw 44 rfl) (wq hw 35 rfl) (wq hw 45 rfl) (by decide) (backC (W := 0) (rm_nbf4 l Z a0 hw h0 n0 (by omega)) hZ (wq hw 45 rfl) (wq hw 35 rfl) (by decide) (by decide)) e0 (argsL := [(.int 4)]) (rest := []) rfl rfl pd_14 rfl (by rw [hml]; rfl) (hb hby dqK_1) (Nat.le_of_eq rfl) (by decide) (by decide) k1
 have k2 : AtQ p e below S0 T2 m 4 #[(vr b), (vi 0), (vi 4), .unset, .unset] [(.ref t2)] := k2a
 have N2 := N0.app Nq2
 obtain ⟨h2, e2⟩ : ∃ z, T2.heap = z := ⟨_, rfl⟩
 rw [e2] at Kq2 V2
 have z2 : h0.size ≤ h2.size := Kq2.1
 have y2 : @LT.lt Nat instLTNat t2 h2.size := V2.lt
 have f3 : Arv Z h2 b kb .char (4 : Int32) [(.int d0), (.int d1), (.int d2), (.int d3)] (.int 0) := (P0.keep Kq2 nin0)
 have k4 : AtQ p e below S0 T2 m 19 #[(vr b), (vi 0), (vi 4), (vr t2), (vi 0)] [(.int 0), (.ref b), (.int 0), (.ref t2)] := fun tt hq => k2 tt (by
  refine XS.astoreN X2.here hx rfl (hb hby dqK_4) rfl rfl (l' := #[(vr b), (vi 0), (vi 4), (vr t2), .unset]) rfl ?_
  refine XS.iconst X2.here hx rfl (hb hby dqK_5) ?_
  refine XS.istore X2.here hx rfl (hb hby dqK_6) rfl (l' := #[(vr b), (vi 0), (vi 4), (vr t2), (vi 0)]) rfl ?_
  refine XS.iload X2.here hx rfl (hb hby dqK_8) rfl ?_
  refine XS.iloadN X2.here hx rfl (hb hby dqK_10) rfl ?_
  refine XS.icmpNo X2.here hx rfl (hb hby dqK_11) rfl (tlt (by decide)).2.1 ?_
  refine XS.aloadN X2.here hx rfl (hb hby dqK_14) rfl rfl ?_
  refine XS.iload X2.here hx rfl (hb hby dqK_15) rfl ?_
  refine XS.aloadN X2.here hx rfl (hb hby dqK_17) rfl rfl ?_
  refine XS.iloadN X2.here hx rfl (hb hby dqK_18) rfl ?_
  exact hq)
 obtain ⟨cl5, Ar5, -, S5, -, G5, -⟩ := id f3
 have hi5 := inb_of (j := (0 : Int32)) S5 ⟨by decide, by decide⟩
 have st5 := fun tt => X2.caload hx (j := (0 : Int32)) (v := (.int d0)) (by rw [e2]; exact Ar5.1) (State.isArrayOf_alike hZ.alike Ar5.2.1) Ar5.2.2 hi5 (G5.at hi5 rfl) (g := (mkF m 19 #[(vr b), (vi 0), (vi 4), (vr t2), (vi 0)] [(.int 0), (.ref b), (.int 0), (.ref t2)])) rfl rfl (hb hby dqK_19) tt
 have k5 : AtQ p e below S0 T2 m 20 #[(vr b), (vi 0), (vi 4), (vr t2), (vi 0)] [(.int d0), (.int 0), (.ref t2)] := fun tt hq => k4 tt (st5 tt hq)
 have f6 : Old Z n0 h2 := (O0.keep Kq2 all0)
 obtain ⟨_, T7, L7, X7, ⟨rfl, Nq7, Kq7, V7⟩, k7a⟩ := callS' X2 hx hZ (y := yqU) hown (wq hw 50 rfl) (wq hw 51 rfl) (wq hw 35 rfl) (wq hw 52 rfl) (by decide) (backC (W := 0) (rm_put l Z a0 hw t2 kt2 (8 : Int32) _ (0 : Int32) (0 : Int32) 0 1 d0 [(.int (ulo d0)), (.int (uhi d0)), (.int 0), (.int 0), (.int 0), (.int 0), (.int 0), (.int 0)] h2 n0 (by omega) S_ad S_hi S_lo f6 V2 (by omega) (by decide) (by decide) (by decide) (by decide) (by decide) (Nat.le_of_ble_eq_true rfl) (Nat.le_of_ble_eq_true rfl) rfl) hZ (wq hw 52 rfl) (wq hw 35 rfl) (by decide) (by decide)) e2 (argsL := [(.ref t2), (.int 0), (.int d0)]) (rest := []) rfl rfl pd_15 rfl (by rw [hml]; rfl) (hb hby dqK_20) (Nat.le_of_eq rfl) (by decide) (by decide) k5
 have k7 : AtQ p e below S0 T7 m 23 #[(vr b), (vi 0), (vi 4), (vr t2), (vi 0)] [] := k7a
 have N7 := N2.app Nq7
 obtain ⟨h7, e7⟩ : ∃ z, T7.heap = z := ⟨_, rfl⟩
 rw [e7] at Kq7 V7
 have z7 : h2.size ≤ h7.size := Kq7.1
 have f8 : Arv Z h7 b kb .char (4 : Int32) [(.int d0), (.int d1), (.int d2), (.int d3)] (.int 0) := (f3.keep Kq7 (nin1 (by omega)))
 have k9 : AtQ p e below S0 T7 m 19 #[(vr b), (vi 1), (vi 4), (vr t2), (vi 1)] [(.int 1), (.ref b), (.int 1), (.ref t2)] := fun tt hq => k7 tt (by
  refine XS.iinc X7.here hx rfl (hb hby dqK_23) rfl (l' := #[(vr b), (vi 1), (vi 4), (vr t2), (vi 0)]) rfl ?_
  refine XS.iinc X7.here hx rfl (hb hby dqK_26) rfl (l' := #[(vr b), (vi 1), (vi 4), (vr t2), (vi 1)]) rfl ?_
  refine XS.goto X7.here hx rfl (pc0 := 29) (pc' := 8) rfl (hb hby dqK_29) (by decide) (by decide) ?_
  refine XS.iload X7.here hx rfl (hb hby dqK_8) rfl ?_
  refine XS.iloadN X7.here hx rfl (hb hby dqK_10) rfl ?_
  refine XS.icmpNo X7.here hx rfl (hb hby dqK_11) rfl (tlt (by decide)).2.1 ?_
  refine XS.aloadN X7.here hx rfl (hb hby dqK_14) rfl rfl ?_
  refine XS.iload X7.here hx rfl (hb hby dqK_15) rfl ?_
  refine XS.aloadN X7.here hx rfl (hb hby dqK_17) rfl rfl ?_
  refine XS.iloadN X7.here hx rfl (hb hby dqK_18) rfl ?_
  exact hq)
 obtain ⟨cl10, Ar10, -, S10, -, G10, -⟩ := id f8
 have hi10 := inb_of (j := (1 : Int32)) S10 ⟨by decide, by decide⟩
 have st10 := fun tt => X7.caload hx (j := (1 : Int32)) (v := (.int d1)) (by rw [e7]; exact Ar10.1) (State.isArrayOf_alike hZ.alike Ar10.2.1) Ar10.2.2 hi10 (G10.at hi10 rfl) (g := (mkF m 19 #[(vr b), (vi 1), (vi 4), (vr t2), (vi 1)] [(.int 1), (.ref b), (.int 1), (.ref t2)])) rfl rfl (hb hby dqK_19) tt
 have k10 : AtQ p e below S0 T7 m 20 #[(vr b), (vi 1), (vi 4), (vr t2), (vi 1)] [(.int d1), (.int 1), (.ref t2)] := fun tt hq => k9 tt (st10 tt hq)
 have f11 : Old Z n0 h7 := (f6.keep Kq7 (allS (by omega) all0))
 obtain ⟨_, T12, L12, X12, ⟨rfl, Nq12, Kq12, V12⟩, k12a⟩ := callS' X7 hx hZ (y := yqU) hown (wq hw 50 rfl) (wq hw 51 rfl) (wq hw 35 rfl) (wq hw 52 rfl) (by decide) (backC (W := 0) (rm_put l Z a0 hw t2 kt2 (8 : Int32) _ (1 : Int32) (2 : Int32) 2 3 d1 [(.int (ulo d0)), (.int (uhi d0)), (.int (ulo d1)), (.int (uhi d1)), (.int 0), (.int 0), (.int 0), (.int 0)] h7 n0 (by omega) S_ad S_hi S_lo f11 V7 (by omega) (by decide) (by decide) (by decide) (by decide) (by decide) (Nat.le_of_ble_eq_true rfl) (Nat.le_of_ble_eq_true rfl) rfl) hZ (wq hw 52 rfl) (wq hw 35 rfl) (by decide) (by decide)) e7 (argsL := [(.ref t2), (.int 1), (.int d1)]) (rest := []) rfl rfl pd_15 rfl (by rw [hml]; rfl) (hb hby dqK_20) (Nat.le_of_eq rfl) (by decide) (by decide) k10
 have k12 : AtQ p e below S0 T12 m 23 #[(vr b), (vi 1), (vi 4), (vr t2), (vi 1)] [] := k12a
 have N12 := N7.app Nq12
 obtain ⟨h12, e12⟩ : ∃ z, T12.heap = z := ⟨_, rfl⟩
 rw [e12] at Kq12 V12
 have z12 : h7.size ≤ h12.size := Kq12.1
 have f13 : Arv Z h12 b kb .char (4 : Int32) [(.int d0), (.int d1), (.int d2), (.int d3)] (.int 0) := (f8.keep Kq12 (nin1 (by omega)))
 have k14 : AtQ p e below S0 T12 m 19 #[(vr b), (vi 2), (vi 4), (vr t2), (vi 2)] [(.int 2), (.ref b), (.int 2), (.ref t2)] := fun tt hq => k12 tt (by
  refine XS.iinc X12.here hx rfl (hb hby dqK_23) rfl (l' := #[(vr b), (vi 2), (vi 4), (vr t2), (vi 1)]) rfl ?_
  refine XS.iinc X12.here hx rfl (hb hby dqK_26) rfl (l' := #[(vr b), (vi 2), (vi 4), (vr t2), (vi 2)]) rfl ?_
  refine XS.goto X12.here hx rfl (pc0 := 29) (pc' := 8) rfl (hb hby dqK_29) (by decide) (by decide) ?_
  refine XS.iload X12.here hx rfl (hb hby dqK_8) rfl ?_
  refine XS.iloadN X12.here hx rfl (hb hby dqK_10) rfl ?_
  refine XS.icmpNo X12.here hx rfl (hb hby dqK_11) rfl (tlt (by decide)).2.1 ?_
  refine XS.aloadN X12.here hx rfl (hb hby dqK_14) rfl rfl ?_
  refine XS.iload X12.here hx rfl (hb hby dqK_15) rfl ?_
  refine XS.aloadN X12.here hx rfl (hb hby dqK_17) rfl rfl ?_
  refine XS.iloadN X12.here hx rfl (hb hby dqK_18) rfl ?_
  exact hq)
 obtain ⟨cl15, Ar15, -, S15, -, G15, -⟩ := id f13
 have hi15 := inb_of (j := (2 : Int32)) S15 ⟨by decide, by decide⟩
 have st15 := fun tt => X12.caload hx (j := (2 : Int32)) (v := (.int d2)) (by rw [e12]; exact Ar15.1) (State.isArrayOf_alike hZ.alike Ar15.2.1) Ar15.2.2 hi15 (G15.at hi15 rfl) (g := (mkF m 19 #[(vr b), (vi 2), (vi 4), (vr t2), (vi 2)] [(.int 2), (.ref b), (.int 2), (.ref t2)])) rfl rfl (hb hby dqK_19) tt
 have k15 : AtQ p e below S0 T12 m 20 #[(vr b), (vi 2), (vi 4), (vr t2), (vi 2)] [(.int d2), (.int 2), (.ref t2)] := fun tt hq => k14 tt (st15 tt hq)
 have f16 : Old Z n0 h12 := (f11.keep Kq12 (allS (by omega) all0))
 obtain ⟨_, T17, L17, X17, ⟨rfl, Nq17, Kq17, V17⟩, k17a⟩ := callS' X12 hx hZ (y := yqU) hown (wq hw 50 rfl) (wq hw 51 rfl) (wq hw 35 rfl) (wq hw 52 rfl) (by decide) (backC (W := 0) (rm_put l Z a0 hw t2 kt2 (8 : Int32) _ (2 : Int32) (4 : Int32) 4 5 d2 [(.int (ulo d0)), (.int (uhi d0)), (.int (ulo d1)), (.int (uhi d1)), (.int (ulo d2)), (.int (uhi d2)), (.int 0), (.int 0)] h12 n0 (by omega) S_ad S_hi S_lo f16 V12 (by omega) (by decide) (by decide) (by decide) (by decide) (by decide) (Nat.le_of_ble_eq_true rfl) (Nat.le_of_ble_eq_true rfl) rfl) hZ (wq hw 52 rfl) (wq hw 35 rfl) (by decide) (by decide)) e12 (argsL := [(.ref t2), (.int 2), (.int d2)]) (rest := []) rfl rfl pd_15 rfl (by rw [hml]; rfl) (hb hby dqK_20) (Nat.le_of_eq rfl) (by decide) (by decide) k15
 have k17 : AtQ p e below S0 T17 m 23 #[(vr b), (vi 2), (vi 4), (vr t2), (vi 2)] [] := k17a
 have N17 := N12.app Nq17
 obtain ⟨h17, e17⟩ : ∃ z, T17.heap = z := ⟨_, rfl⟩
 rw [e17] at Kq17 V17
 have z17 : h12.size ≤ h17.size := Kq17.1
 have f18 : Arv Z h17 b kb .char (4 : Int32) [(.int d0), (.int d1), (.int d2), (.int d3)] (.int 0) := (f13.keep Kq17 (nin1 (by omega)))
 have k19 : AtQ p e below S0 T17 m 19 #[(vr b), (vi 3), (vi 4), (vr t2), (vi 3)] [(.int 3), (.ref b), (.int 3), (.ref t2)] := fun tt hq => k17 tt (by
  refine XS.iinc X17.here hx rfl (hb hby dqK_23) rfl (l' := #[(vr b), (vi 3), (vi 4), (vr t2), (vi 2)]) rfl ?_
  refine XS.iinc X17.here hx rfl (hb hby dqK_26) rfl (l' := #[(vr b), (vi 3), (vi 4), (vr t2), (vi 3)]) rfl ?_
  refine XS.goto X17.here hx rfl (pc0 := 29) (pc' := 8) rfl (hb hby dqK_29) (by decide) (by decide) ?_
  refine XS.iload X17.here hx rfl (hb hby dqK_8) rfl ?_
  refine XS.iloadN X17.here hx rfl (hb hby dqK_10) rfl ?_
  refine XS.icmpNo X17.here hx rfl (hb hby dqK_11) rfl (tlt (by decide)).2.1 ?_
  refine XS.aloadN X17.here hx rfl (hb hby dqK_14) rfl rfl ?_
  refine XS.iload X17.here hx rfl (hb hby dqK_15) rfl ?_
  refine XS.aloadN X17.here hx rfl (hb hby dqK_17) rfl rfl ?_
  refine XS.iloadN X17.here hx rfl (hb hby dqK_18) rfl ?_
  exact hq)
 obtain ⟨cl20, Ar20, -, S20, -, G20, -⟩ := id f18
 have hi20 := inb_of (j := (3 : Int32)) S20 ⟨by decide, by decide⟩
 have st20 := fun tt => X17.caload hx (j := (3 : Int32)) (v := (.int d3)) (by rw [e17]; exact Ar20.1) (State.isArrayOf_alike hZ.alike Ar20.2.1) Ar20.2.2 hi20 (G20.at hi20 rfl) (g := (mkF m 19 #[(vr b), (vi 3), (vi 4), (vr t2), (vi 3)] [(.int 3), (.ref b), (.int 3), (.ref t2)])) rfl rfl (hb hby dqK_19) tt
 have k20 : AtQ p e below S0 T17 m 20 #[(vr b), (vi 3), (vi 4), (vr t2), (vi 3)] [(.int d3), (.int 3), (.ref t2)] := fun tt hq => k19 tt (st20 tt hq)
 have f21 : Old Z n0 h17 := (f16.keep Kq17 (allS (by omega) all0))
 obtain ⟨_, T22, L22, X22, ⟨rfl, Nq22, Kq22, V22⟩, k22a⟩ := callS' X17 hx hZ (y := yqU) hown (wq hw 50 rfl) (wq hw 51 rfl) (wq hw 35 rfl) (wq hw 52 rfl) (by decide) (backC (W := 0) (rm_put l Z a0 hw t2 kt2 (8 : Int32) _ (3 : Int32) (6 : Int32) 6 7 d3 [(.int (ulo d0)), (.int (uhi d0)), (.int (ulo d1)), (.int (uhi d1)), (.int (ulo d2)), (.int (uhi d2)), (.int (ulo d3)), (.int (uhi d3))] h17 n0 (by omega) S_ad S_hi S_lo f21 V17 (by omega) (by decide) (by decide) (by decide) (by decide) (by decide) (Nat.le_of_ble_eq_true rfl) (Nat.le_of_ble_eq_true rfl) rfl) hZ (wq hw 52 rfl) (wq hw 35 rfl) (by decide) (by decide)) e17 (argsL := [(.ref t2), (.int 3), (.int d3)]) (rest := []) rfl rfl pd_15 rfl (by rw [hml]; rfl) (hb hby dqK_20) (Nat.le_of_eq rfl) (by decide) (by decide) k20
 have k22 : AtQ p e below S0 T22 m 23 #[(vr b), (vi 3), (vi 4), (vr t2), (vi 3)] [] := k22a
 have N22 := N17.app Nq22
 obtain ⟨h22, e22⟩ : ∃ z, T22.heap = z := ⟨_, rfl⟩
 rw [e22] at Kq22 V22
 have z22 : h17.size ≤ h22.size := Kq22.1
 have k23 : AtQ p e below S0 T22 m 33 #[(vr b), (vi 4), (vi 4), (vr t2), (vi 4)] [(.ref t2)] := fun tt hq => k22 tt (by
  refine XS.iinc X22.here hx rfl (hb hby dqK_23) rfl (l' := #[(vr b), (vi 4), (vi 4), (vr t2), (vi 3)]) rfl ?_
  refine XS.iinc X22.here hx rfl (hb hby dqK_26) rfl (l' := #[(vr b), (vi 4), (vi 4), (vr t2), (vi 4)]) rfl ?_
  refine XS.goto X22.here hx rfl (pc0 := 29) (pc' := 8) rfl (hb hby dqK_29) (by decide) (by decide) ?_
  refine XS.iload X22.here hx rfl (hb hby dqK_8) rfl ?_
  refine XS.iloadN X22.here hx rfl (hb hby dqK_10) rfl ?_
  refine XS.icmpYes X22.here hx rfl (pc0 := 11) (pc' := 32) rfl (hb hby dqK_11) rfl (flt (by decide)).2.1 (by decide) (by decide) ?_
  refine XS.aloadN X22.here hx rfl (hb hby dqK_32) rfl rfl ?_
  exact hq)
 have hE := e22
 refine retRef X22 hx hret hlk rfl rfl (hb hby dqK_33) k23 ?_ (by decide) (by decide)
 try rw [hE]
 exact ⟨t2, _, rfl, N22, (by omega), ((((((Keep.refl h0 []).trans Kq2 all0).trans Kq7 (allS (Or.inr (by omega)) all0)).trans Kq12 (allS (Or.inr (by omega)) all0)).trans Kq17 (allS (Or.inr (by omega)) all0)).trans Kq22 (allS (Or.inr (by omega)) all0)), V22⟩
theorem rm_c3_4_2 (l : Launch) (Z : State) (a0 : Array Value) (hw : ∀ d ∈ tables_1, d.before a0 Z = true) (b : Addr) (kb : ClassId) (d0 : Int32) (d1 : Int32) (d2 : Int32) (d3 : Int32) (h0 : Heap) (n0 : Nat) (hn0 : n0 ≤ h0.size) (S_ad : Sta Z Z.heap "java/lang/StringUTF16" "$assertionsDisabled" "Z" (.int 1)) (S_hi : Sta Z Z.heap "java/lang/StringUTF16" "HI_BYTE_SHIFT" "I" (.int 0)) (S_lo : Sta Z Z.heap "java/lang/StringUTF16" "LO_BYTE_SHIFT" "I" (.int 8)) (O0 : Old Z n0 h0) (P0 : Arv Z h0 b kb .char (4 : Int32) [(.int d0), (.int d1), (.int d2), (.int d3)] (.int 0)) (yb : @LT.lt Nat instLTNat b h0.size) (hd0 : ¬ (255 : Int32) < d0) (hd1 : ¬ (255 : Int32) < d1) (hd2 : (255 : Int32) < d2) (g0 : ¬ d2 < (0 : Int32)) (g1 : d2 < (65536 : Int32)) :
  Con l Z yqB jdk_52_method_16_code 6 (some (.array .byte)) [] rqB #[(.ref b), (.int 0), (.int 4)] h0 (fun v h L => ∃ (t : Addr) (k : ClassId), v = some (.ref t) ∧ Fr n0 L ∧ h0.size ≤ t ∧ Keep h0 h [] ∧ Arv Z h t k .byte (8 : Int32) [(.int (ulo d0)), (.int (uhi d0)), (.int (ulo d1)), (.int (uhi d1)), (.int (ulo d2)), (.int (uhi d2)), (.int (ulo d3)), (.int (uhi d3))] (.int 0)) := by
 refine enter (Ls := #[(vr b), (vi 0), (vi 4), .unset, .unset, .unset]) (plainFor_of_name pn_0) (fun m => by exact entry_eq rfl) ?_
 intro p e s m below meth cd_ s₁ S0 hx hby hml hret hlk hnm hown hZ X0 e0 k0
 have N0 := Fr.nil n0
 have k1 : AtQ p e below S0 s₁ m 1 #[(vr b), (vi 0), (vi 4), .unset, .unset, .unset] [(.int 4)] := fun tt hq => k0 tt (by
  refine XS.iloadN X0.here hx rfl (hb hby dqM_0) rfl ?_
  exact hq)
 obtain ⟨T2, h2, c2, X2, e2, E2, A2, st2⟩ := newP X0 hx hZ (wq hw 16 rfl) e0 (g := (mkF m 1 #[(vr b), (vi 0), (vi 4), .unset, .unset, .unset] [(.int 4)])) rfl (hb hby dqM_1) rfl (by decide) (cap := 4) (by decide) (by decide) (by decide) (by decide)
 obtain ⟨b2, g2⟩ : ∃ z, z = h0.size := ⟨_, rfl⟩
 rw [← g2] at A2 st2
 have k2 : AtQ p e below S0 T2 m 3 #[(vr b), (vi 0), (vi 4), .unset, .unset, .unset] [(.ref b2)] := fun tt hq => k1 tt (st2 tt hq)
 have z2 : h0.size ≤ h2.size := E2.1
 have V2 : Arv Z h2 b2 c2 .byte (4 : Int32) [(.int 0), (.int 0), (.int 0), (.int 0)] (.int 0) := (Arv.new A2 (by decide)).pad (pad_rep [] (.int 0) 4)
 have y2 : @LT.lt Nat instLTNat b2 h2.size := V2.lt
 have k3 : AtQ p e below S0 T2 m 9 #[(vr b), (vi 0), (vi 4), (vr b2), .unset, .unset] [(.int 4), (.int 0), (.ref b2), (.int 0), (.ref b)] := fun tt hq => k2 tt (by
  refine XS.astoreN X2.here hx rfl (hb hby dqM_3) rfl rfl (l' := #[(vr b), (vi 0), (vi 4), (vr b2), .unset, .unset]) rfl ?_
  refine XS.aloadN X2.here hx rfl (hb hby dqM_4) rfl rfl ?_
  refine XS.iloadN X2.here hx rfl (hb hby dqM_5) rfl ?_
  refine XS.aloadN X2.here hx rfl (hb hby dqM_6) rfl rfl ?_
  refine XS.iconst X2.here hx rfl (hb hby dqM_7) ?_
  refine XS.iloadN X2.here hx rfl (hb hby dqM_8) rfl ?_
  exact hq)
 have f4 : Arv Z h2 b kb .char (4 : Int32) [(.int d0), (.int d1), (.int d2), (.int d3)] (.int 0) := (P0.ext E2)
 obtain ⟨_, T5, L5, X5, ⟨rfl, Nq5, Kq5, V5⟩, k5a⟩ := callS' X2 hx hZ (y := yqA) hown (wq hw 37 rfl) (wq hw 38 rfl) (wq hw 35 rfl) (wq hw 39 rfl) (by decide) (backC (W := 0) (rm_c5_4_2 l Z a0 hw b kb b2 c2 d0 d1 d2 d3 h2 n0 (by omega) f4 V2 (by omega) (by omega) hd0 hd1 hd2) hZ (wq hw 39 rfl) (wq hw 35 rfl) (by decide) (by decide)) e2 (argsL := [(.ref b), (.int 0), (.ref b2), (.int 0), (.int 4)]) (rest := []) rfl rfl pd_0 rfl (by rw [hml]; rfl) (hb hby dqM_9) (Nat.le_of_eq rfl) (by decide) (by decide) k3
 have k5 : AtQ p e below S0 T5 m 12 #[(vr b), (vi 0), (vi 4), (vr b2), .unset, .unset] [(.int 2)] := k5a
 have N5 := N0.app Nq5
 obtain ⟨h5, e5⟩ : ∃ z, T5.heap = z := ⟨_, rfl⟩
 rw [e5] at Kq5 V5
 have z5 : h2.size ≤ h5.size := Kq5.1
 have k6 : AtQ p e below S0 T5 m 23 #[(vr b), (vi 0), (vi 4), (vr b2), (vi 2), .unset] [(.int 4), (.int 0), (.ref b)] := fun tt hq => k5 tt (by
  refine XS.istore X5.here hx rfl (hb hby dqM_12) rfl (l' := #[(vr b), (vi 0), (vi 4), (vr b2), (vi 2), .unset]) rfl ?_
  refine XS.iload X5.here hx rfl (hb hby dqM_14) rfl ?_
  refine XS.iloadN X5.here hx rfl (hb hby dqM_16) rfl ?_
  refine XS.icmpNo X5.here hx rfl (hb hby dqM_17) rfl (feq (by decide)).1 ?_
  refine XS.aloadN X5.here hx rfl (hb hby dqM_20) rfl rfl ?_
  refine XS.iloadN X5.here hx rfl (hb hby dqM_21) rfl ?_
  refine XS.iloadN X5.here hx rfl (hb hby dqM_22) rfl ?_
  exact hq)
 have f7 : Old Z n0 h5 := ((O0.ext E2).keep Kq5 (allS (by omega) all0))
 have f8 : Arv Z h5 b kb .char (4 : Int32) [(.int d0), (.int d1), (.int d2), (.int d3)] (.int 0) := (f4.keep Kq5 (nin1 (by omega)))
 obtain ⟨_, T9, L9, X9, ⟨t9, kt9, rfl, Nq9, gt9, Kq9, V9⟩, k9a⟩ := callS' X5 hx hZ (y := yqV) hown (wq hw 40 rfl) (wq hw 41 rfl) (wq hw 35 rfl) (wq hw 42 rfl) (by decide) (backC (W := 0) (rm_tb4 l Z a0 hw b kb d0 d1 d2 d3 h5 n0 (by omega) S_ad S_hi S_lo f7 f8 (by omega)) hZ (wq hw 42 rfl) (wq hw 35 rfl) (by decide) (by decide)) e5 (argsL := [(.ref b), (.int 0), (.int 4)]) (rest := []) rfl rfl pd_16 rfl (by rw [hml]; rfl) (hb hby dqM_23) (Nat.le_of_eq rfl) (by decide) (by decide) k6
 have k9 : AtQ p e below S0 T9 m 26 #[(vr b), (vi 0), (vi 4), (vr b2), (vi 2), .unset] [(.ref t9)] := k9a
 have N9 := N5.app Nq9
 obtain ⟨h9, e9⟩ : ∃ z, T9.heap = z := ⟨_, rfl⟩
 rw [e9] at Kq9 V9
 have z9 : h5.size ≤ h9.size := Kq9.1
 have y9 : @LT.lt Nat instLTNat t9 h9.size := V9.lt
 have k10 : AtQ p e below S0 T9 m 32 #[(vr b), (vi 0), (vi 4), (vr b2), (vi 2), (vr t9)] [(.int 2), (.ref t9)] := fun tt hq => k9 tt (by
  refine XS.astore X9.here hx rfl (hb hby dqM_26) rfl rfl (l' := #[(vr b), (vi 0), (vi 4), (vr b2), (vi 2), (vr t9)]) rfl ?_
  refine XS.aload X9.here hx rfl (hb hby dqM_28) rfl rfl ?_
  refine XS.iload X9.here hx rfl (hb hby dqM_30) rfl ?_
  exact hq)
 have f11 : Old Z n0 h9 := (f7.keep Kq9 all0)
 obtain ⟨_, T12, L12, X12, ⟨rfl, Nq12, eq12⟩, k12a⟩ := callS' X9 hx hZ (y := yqW) hown (wq hw 56 rfl) (wq hw 57 rfl) (wq hw 35 rfl) (wq hw 58 rfl) (by decide) (backC (W := 0) (rm_get l Z a0 hw t9 kt9 (8 : Int32) _ (2 : Int32) (4 : Int32) (ulo d2) (uhi d2) d2 h9 n0 (by omega) S_ad S_hi S_lo f11 V9 (by decide) (by decide) (by decide) rfl rfl (own_gc g0 g1) g0 g1) hZ (wq hw 58 rfl) (wq hw 35 rfl) (by decide) (by decide)) e9 (argsL := [(.ref t9), (.int 2)]) (rest := []) rfl rfl pd_17 rfl (by rw [hml]; rfl) (hb hby dqM_32) (Nat.le_of_eq rfl) (by decide) (by decide) k10
 have k12 : AtQ p e below S0 T12 m 35 #[(vr b), (vi 0), (vi 4), (vr b2), (vi 2), (vr t9)] [(.int d2)] := k12a
 have N12 := N9.app Nq12
 have e12 : T12.heap = h9 := eq12
 have k13 : AtQ p e below S0 T12 m 56 #[(vr b), (vi 0), (vi 4), (vr b2), (vi 2), (vr t9)] [(.ref t9)] := fun tt hq => k12 tt (by
  refine XS.sipush X12.here hx rfl (hb hby dqM_35) ?_
  refine XS.icmpYes X12.here hx rfl (pc0 := 38) (pc' := 54) rfl (hb hby dqM_38) rfl (tlt hd2).2.2.1 (by decide) (by decide) ?_
  refine XS.aload X12.here hx rfl (hb hby dqM_54) rfl rfl ?_
  exact hq)
 have hE := e12
 refine retRef X12 hx hret hlk rfl rfl (hb hby dqM_56) k13 ?_ (by decide) (by decide)
 try rw [hE]
 exact ⟨t9, _, rfl, N12, (by omega), ((((Keep.refl h0 []).ext E2).trans Kq5 (allS (Or.inr (by omega)) all0)).trans Kq9 all0), V9⟩
theorem sec_m3 {l : Launch} {Z : State} {a0 : Array Value} (hw : ∀ d ∈ tables_1, d.before a0 Z = true) {zc : Int32} {r : Addr} {so : Addr} {a : Addr} {t : Addr} {kt : ClassId} {nb : Int32} {vs : List Value} {cd : Int32} {xl : Int32} {xc : Int32} {sl0 : Slot} {sl1 : Slot} {sl2 : Slot} {sl3 : Slot} {sl4 : Slot} {sl5 : Slot} {sl6 : Slot} {sl7 : Slot} {sl10 : Slot} {sl11 : Slot} {sl12 : Slot} {sl13 : Slot} {sl14 : Slot} {kk : Int32} {o0 : Int32} {o1 : Int32} {o2 : Int32} {o3 : Int32} {p : Program} {e : Env} {s T0 S0 : State} {m : MethodId} {below : List Frame} {meth : Method} {cd_ : Code} {vm0 vm1 : Vm} {h0 hh : Heap} {n0 n1 cc ss : Nat} {as' : Array Value} {LL : List Loc} (hx : p.tables.exec = Jvm.exec) (hby : cd_.code = code) (hml : cd_.maxLocals = maxLocals) (hret : meth.sig.returnType = ret) (hlk : meth.locks = false) (hnm : meth.name = x.name) (hown : vm1.findClass x.cls = some m.cls) (hZ : Z.Warmed39 vm1) (X0 : Stand p l e room_1 (s.setVm vm1) m as' below meth cd_ T0 LL cc ss) (e0 : T0.heap = hh) (k0 : To p.tables e below S0 (T0.setTop (mkF m 242 #[sl0, sl1, sl2, sl3, sl4, sl5, sl6, sl7, (vi 3), (vi kk), sl10, sl11, sl12, sl13, sl14, (vr r), .unset, .unset] []))) (N0 : Fr n0 LL) (C0 : CHr Z own_EL vm0 h0 vm1 hh) (hS0 : s.Since vm1 n1) (hn1 : n1 ≤ hh.size) (hn0 : n0 ≤ hh.size) (hcc : cc ≤ room_1.cells) (hss : ss ≤ room_1.slots) (S_c : Sta Z Z.heap "java/lang/String" "COMPACT_STRINGS" "Z" (.int zc)) (hzc : ¬ zc = (0 : Int32)) (P0 : Exa Z hh r "com/example/ceruline/ceruline/parsing/SourceReader") (P1 : FqE Z hh r (.ref so)) (P2 : FqF Z hh r (.ref a)) (P3 : FqG Z hh r (.int o0)) (P4 : FqH Z hh r (.int xl)) (P5 : FqI Z hh r (.int xc)) (P6 : Exa Z hh a "java/lang/String") (P7 : FqA Z hh a (.ref t)) (P8 : FqB Z hh a (.int cd)) (P9 : Arv Z hh t kt .byte nb vs (.int 0)) (O0 : Old Z n0 hh) (hcd : narrow .byte (.int cd) = .int cd) (hln : (nb >>> (cd &&& 31)) = o3) (no0 : ¬ o0 = o3) (no1 : ¬ o1 = o3) (no2 : ¬ o2 = o3) (hk : kk = (0 : Int32) ∨ kk = (1 : Int32) ∨ kk = (2 : Int32) ∨ kk = (3 : Int32)) (gr : n0 ≤ r) (nra : ¬ (@Eq Nat a r)) (nrt : ¬ (@Eq Nat t r)) (ha0 : ∀ (H : Heap) (xl xc : Int32), n0 ≤ H.size → Old Z n0 H → Exa Z H r "com/example/ceruline/ceruline/parsing/SourceReader" → FqE Z H r (.ref so) → FqF Z H r (.ref a) → FqG Z H r (.int o0) → FqH Z H r (.int xl) → FqI Z H r (.int xc) → Exa Z H a "java/lang/String" → FqA Z H a (.ref t) → FqB Z H a (.int cd) → Arv Z H t kt .byte nb vs (.int 0) → Con l Z yqR prog_66_method_4_code 2 none [] rqK #[(.ref r)] H (fun v h L => ∃ (y1 y2 : Int32), v = none ∧ Fr n0 L ∧ Keep H h [r] ∧ Exa Z h r "com/example/ceruline/ceruline/parsing/SourceReader" ∧ FqE Z h r (.ref so) ∧ FqF Z h r (.ref a) ∧ FqG Z h r (.int o1) ∧ FqH Z h r (.int y1) ∧ FqI Z h r (.int y2))) (ha1 : ∀ (H : Heap) (xl xc : Int32), n0 ≤ H.size → Old Z n0 H → Exa Z H r "com/example/ceruline/ceruline/parsing/SourceReader" → FqE Z H r (.ref so) → FqF Z H r (.ref a) → FqG Z H r (.int o1) → FqH Z H r (.int xl) → FqI Z H r (.int xc) → Exa Z H a "java/lang/String" → FqA Z H a (.ref t) → FqB Z H a (.int cd) → Arv Z H t kt .byte nb vs (.int 0) → Con l Z yqR prog_66_method_4_code 2 none [] rqK #[(.ref r)] H (fun v h L => ∃ (y1 y2 : Int32), v = none ∧ Fr n0 L ∧ Keep H h [r] ∧ Exa Z h r "com/example/ceruline/ceruline/parsing/SourceReader" ∧ FqE Z h r (.ref so) ∧ FqF Z h r (.ref a) ∧ FqG Z h r (.int o2) ∧ FqH Z h r (.int y1) ∧ FqI Z h r (.int y2))) (ha2 : ∀ (H : Heap) (xl xc : Int32), n0 ≤ H.size → Old Z n0 H → Exa Z H r "com/example/ceruline/ceruline/parsing/SourceReader" → FqE Z H r (.ref so) → FqF Z H r (.ref a) → FqG Z H r (.int o2) → FqH Z H r (.int xl) → FqI Z H r (.int xc) → Exa Z H a "java/lang/String" → FqA Z H a (.ref t) → FqB Z H a (.int cd) → Arv Z H t kt .byte nb vs (.int 0) → Con l Z yqR prog_66_method_4_code 2 none [] rqK #[(.ref r)] H (fun v h L => ∃ (y1 y2 : Int32), v = none ∧ Fr n0 L ∧ Keep H h [r] ∧ Exa Z h r "com/example/ceruline/ceruline/parsing/SourceReader" ∧ FqE Z h r (.ref so) ∧ FqF Z h r (.ref a) ∧ FqG Z h r (.int o3) ∧ FqH Z h r (.int y1) ∧ FqI Z h r (.int y2))) :
  FinW p e below s room_1 S0 Z own_EL vm0 h0 (fun v h L => v = some (.int 1) ∧ Fr n0 L) := by
 rcases hk with hk | hk
 ·
  let l2 : Array Slot := #[sl0, sl1, sl2, sl3, sl4, sl5, sl6, sl7, (vi 3), (vi 0), sl10, sl11, sl12, sl13, sl14, (vr r), .unset, .unset]
  have k1 : AtQ p e below S0 T0 m 242 l2 [] := by
   have hq : AtQ p e below S0 T0 m 242 #[sl0, sl1, sl2, sl3, sl4, sl5, sl6, sl7, (vi 3), (vi kk), sl10, sl11, sl12, sl13, sl14, (vr r), .unset, .unset] [] := k0
   rw [hk] at hq; exact hq
  have k3 : AtQ p e below S0 T0 m 285 l2 [] := fun tt hq => k1 tt (by
   refine XS.iload X0.here hx rfl (hb hby at_242) rfl ?_
   refine XS.ifYes X0.here hx rfl (pc0 := 244) (pc' := 252) rfl (hb hby at_244) rfl ((if0 _ _).trans (flt (by decide)).2.2.2) (by decide) (by decide) ?_
   refine XS.iload X0.here hx rfl (hb hby at_252) rfl ?_
   refine XS.iconst X0.here hx rfl (hb hby at_254) ?_
   refine XS.icmpYes X0.here hx rfl (pc0 := 255) (pc' := 263) rfl (hb hby at_255) rfl (flt (by decide)).2.2.2 (by decide) (by decide) ?_
   refine XS.iload X0.here hx rfl (hb hby at_263) rfl ?_
   refine XS.iconst X0.here hx rfl (hb hby at_265) ?_
   refine XS.icmpYes X0.here hx rfl (pc0 := 266) (pc' := 274) rfl (hb hby at_266) rfl (flt (by decide)).2.2.2 (by decide) (by decide) ?_
   refine XS.iload X0.here hx rfl (hb hby at_274) rfl ?_
   refine XS.iconst X0.here hx rfl (hb hby at_276) ?_
   refine XS.icmpYes X0.here hx rfl (pc0 := 277) (pc' := 285) rfl (hb hby at_277) rfl (flt (by decide)).2.2.2 (by decide) (by decide) ?_
   exact hq)
  exact sec_t0 hw hx hby hml hret hlk hnm hown hZ X0 e0 k3 N0 C0 hS0 (by omega) (by omega) hcc hss S_c hzc P0 P1 P2 P3 P4 P5 P6 P7 P8 P9 O0 hcd hln (if_neg no0) (by decide)
 ·
  have hp4 : (0 : Int32) < kk := by rcases hk with hk | hk | hk <;> rw [hk] <;> decide
  let l5 : Array Slot := #[sl0, sl1, sl2, sl3, sl4, sl5, sl6, sl7, (vi 3), (vi kk), sl10, sl11, sl12, sl13, sl14, (vr r), .unset, .unset]
  have k6 : AtQ p e below S0 T0 m 249 l5 [(.ref r)] := fun tt hq => k0 tt (by
   refine XS.iload X0.here hx rfl (hb hby at_242) rfl ?_
   refine XS.ifNo X0.here hx rfl (hb hby at_244) rfl ((if0 _ _).trans (tlt hp4).2.2.2) ?_
   refine XS.aload X0.here hx rfl (hb hby at_247) rfl rfl ?_
   exact hq)
  obtain ⟨_, T7, L7, X7, ⟨x7, y7x, rfl, Nq7, Kq7, P7_0, P7_1, P7_2, P7_3, P7_4, P7_5⟩, k7a⟩ := callV' X0 hx hZ (y := yqR) (z := yqR) hown (wq hw 94 rfl) (wq hw 95 rfl) (notFace_of_selects (args := #[]) (mvT hZ (wq hw 97 rfl))) (wq hw 97 rfl) (wq hw 96 rfl) (by decide) P0 (backC (W := 0) (ha0 hh xl xc (by omega) O0 P0 P1 P2 P3 P4 P5 P6 P7 P8 P9) hZ (wq hw 98 rfl) (wq hw 9 rfl) (by decide) (by decide)) e0 (argsL := []) (rest := []) rfl rfl pd_6 rfl (by rw [hml]; rfl) (hb hby at_249) (Nat.le_of_eq rfl) hcc hss k6
  have k7 : AtQ p e below S0 T7 m 252 l5 [] := k7a
  have N7 := N0.app Nq7
  obtain ⟨h7, e7⟩ : ∃ z, T7.heap = z := ⟨_, rfl⟩
  rw [e7] at Kq7 P7_0 P7_1 P7_2 P7_3 P7_4 P7_5
  have z7 : hh.size ≤ h7.size := Kq7.1
  have C7 := C0.trans (CHr.keep Kq7 (sfS (Safe.exa hZ.alike P0 (by decide) (by decide)) sf0) C0.1)
  rcases hk with hk | hk
  ·
   let l9 : Array Slot := #[sl0, sl1, sl2, sl3, sl4, sl5, sl6, sl7, (vi 3), (vi 1), sl10, sl11, sl12, sl13, sl14, (vr r), .unset, .unset]
   have k8 : AtQ p e below S0 T7 m 252 l9 [] := by
    have hq : AtQ p e below S0 T7 m 252 #[sl0, sl1, sl2, sl3, sl4, sl5, sl6, sl7, (vi 3), (vi kk), sl10, sl11, sl12, sl13, sl14, (vr r), .unset, .unset] [] := k7
    rw [hk] at hq; exact hq
   have k10 : AtQ p e below S0 T7 m 285 l9 [] := fun tt hq => k8 tt (by
    refine XS.iload X7.here hx rfl (hb hby at_252) rfl ?_
    refine XS.iconst X7.here hx rfl (hb hby at_254) ?_
    refine XS.icmpYes X7.here hx rfl (pc0 := 255) (pc' := 263) rfl (hb hby at_255) rfl (flt (by decide)).2.2.2 (by decide) (by decide) ?_
    refine XS.iload X7.here hx rfl (hb hby at_263) rfl ?_
    refine XS.iconst X7.here hx rfl (hb hby at_265) ?_
    refine XS.icmpYes X7.here hx rfl (pc0 := 266) (pc' := 274) rfl (hb hby at_266) rfl (flt (by decide)).2.2.2 (by decide) (by decide) ?_
    refine XS.iload X7.here hx rfl (hb hby at_274) rfl ?_
    refine XS.iconst X7.here hx rfl (hb hby at_276) ?_
    refine XS.icmpYes X7.here hx rfl (pc0 := 277) (pc' := 285) rfl (hb hby at_277) rfl (flt (by decide)).2.2.2 (by decide) (by decide) ?_
    exact hq)
   have f11 : Exa Z h7 a "java/lang/String" := (P6.keep Kq7)
   have f12 : FqA Z h7 a (.ref t) := (P7.keep Kq7 (nin1 (by omega)))
   have f13 : FqB Z h7 a (.int cd) := (P8.keep Kq7 (nin1 (by omega)))
   have f14 : Arv Z h7 t kt .byte nb vs (.int 0) := (P9.keep Kq7 (nin1 (by omega)))
   have f15 : Old Z n0 h7 := (O0.keep Kq7 (allS (by omega) all0))
   exact sec_t0 hw hx hby hml hret hlk hnm hown hZ X7 e7 k10 N7 C7 hS0 (by omega) (by omega) hcc hss S_c hzc P7_0 P7_1 P7_2 P7_3 P7_4 P7_5 f11 f12 f13 f14 f15 hcd hln (if_neg no1) (by decide)
  ·
   have hp16 : (1 : Int32) < kk := by rcases hk with hk | hk <;> rw [hk] <;> decide
   have k17 : AtQ p e below S0 T7 m 260 l5 [(.ref r)] := fun tt hq => k7 tt (by
    refine XS.iload X7.here hx rfl (hb hby at_252) rfl ?_
    refine XS.iconst X7.here hx rfl (hb hby at_254) ?_
    refine XS.icmpNo X7.here hx rfl (hb hby at_255) rfl (tlt hp16).2.2.2 ?_
    refine XS.aload X7.here hx rfl (hb hby at_258) rfl rfl ?_
    exact hq)
   have f18 : Old Z n0 h7 := (O0.keep Kq7 (allS (by omega) all0))
   have f19 : Exa Z h7 a "java/lang/String" := (P6.keep Kq7)
   have f20 : FqA Z h7 a (.ref t) := (P7.keep Kq7 (nin1 (by omega)))
   have f21 : FqB Z h7 a (.int cd) := (P8.keep Kq7 (nin1 (by omega)))
   have f22 : Arv Z h7 t kt .byte nb vs (.int 0) := (P9.keep Kq7 (nin1 (by omega)))
   obtain ⟨_, T23, L23, X23, ⟨x23, y23x, rfl, Nq23, Kq23, P23_0, P23_1, P23_2, P23_3, P23_4, P23_5⟩, k23a⟩ := callV' X7 hx hZ (y := yqR) (z := yqR) hown (wq hw 94 rfl) (wq hw 95 rfl) (notFace_of_selects (args := #[]) (mvT hZ (wq hw 97 rfl))) (wq hw 97 rfl) (wq hw 96 rfl) (by decide) P7_0 (backC (W := 0) (ha1 h7 x7 y7x (by omega) f18 P7_0 P7_1 P7_2 P7_3 P7_4 P7_5 f19 f20 f21 f22) hZ (wq hw 98 rfl) (wq hw 9 rfl) (by decide) (by decide)) e7 (argsL := []) (rest := []) rfl rfl pd_6 rfl (by rw [hml]; rfl) (hb hby at_260) (Nat.le_of_eq rfl) hcc hss k17
   have k23 : AtQ p e below S0 T23 m 263 l5 [] := k23a
   have N23 := N7.app Nq23
   obtain ⟨h23, e23⟩ : ∃ z, T23.heap = z := ⟨_, rfl⟩
   rw [e23] at Kq23 P23_0 P23_1 P23_2 P23_3 P23_4 P23_5
   have z23 : h7.size ≤ h23.size := Kq23.1
   have C23 := C7.trans (CHr.keep Kq23 (sfS (Safe.exa hZ.alike P7_0 (by decide) (by decide)) sf0) C7.1)
   rcases hk with hk | hk
   ·
    let l25 : Array Slot := #[sl0, sl1, sl2, sl3, sl4, sl5, sl6, sl7, (vi 3), (vi 2), sl10, sl11, sl12, sl13, sl14, (vr r), .unset, .unset]
    have k24 : AtQ p e below S0 T23 m 263 l25 [] := by
     have hq : AtQ p e below S0 T23 m 263 #[sl0, sl1, sl2, sl3, sl4, sl5, sl6, sl7, (vi 3), (vi kk), sl10, sl11, sl12, sl13, sl14, (vr r), .unset, .unset] [] := k23
     rw [hk] at hq; exact hq
    have k26 : AtQ p e below S0 T23 m 285 l25 [] := fun tt hq => k24 tt (by
     refine XS.iload X23.here hx rfl (hb hby at_263) rfl ?_
     refine XS.iconst X23.here hx rfl (hb hby at_265) ?_
     refine XS.icmpYes X23.here hx rfl (pc0 := 266) (pc' := 274) rfl (hb hby at_266) rfl (flt (by decide)).2.2.2 (by decide) (by decide) ?_
     refine XS.iload X23.here hx rfl (hb hby at_274) rfl ?_
     refine XS.iconst X23.here hx rfl (hb hby at_276) ?_
     refine XS.icmpYes X23.here hx rfl (pc0 := 277) (pc' := 285) rfl (hb hby at_277) rfl (flt (by decide)).2.2.2 (by decide) (by decide) ?_
     exact hq)
    have f27 : Exa Z h23 a "java/lang/String" := (f19.keep Kq23)
    have f28 : FqA Z h23 a (.ref t) := (f20.keep Kq23 (nin1 (by omega)))
    have f29 : FqB Z h23 a (.int cd) := (f21.keep Kq23 (nin1 (by omega)))
    have f30 : Arv Z h23 t kt .byte nb vs (.int 0) := (f22.keep Kq23 (nin1 (by omega)))
    have f31 : Old Z n0 h23 := (f18.keep Kq23 (allS (by omega) all0))
    exact sec_t0 hw hx hby hml hret hlk hnm hown hZ X23 e23 k26 N23 C23 hS0 (by omega) (by omega) hcc hss S_c hzc P23_0 P23_1 P23_2 P23_3 P23_4 P23_5 f27 f28 f29 f30 f31 hcd hln (if_neg no2) (by decide)
   ·
    have hp32 : (2 : Int32) < kk := by rcases hk with hk <;> rw [hk] <;> decide
    have k33 : AtQ p e below S0 T23 m 271 l5 [(.ref r)] := fun tt hq => k23 tt (by
     refine XS.iload X23.here hx rfl (hb hby at_263) rfl ?_
     refine XS.iconst X23.here hx rfl (hb hby at_265) ?_
     refine XS.icmpNo X23.here hx rfl (hb hby at_266) rfl (tlt hp32).2.2.2 ?_
     refine XS.aload X23.here hx rfl (hb hby at_269) rfl rfl ?_
     exact hq)
    have f34 : Old Z n0 h23 := (f18.keep Kq23 (allS (by omega) all0))
    have f35 : Exa Z h23 a "java/lang/String" := (f19.keep Kq23)
    have f36 : FqA Z h23 a (.ref t) := (f20.keep Kq23 (nin1 (by omega)))
    have f37 : FqB Z h23 a (.int cd) := (f21.keep Kq23 (nin1 (by omega)))
    have f38 : Arv Z h23 t kt .byte nb vs (.int 0) := (f22.keep Kq23 (nin1 (by omega)))
    obtain ⟨_, T39, L39, X39, ⟨x39, y39x, rfl, Nq39, Kq39, P39_0, P39_1, P39_2, P39_3, P39_4, P39_5⟩, k39a⟩ := callV' X23 hx hZ (y := yqR) (z := yqR) hown (wq hw 94 rfl) (wq hw 95 rfl) (notFace_of_selects (args := #[]) (mvT hZ (wq hw 97 rfl))) (wq hw 97 rfl) (wq hw 96 rfl) (by decide) P23_0 (backC (W := 0) (ha2 h23 x23 y23x (by omega) f34 P23_0 P23_1 P23_2 P23_3 P23_4 P23_5 f35 f36 f37 f38) hZ (wq hw 98 rfl) (wq hw 9 rfl) (by decide) (by decide)) e23 (argsL := []) (rest := []) rfl rfl pd_6 rfl (by rw [hml]; rfl) (hb hby at_271) (Nat.le_of_eq rfl) hcc hss k33
    have k39 : AtQ p e below S0 T39 m 274 l5 [] := k39a
    have N39 := N23.app Nq39
    obtain ⟨h39, e39⟩ : ∃ z, T39.heap = z := ⟨_, rfl⟩
    rw [e39] at Kq39 P39_0 P39_1 P39_2 P39_3 P39_4 P39_5
    have z39 : h23.size ≤ h39.size := Kq39.1
    have C39 := C23.trans (CHr.keep Kq39 (sfS (Safe.exa hZ.alike P23_0 (by decide) (by decide)) sf0) C23.1)
    let l41 : Array Slot := #[sl0, sl1, sl2, sl3, sl4, sl5, sl6, sl7, (vi 3), (vi 3), sl10, sl11, sl12, sl13, sl14, (vr r), .unset, .unset]
    have k40 : AtQ p e below S0 T39 m 274 l41 [] := by
     have hq : AtQ p e below S0 T39 m 274 #[sl0, sl1, sl2, sl3, sl4, sl5, sl6, sl7, (vi 3), (vi kk), sl10, sl11, sl12, sl13, sl14, (vr r), .unset, .unset] [] := k39
     rw [hk] at hq; exact hq
    have k42 : AtQ p e below S0 T39 m 285 l41 [] := fun tt hq => k40 tt (by
     refine XS.iload X39.here hx rfl (hb hby at_274) rfl ?_
     refine XS.iconst X39.here hx rfl (hb hby at_276) ?_
     refine XS.icmpYes X39.here hx rfl (pc0 := 277) (pc' := 285) rfl (hb hby at_277) rfl (flt (by decide)).2.2.2 (by decide) (by decide) ?_
     exact hq)
    have f43 : Exa Z h39 a "java/lang/String" := (f35.keep Kq39)
    have f44 : FqA Z h39 a (.ref t) := (f36.keep Kq39 (nin1 (by omega)))
    have f45 : FqB Z h39 a (.int cd) := (f37.keep Kq39 (nin1 (by omega)))
    have f46 : Arv Z h39 t kt .byte nb vs (.int 0) := (f38.keep Kq39 (nin1 (by omega)))
    have f47 : Old Z n0 h39 := (f34.keep Kq39 (allS (by omega) all0))
    exact sec_t1 hw hx hby hml hret hlk hnm hown hZ X39 e39 k42 N39 C39 hS0 (by omega) (by omega) hcc hss S_c hzc P39_0 P39_1 P39_2 P39_3 P39_4 P39_5 f43 f44 f45 f46 f47 hcd hln (if_pos rfl) (by decide)
theorem rm_c5_4_0 (l : Launch) (Z : State) (a0 : Array Value) (hw : ∀ d ∈ tables_1, d.before a0 Z = true) (b : Addr) (kb : ClassId) (t : Addr) (kt : ClassId) (d0 : Int32) (d1 : Int32) (d2 : Int32) (d3 : Int32) (h0 : Heap) (n0 : Nat) (hn0 : n0 ≤ h0.size) (P0 : Arv Z h0 b kb .char (4 : Int32) [(.int d0), (.int d1), (.int d2), (.int d3)] (.int 0)) (P1 : Arv Z h0 t kt .byte (4 : Int32) [(.int 0), (.int 0), (.int 0), (.int 0)] (.int 0)) (ga : n0 ≤ t) (nbt : ¬ (@Eq Nat b t)) (hd0 : (255 : Int32) < d0) :
  Con l Z yqA jdk_52_method_21_code 7 (some .int) [] rqA #[(.ref b), (.int 0), (.ref t), (.int 0), (.int 4)] h0 (fun v h L => v = some (.int 0) ∧ Fr n0 L ∧ Keep h0 h [t] ∧ Arv Z h t kt .byte (4 : Int32) [(.int 0), (.int 0), (.int 0), (.int 0)] (.int 0)) := by
 refine enter (Ls := #[(vr b), (vi 0), (vr t), (vi 0), (vi 4), .unset, .unset]) (plainFor_of_name pn_0) (fun m => by exact entry_eq rfl) ?_
 intro p e s m below meth cd_ s₁ S0 hx hby hml hret hlk hnm hown hZ X0 e0 k0
 have N0 := Fr.nil n0
 have k1 : AtQ p e below S0 s₁ m 12 #[(vr b), (vi 0), (vr t), (vi 0), (vi 4), (vi 0), .unset] [(.int 0), (.ref b)] := fun tt hq => k0 tt (by
  refine XS.iconst X0.here hx rfl (hb hby dqN_0) ?_
  refine XS.istore X0.here hx rfl (hb hby dqN_1) rfl (l' := #[(vr b), (vi 0), (vr t), (vi 0), (vi 4), (vi 0), .unset]) rfl ?_
  refine XS.iload X0.here hx rfl (hb hby dqN_3) rfl ?_
  refine XS.iload X0.here hx rfl (hb hby dqN_5) rfl ?_
  refine XS.icmpNo X0.here hx rfl (hb hby dqN_7) rfl (tlt (by decide)).2.1 ?_
  refine XS.aloadN X0.here hx rfl (hb hby dqN_10) rfl rfl ?_
  refine XS.iloadN X0.here hx rfl (hb hby dqN_11) rfl ?_
  exact hq)
 obtain ⟨cl2, Ar2, -, S2, -, G2, -⟩ := id P0
 have hi2 := inb_of (j := (0 : Int32)) S2 ⟨by decide, by decide⟩
 have st2 := fun tt => X0.caload hx (j := (0 : Int32)) (v := (.int d0)) (by rw [e0]; exact Ar2.1) (State.isArrayOf_alike hZ.alike Ar2.2.1) Ar2.2.2 hi2 (G2.at hi2 rfl) (g := (mkF m 12 #[(vr b), (vi 0), (vr t), (vi 0), (vi 4), (vi 0), .unset] [(.int 0), (.ref b)])) rfl rfl (hb hby dqN_12) tt
 have k2 : AtQ p e below S0 s₁ m 13 #[(vr b), (vi 0), (vr t), (vi 0), (vi 4), (vi 0), .unset] [(.int d0)] := fun tt hq => k1 tt (st2 tt hq)
 have k3 : AtQ p e below S0 s₁ m 25 #[(vr b), (vi 0), (vr t), (vi 0), (vi 4), (vi 0), (vi d0)] [(.int 0)] := fun tt hq => k2 tt (by
  refine XS.istore X0.here hx rfl (hb hby dqN_13) rfl (l' := #[(vr b), (vi 0), (vr t), (vi 0), (vi 4), (vi 0), (vi d0)]) rfl ?_
  refine XS.iload X0.here hx rfl (hb hby dqN_15) rfl ?_
  refine XS.sipush X0.here hx rfl (hb hby dqN_17) ?_
  refine XS.icmpNo X0.here hx rfl (hb hby dqN_20) rfl (tlt hd0).2.2.2 ?_
  refine XS.iload X0.here hx rfl (hb hby dqN_23) rfl ?_
  exact hq)
 have hE := e0
 refine retInt X0 hx hret hlk (by simp) rfl (hb hby dqN_25) k3 ?_ (by decide) (by decide)
 try rw [hE]
 exact ⟨rfl, N0, (Keep.refl h0 [t]), P1⟩
theorem rm_c3_4_0 (l : Launch) (Z : State) (a0 : Array Value) (hw : ∀ d ∈ tables_1, d.before a0 Z = true) (b : Addr) (kb : ClassId) (d0 : Int32) (d1 : Int32) (d2 : Int32) (d3 : Int32) (h0 : Heap) (n0 : Nat) (hn0 : n0 ≤ h0.size) (S_ad : Sta Z Z.heap "java/lang/StringUTF16" "$assertionsDisabled" "Z" (.int 1)) (S_hi : Sta Z Z.heap "java/lang/StringUTF16" "HI_BYTE_SHIFT" "I" (.int 0)) (S_lo : Sta Z Z.heap "java/lang/StringUTF16" "LO_BYTE_SHIFT" "I" (.int 8)) (O0 : Old Z n0 h0) (P0 : Arv Z h0 b kb .char (4 : Int32) [(.int d0), (.int d1), (.int d2), (.int d3)] (.int 0)) (yb : @LT.lt Nat instLTNat b h0.size) (hd0 : (255 : Int32) < d0) (g0 : ¬ d0 < (0 : Int32)) (g1 : d0 < (65536 : Int32)) :
  Con l Z yqB jdk_52_method_16_code 6 (some (.array .byte)) [] rqB #[(.ref b), (.int 0), (.int 4)] h0 (fun v h L => ∃ (t : Addr) (k : ClassId), v = some (.ref t) ∧ Fr n0 L ∧ h0.size ≤ t ∧ Keep h0 h [] ∧ Arv Z h t k .byte (8 : Int32) [(.int (ulo d0)), (.int (uhi d0)), (.int (ulo d1)), (.int (uhi d1)), (.int (ulo d2)), (.int (uhi d2)), (.int (ulo d3)), (.int (uhi d3))] (.int 0)) := by
 refine enter (Ls := #[(vr b), (vi 0), (vi 4), .unset, .unset, .unset]) (plainFor_of_name pn_0) (fun m => by exact entry_eq rfl) ?_
 intro p e s m below meth cd_ s₁ S0 hx hby hml hret hlk hnm hown hZ X0 e0 k0
 have N0 := Fr.nil n0
 have k1 : AtQ p e below S0 s₁ m 1 #[(vr b), (vi 0), (vi 4), .unset, .unset, .unset] [(.int 4)] := fun tt hq => k0 tt (by
  refine XS.iloadN X0.here hx rfl (hb hby dqM_0) rfl ?_
  exact hq)
 obtain ⟨T2, h2, c2, X2, e2, E2, A2, st2⟩ := newP X0 hx hZ (wq hw 16 rfl) e0 (g := (mkF m 1 #[(vr b), (vi 0), (vi 4), .unset, .unset, .unset] [(.int 4)])) rfl (hb hby dqM_1) rfl (by decide) (cap := 4) (by decide) (by decide) (by decide) (by decide)
 obtain ⟨b2, g2⟩ : ∃ z, z = h0.size := ⟨_, rfl⟩
 rw [← g2] at A2 st2
 have k2 : AtQ p e below S0 T2 m 3 #[(vr b), (vi 0), (vi 4), .unset, .unset, .unset] [(.ref b2)] := fun tt hq => k1 tt (st2 tt hq)
 have z2 : h0.size ≤ h2.size := E2.1
 have V2 : Arv Z h2 b2 c2 .byte (4 : Int32) [(.int 0), (.int 0), (.int 0), (.int 0)] (.int 0) := (Arv.new A2 (by decide)).pad (pad_rep [] (.int 0) 4)
 have y2 : @LT.lt Nat instLTNat b2 h2.size := V2.lt
 have k3 : AtQ p e below S0 T2 m 9 #[(vr b), (vi 0), (vi 4), (vr b2), .unset, .unset] [(.int 4), (.int 0), (.ref b2), (.int 0), (.ref b)] := fun tt hq => k2 tt (by
  refine XS.astoreN X2.here hx rfl (hb hby dqM_3) rfl rfl (l' := #[(vr b), (vi 0), (vi 4), (vr b2), .unset, .unset]) rfl ?_
  refine XS.aloadN X2.here hx rfl (hb hby dqM_4) rfl rfl ?_
  refine XS.iloadN X2.here hx rfl (hb hby dqM_5) rfl ?_
  refine XS.aloadN X2.here hx rfl (hb hby dqM_6) rfl rfl ?_
  refine XS.iconst X2.here hx rfl (hb hby dqM_7) ?_
  refine XS.iloadN X2.here hx rfl (hb hby dqM_8) rfl ?_
  exact hq)
 have f4 : Arv Z h2 b kb .char (4 : Int32) [(.int d0), (.int d1), (.int d2), (.int d3)] (.int 0) := (P0.ext E2)
 obtain ⟨_, T5, L5, X5, ⟨rfl, Nq5, Kq5, V5⟩, k5a⟩ := callS' X2 hx hZ (y := yqA) hown (wq hw 37 rfl) (wq hw 38 rfl) (wq hw 35 rfl) (wq hw 39 rfl) (by decide) (backC (W := 0) (rm_c5_4_0 l Z a0 hw b kb b2 c2 d0 d1 d2 d3 h2 n0 (by omega) f4 V2 (by omega) (by omega) hd0) hZ (wq hw 39 rfl) (wq hw 35 rfl) (by decide) (by decide)) e2 (argsL := [(.ref b), (.int 0), (.ref b2), (.int 0), (.int 4)]) (rest := []) rfl rfl pd_0 rfl (by rw [hml]; rfl) (hb hby dqM_9) (Nat.le_of_eq rfl) (by decide) (by decide) k3
 have k5 : AtQ p e below S0 T5 m 12 #[(vr b), (vi 0), (vi 4), (vr b2), .unset, .unset] [(.int 0)] := k5a
 have N5 := N0.app Nq5
 obtain ⟨h5, e5⟩ : ∃ z, T5.heap = z := ⟨_, rfl⟩
 rw [e5] at Kq5 V5
 have z5 : h2.size ≤ h5.size := Kq5.1
 have k6 : AtQ p e below S0 T5 m 23 #[(vr b), (vi 0), (vi 4), (vr b2), (vi 0), .unset] [(.int 4), (.int 0), (.ref b)] := fun tt hq => k5 tt (by
  refine XS.istore X5.here hx rfl (hb hby dqM_12) rfl (l' := #[(vr b), (vi 0), (vi 4), (vr b2), (vi 0), .unset]) rfl ?_
  refine XS.iload X5.here hx rfl (hb hby dqM_14) rfl ?_
  refine XS.iloadN X5.here hx rfl (hb hby dqM_16) rfl ?_
  refine XS.icmpNo X5.here hx rfl (hb hby dqM_17) rfl (feq (by decide)).1 ?_
  refine XS.aloadN X5.here hx rfl (hb hby dqM_20) rfl rfl ?_
  refine XS.iloadN X5.here hx rfl (hb hby dqM_21) rfl ?_
  refine XS.iloadN X5.here hx rfl (hb hby dqM_22) rfl ?_
  exact hq)
 have f7 : Old Z n0 h5 := ((O0.ext E2).keep Kq5 (allS (by omega) all0))
 have f8 : Arv Z h5 b kb .char (4 : Int32) [(.int d0), (.int d1), (.int d2), (.int d3)] (.int 0) := (f4.keep Kq5 (nin1 (by omega)))
 obtain ⟨_, T9, L9, X9, ⟨t9, kt9, rfl, Nq9, gt9, Kq9, V9⟩, k9a⟩ := callS' X5 hx hZ (y := yqV) hown (wq hw 40 rfl) (wq hw 41 rfl) (wq hw 35 rfl) (wq hw 42 rfl) (by decide) (backC (W := 0) (rm_tb4 l Z a0 hw b kb d0 d1 d2 d3 h5 n0 (by omega) S_ad S_hi S_lo f7 f8 (by omega)) hZ (wq hw 42 rfl) (wq hw 35 rfl) (by decide) (by decide)) e5 (argsL := [(.ref b), (.int 0), (.int 4)]) (rest := []) rfl rfl pd_16 rfl (by rw [hml]; rfl) (hb hby dqM_23) (Nat.le_of_eq rfl) (by decide) (by decide) k6
 have k9 : AtQ p e below S0 T9 m 26 #[(vr b), (vi 0), (vi 4), (vr b2), (vi 0), .unset] [(.ref t9)] := k9a
 have N9 := N5.app Nq9
 obtain ⟨h9, e9⟩ : ∃ z, T9.heap = z := ⟨_, rfl⟩
 rw [e9] at Kq9 V9
 have z9 : h5.size ≤ h9.size := Kq9.1
 have y9 : @LT.lt Nat instLTNat t9 h9.size := V9.lt
 have k10 : AtQ p e below S0 T9 m 32 #[(vr b), (vi 0), (vi 4), (vr b2), (vi 0), (vr t9)] [(.int 0), (.ref t9)] := fun tt hq => k9 tt (by
  refine XS.astore X9.here hx rfl (hb hby dqM_26) rfl rfl (l' := #[(vr b), (vi 0), (vi 4), (vr b2), (vi 0), (vr t9)]) rfl ?_
  refine XS.aload X9.here hx rfl (hb hby dqM_28) rfl rfl ?_
  refine XS.iload X9.here hx rfl (hb hby dqM_30) rfl ?_
  exact hq)
 have f11 : Old Z n0 h9 := (f7.keep Kq9 all0)
 obtain ⟨_, T12, L12, X12, ⟨rfl, Nq12, eq12⟩, k12a⟩ := callS' X9 hx hZ (y := yqW) hown (wq hw 56 rfl) (wq hw 57 rfl) (wq hw 35 rfl) (wq hw 58 rfl) (by decide) (backC (W := 0) (rm_get l Z a0 hw t9 kt9 (8 : Int32) _ (0 : Int32) (0 : Int32) (ulo d0) (uhi d0) d0 h9 n0 (by omega) S_ad S_hi S_lo f11 V9 (by decide) (by decide) (by decide) rfl rfl (own_gc g0 g1) g0 g1) hZ (wq hw 58 rfl) (wq hw 35 rfl) (by decide) (by decide)) e9 (argsL := [(.ref t9), (.int 0)]) (rest := []) rfl rfl pd_17 rfl (by rw [hml]; rfl) (hb hby dqM_32) (Nat.le_of_eq rfl) (by decide) (by decide) k10
 have k12 : AtQ p e below S0 T12 m 35 #[(vr b), (vi 0), (vi 4), (vr b2), (vi 0), (vr t9)] [(.int d0)] := k12a
 have N12 := N9.app Nq12
 have e12 : T12.heap = h9 := eq12
 have k13 : AtQ p e below S0 T12 m 56 #[(vr b), (vi 0), (vi 4), (vr b2), (vi 0), (vr t9)] [(.ref t9)] := fun tt hq => k12 tt (by
  refine XS.sipush X12.here hx rfl (hb hby dqM_35) ?_
  refine XS.icmpYes X12.here hx rfl (pc0 := 38) (pc' := 54) rfl (hb hby dqM_38) rfl (tlt hd0).2.2.1 (by decide) (by decide) ?_
  refine XS.aload X12.here hx rfl (hb hby dqM_54) rfl rfl ?_
  exact hq)
 have hE := e12
 refine retRef X12 hx hret hlk rfl rfl (hb hby dqM_56) k13 ?_ (by decide) (by decide)
 try rw [hE]
 exact ⟨t9, _, rfl, N12, (by omega), ((((Keep.refl h0 []).ext E2).trans Kq5 (allS (Or.inr (by omega)) all0)).trans Kq9 all0), V9⟩
theorem rm_c5_5_3 (l : Launch) (Z : State) (a0 : Array Value) (hw : ∀ d ∈ tables_1, d.before a0 Z = true) (b : Addr) (kb : ClassId) (t : Addr) (kt : ClassId) (d0 : Int32) (d1 : Int32) (d2 : Int32) (d3 : Int32) (d4 : Int32) (h0 : Heap) (n0 : Nat) (hn0 : n0 ≤ h0.size) (P0 : Arv Z h0 b kb .char (5 : Int32) [(.int d0), (.int d1), (.int d2), (.int d3), (.int d4)] (.int 0)) (P1 : Arv Z h0 t kt .byte (5 : Int32) [(.int 0), (.int 0), (.int 0), (.int 0), (.int 0)] (.int 0)) (ga : n0 ≤ t) (nbt : ¬ (@Eq Nat b t)) (hd0 : ¬ (255 : Int32) < d0) (hd1 : ¬ (255 : Int32) < d1) (hd2 : ¬ (255 : Int32) < d2) (hd3 : (255 : Int32) < d3) :
  Con l Z yqA jdk_52_method_21_code 7 (some .int) [] rqA #[(.ref b), (.int 0), (.ref t), (.int 0), (.int 5)] h0 (fun v h L => v = some (.int 3) ∧ Fr n0 L ∧ Keep h0 h [t] ∧ Arv Z h t kt .byte (5 : Int32) [(.int (nar .byte (d0.toInt8.toInt32))), (.int (nar .byte (d1.toInt8.toInt32))), (.int (nar .byte (d2.toInt8.toInt32))), (.int 0), (.int 0)] (.int 0)) := by
 refine enter (Ls := #[(vr b), (vi 0), (vr t), (vi 0), (vi 5), .unset, .unset]) (plainFor_of_name pn_0) (fun m => by exact entry_eq rfl) ?_
 intro p e s m below meth cd_ s₁ S0 hx hby hml hret hlk hnm hown hZ X0 e0 k0
 have N0 := Fr.nil n0
 have k1 : AtQ p e below S0 s₁ m 12 #[(vr b), (vi 0), (vr t), (vi 0), (vi 5), (vi 0), .unset] [(.int 0), (.ref b)] := fun tt hq => k0 tt (by
  refine XS.iconst X0.here hx rfl (hb hby dqN_0) ?_
  refine XS.istore X0.here hx rfl (hb hby dqN_1) rfl (l' := #[(vr b), (vi 0), (vr t), (vi 0), (vi 5), (vi 0), .unset]) rfl ?_
  refine XS.iload X0.here hx rfl (hb hby dqN_3) rfl ?_
  refine XS.iload X0.here hx rfl (hb hby dqN_5) rfl ?_
  refine XS.icmpNo X0.here hx rfl (hb hby dqN_7) rfl (tlt (by decide)).2.1 ?_
  refine XS.aloadN X0.here hx rfl (hb hby dqN_10) rfl rfl ?_
  refine XS.iloadN X0.here hx rfl (hb hby dqN_11) rfl ?_
  exact hq)
 obtain ⟨cl2, Ar2, -, S2, -, G2, -⟩ := id P0
 have hi2 := inb_of (j := (0 : Int32)) S2 ⟨by decide, by decide⟩
 have st2 := fun tt => X0.caload hx (j := (0 : Int32)) (v := (.int d0)) (by rw [e0]; exact Ar2.1) (State.isArrayOf_alike hZ.alike Ar2.2.1) Ar2.2.2 hi2 (G2.at hi2 rfl) (g := (mkF m 12 #[(vr b), (vi 0), (vr t), (vi 0), (vi 5), (vi 0), .unset] [(.int 0), (.ref b)])) rfl rfl (hb hby dqN_12) tt
 have k2 : AtQ p e below S0 s₁ m 13 #[(vr b), (vi 0), (vr t), (vi 0), (vi 5), (vi 0), .unset] [(.int d0)] := fun tt hq => k1 tt (st2 tt hq)
 have k3 : AtQ p e below S0 s₁ m 31 #[(vr b), (vi 0), (vr t), (vi 0), (vi 5), (vi 0), (vi d0)] [(.int (d0.toInt8.toInt32)), (.int 0), (.ref t)] := fun tt hq => k2 tt (by
  refine XS.istore X0.here hx rfl (hb hby dqN_13) rfl (l' := #[(vr b), (vi 0), (vr t), (vi 0), (vi 5), (vi 0), (vi d0)]) rfl ?_
  refine XS.iload X0.here hx rfl (hb hby dqN_15) rfl ?_
  refine XS.sipush X0.here hx rfl (hb hby dqN_17) ?_
  refine XS.icmpYes X0.here hx rfl (pc0 := 20) (pc' := 26) rfl (hb hby dqN_20) rfl (flt hd0).2.2.2 (by decide) (by decide) ?_
  refine XS.aloadN X0.here hx rfl (hb hby dqN_26) rfl rfl ?_
  refine XS.iloadN X0.here hx rfl (hb hby dqN_27) rfl ?_
  refine XS.iload X0.here hx rfl (hb hby dqN_28) rfl ?_
  refine XS.i2b X0.here hx rfl (hb hby dqN_30) rfl ?_
  exact hq)
 obtain ⟨cl4, Ar4, q4, S4, M4, G4, J4⟩ := id P1
 obtain ⟨T4, h4, X4, e4, W4, st4⟩ := stB X0 hx hZ e0 Ar4 (j := (0 : Int32)) (inb_of S4 (⟨by decide, by decide⟩)) (g := (mkF m 31 #[(vr b), (vi 0), (vr t), (vi 0), (vi 5), (vi 0), (vi d0)] [(.int (d0.toInt8.toInt32)), (.int 0), (.ref t)])) rfl rfl (hb hby dqN_31)
 have k4 : AtQ p e below S0 T4 m 32 #[(vr b), (vi 0), (vr t), (vi 0), (vi 5), (vi 0), (vi d0)] [] := fun tt hq => k3 tt (st4 tt hq)
 have z4 : h4.size = h0.size := W4.size
 have V4 : Arv Z h4 t kt .byte (5 : Int32) [(.int (nar .byte (d0.toInt8.toInt32))), (.int 0), (.int 0), (.int 0), (.int 0)] (.int 0) := Arv.set Ar4 q4 S4 M4 G4 J4 (fits_nar_byte _) W4 0 rfl (Nat.le_of_ble_eq_true rfl)
 have N4 := Fr.snoc X4 N0 (by omega : n0 ≤ t)
 have f5 : Arv Z h4 b kb .char (5 : Int32) [(.int d0), (.int d1), (.int d2), (.int d3), (.int d4)] (.int 0) := (P0.other W4 (adr_ne (by omega)))
 have k6 : AtQ p e below S0 T4 m 12 #[(vr b), (vi 1), (vr t), (vi 1), (vi 5), (vi 1), (vi d0)] [(.int 1), (.ref b)] := fun tt hq => k4 tt (by
  refine XS.iinc X4.here hx rfl (hb hby dqN_32) rfl (l' := #[(vr b), (vi 1), (vr t), (vi 0), (vi 5), (vi 0), (vi d0)]) rfl ?_
  refine XS.iinc X4.here hx rfl (hb hby dqN_35) rfl (l' := #[(vr b), (vi 1), (vr t), (vi 1), (vi 5), (vi 0), (vi d0)]) rfl ?_
  refine XS.iinc X4.here hx rfl (hb hby dqN_38) rfl (l' := #[(vr b), (vi 1), (vr t), (vi 1), (vi 5), (vi 1), (vi d0)]) rfl ?_
  refine XS.goto X4.here hx rfl (pc0 := 41) (pc' := 3) rfl (hb hby dqN_41) (by decide) (by decide) ?_
  refine XS.iload X4.here hx rfl (hb hby dqN_3) rfl ?_
  refine XS.iload X4.here hx rfl (hb hby dqN_5) rfl ?_
  refine XS.icmpNo X4.here hx rfl (hb hby dqN_7) rfl (tlt (by decide)).2.1 ?_
  refine XS.aloadN X4.here hx rfl (hb hby dqN_10) rfl rfl ?_
  refine XS.iloadN X4.here hx rfl (hb hby dqN_11) rfl ?_
  exact hq)
 obtain ⟨cl7, Ar7, -, S7, -, G7, -⟩ := id f5
 have hi7 := inb_of (j := (1 : Int32)) S7 ⟨by decide, by decide⟩
 have st7 := fun tt => X4.caload hx (j := (1 : Int32)) (v := (.int d1)) (by rw [e4]; exact Ar7.1) (State.isArrayOf_alike hZ.alike Ar7.2.1) Ar7.2.2 hi7 (G7.at hi7 rfl) (g := (mkF m 12 #[(vr b), (vi 1), (vr t), (vi 1), (vi 5), (vi 1), (vi d0)] [(.int 1), (.ref b)])) rfl rfl (hb hby dqN_12) tt
 have k7 : AtQ p e below S0 T4 m 13 #[(vr b), (vi 1), (vr t), (vi 1), (vi 5), (vi 1), (vi d0)] [(.int d1)] := fun tt hq => k6 tt (st7 tt hq)
 have k8 : AtQ p e below S0 T4 m 31 #[(vr b), (vi 1), (vr t), (vi 1), (vi 5), (vi 1), (vi d1)] [(.int (d1.toInt8.toInt32)), (.int 1), (.ref t)] := fun tt hq => k7 tt (by
  refine XS.istore X4.here hx rfl (hb hby dqN_13) rfl (l' := #[(vr b), (vi 1), (vr t), (vi 1), (vi 5), (vi 1), (vi d1)]) rfl ?_
  refine XS.iload X4.here hx rfl (hb hby dqN_15) rfl ?_
  refine XS.sipush X4.here hx rfl (hb hby dqN_17) ?_
  refine XS.icmpYes X4.here hx rfl (pc0 := 20) (pc' := 26) rfl (hb hby dqN_20) rfl (flt hd1).2.2.2 (by decide) (by decide) ?_
  refine XS.aloadN X4.here hx rfl (hb hby dqN_26) rfl rfl ?_
  refine XS.iloadN X4.here hx rfl (hb hby dqN_27) rfl ?_
  refine XS.iload X4.here hx rfl (hb hby dqN_28) rfl ?_
  refine XS.i2b X4.here hx rfl (hb hby dqN_30) rfl ?_
  exact hq)
 obtain ⟨cl9, Ar9, q9, S9, M9, G9, J9⟩ := id V4
 obtain ⟨T9, h9, X9, e9, W9, st9⟩ := stB X4 hx hZ e4 Ar9 (j := (1 : Int32)) (inb_of S9 (⟨by decide, by decide⟩)) (g := (mkF m 31 #[(vr b), (vi 1), (vr t), (vi 1), (vi 5), (vi 1), (vi d1)] [(.int (d1.toInt8.toInt32)), (.int 1), (.ref t)])) rfl rfl (hb hby dqN_31)
 have k9 : AtQ p e below S0 T9 m 32 #[(vr b), (vi 1), (vr t), (vi 1), (vi 5), (vi 1), (vi d1)] [] := fun tt hq => k8 tt (st9 tt hq)
 have z9 : h9.size = h4.size := W9.size
 have V9 : Arv Z h9 t kt .byte (5 : Int32) [(.int (nar .byte (d0.toInt8.toInt32))), (.int (nar .byte (d1.toInt8.toInt32))), (.int 0), (.int 0), (.int 0)] (.int 0) := Arv.set Ar9 q9 S9 M9 G9 J9 (fits_nar_byte _) W9 1 rfl (Nat.le_of_ble_eq_true rfl)
 have N9 := Fr.snoc X9 N4 (by omega : n0 ≤ t)
 have f10 : Arv Z h9 b kb .char (5 : Int32) [(.int d0), (.int d1), (.int d2), (.int d3), (.int d4)] (.int 0) := (f5.other W9 (adr_ne (by omega)))
 have k11 : AtQ p e below S0 T9 m 12 #[(vr b), (vi 2), (vr t), (vi 2), (vi 5), (vi 2), (vi d1)] [(.int 2), (.ref b)] := fun tt hq => k9 tt (by
  refine XS.iinc X9.here hx rfl (hb hby dqN_32) rfl (l' := #[(vr b), (vi 2), (vr t), (vi 1), (vi 5), (vi 1), (vi d1)]) rfl ?_
  refine XS.iinc X9.here hx rfl (hb hby dqN_35) rfl (l' := #[(vr b), (vi 2), (vr t), (vi 2), (vi 5), (vi 1), (vi d1)]) rfl ?_
  refine XS.iinc X9.here hx rfl (hb hby dqN_38) rfl (l' := #[(vr b), (vi 2), (vr t), (vi 2), (vi 5), (vi 2), (vi d1)]) rfl ?_
  refine XS.goto X9.here hx rfl (pc0 := 41) (pc' := 3) rfl (hb hby dqN_41) (by decide) (by decide) ?_
  refine XS.iload X9.here hx rfl (hb hby dqN_3) rfl ?_
  refine XS.iload X9.here hx rfl (hb hby dqN_5) rfl ?_
  refine XS.icmpNo X9.here hx rfl (hb hby dqN_7) rfl (tlt (by decide)).2.1 ?_
  refine XS.aloadN X9.here hx rfl (hb hby dqN_10) rfl rfl ?_
  refine XS.iloadN X9.here hx rfl (hb hby dqN_11) rfl ?_
  exact hq)
 obtain ⟨cl12, Ar12, -, S12, -, G12, -⟩ := id f10
 have hi12 := inb_of (j := (2 : Int32)) S12 ⟨by decide, by decide⟩
 have st12 := fun tt => X9.caload hx (j := (2 : Int32)) (v := (.int d2)) (by rw [e9]; exact Ar12.1) (State.isArrayOf_alike hZ.alike Ar12.2.1) Ar12.2.2 hi12 (G12.at hi12 rfl) (g := (mkF m 12 #[(vr b), (vi 2), (vr t), (vi 2), (vi 5), (vi 2), (vi d1)] [(.int 2), (.ref b)])) rfl rfl (hb hby dqN_12) tt
 have k12 : AtQ p e below S0 T9 m 13 #[(vr b), (vi 2), (vr t), (vi 2), (vi 5), (vi 2), (vi d1)] [(.int d2)] := fun tt hq => k11 tt (st12 tt hq)
 have k13 : AtQ p e below S0 T9 m 31 #[(vr b), (vi 2), (vr t), (vi 2), (vi 5), (vi 2), (vi d2)] [(.int (d2.toInt8.toInt32)), (.int 2), (.ref t)] := fun tt hq => k12 tt (by
  refine XS.istore X9.here hx rfl (hb hby dqN_13) rfl (l' := #[(vr b), (vi 2), (vr t), (vi 2), (vi 5), (vi 2), (vi d2)]) rfl ?_
  refine XS.iload X9.here hx rfl (hb hby dqN_15) rfl ?_
  refine XS.sipush X9.here hx rfl (hb hby dqN_17) ?_
  refine XS.icmpYes X9.here hx rfl (pc0 := 20) (pc' := 26) rfl (hb hby dqN_20) rfl (flt hd2).2.2.2 (by decide) (by decide) ?_
  refine XS.aloadN X9.here hx rfl (hb hby dqN_26) rfl rfl ?_
  refine XS.iloadN X9.here hx rfl (hb hby dqN_27) rfl ?_
  refine XS.iload X9.here hx rfl (hb hby dqN_28) rfl ?_
  refine XS.i2b X9.here hx rfl (hb hby dqN_30) rfl ?_
  exact hq)
 obtain ⟨cl14, Ar14, q14, S14, M14, G14, J14⟩ := id V9
 obtain ⟨T14, h14, X14, e14, W14, st14⟩ := stB X9 hx hZ e9 Ar14 (j := (2 : Int32)) (inb_of S14 (⟨by decide, by decide⟩)) (g := (mkF m 31 #[(vr b), (vi 2), (vr t), (vi 2), (vi 5), (vi 2), (vi d2)] [(.int (d2.toInt8.toInt32)), (.int 2), (.ref t)])) rfl rfl (hb hby dqN_31)
 have k14 : AtQ p e below S0 T14 m 32 #[(vr b), (vi 2), (vr t), (vi 2), (vi 5), (vi 2), (vi d2)] [] := fun tt hq => k13 tt (st14 tt hq)
 have z14 : h14.size = h9.size := W14.size
 have V14 : Arv Z h14 t kt .byte (5 : Int32) [(.int (nar .byte (d0.toInt8.toInt32))), (.int (nar .byte (d1.toInt8.toInt32))), (.int (nar .byte (d2.toInt8.toInt32))), (.int 0), (.int 0)] (.int 0) := Arv.set Ar14 q14 S14 M14 G14 J14 (fits_nar_byte _) W14 2 rfl (Nat.le_of_ble_eq_true rfl)
 have N14 := Fr.snoc X14 N9 (by omega : n0 ≤ t)
 have f15 : Arv Z h14 b kb .char (5 : Int32) [(.int d0), (.int d1), (.int d2), (.int d3), (.int d4)] (.int 0) := (f10.other W14 (adr_ne (by omega)))
 have k16 : AtQ p e below S0 T14 m 12 #[(vr b), (vi 3), (vr t), (vi 3), (vi 5), (vi 3), (vi d2)] [(.int 3), (.ref b)] := fun tt hq => k14 tt (by
  refine XS.iinc X14.here hx rfl (hb hby dqN_32) rfl (l' := #[(vr b), (vi 3), (vr t), (vi 2), (vi 5), (vi 2), (vi d2)]) rfl ?_
  refine XS.iinc X14.here hx rfl (hb hby dqN_35) rfl (l' := #[(vr b), (vi 3), (vr t), (vi 3), (vi 5), (vi 2), (vi d2)]) rfl ?_
  refine XS.iinc X14.here hx rfl (hb hby dqN_38) rfl (l' := #[(vr b), (vi 3), (vr t), (vi 3), (vi 5), (vi 3), (vi d2)]) rfl ?_
  refine XS.goto X14.here hx rfl (pc0 := 41) (pc' := 3) rfl (hb hby dqN_41) (by decide) (by decide) ?_
  refine XS.iload X14.here hx rfl (hb hby dqN_3) rfl ?_
  refine XS.iload X14.here hx rfl (hb hby dqN_5) rfl ?_
  refine XS.icmpNo X14.here hx rfl (hb hby dqN_7) rfl (tlt (by decide)).2.1 ?_
  refine XS.aloadN X14.here hx rfl (hb hby dqN_10) rfl rfl ?_
  refine XS.iloadN X14.here hx rfl (hb hby dqN_11) rfl ?_
  exact hq)
 obtain ⟨cl17, Ar17, -, S17, -, G17, -⟩ := id f15
 have hi17 := inb_of (j := (3 : Int32)) S17 ⟨by decide, by decide⟩
 have st17 := fun tt => X14.caload hx (j := (3 : Int32)) (v := (.int d3)) (by rw [e14]; exact Ar17.1) (State.isArrayOf_alike hZ.alike Ar17.2.1) Ar17.2.2 hi17 (G17.at hi17 rfl) (g := (mkF m 12 #[(vr b), (vi 3), (vr t), (vi 3), (vi 5), (vi 3), (vi d2)] [(.int 3), (.ref b)])) rfl rfl (hb hby dqN_12) tt
 have k17 : AtQ p e below S0 T14 m 13 #[(vr b), (vi 3), (vr t), (vi 3), (vi 5), (vi 3), (vi d2)] [(.int d3)] := fun tt hq => k16 tt (st17 tt hq)
 have k18 : AtQ p e below S0 T14 m 25 #[(vr b), (vi 3), (vr t), (vi 3), (vi 5), (vi 3), (vi d3)] [(.int 3)] := fun tt hq => k17 tt (by
  refine XS.istore X14.here hx rfl (hb hby dqN_13) rfl (l' := #[(vr b), (vi 3), (vr t), (vi 3), (vi 5), (vi 3), (vi d3)]) rfl ?_
  refine XS.iload X14.here hx rfl (hb hby dqN_15) rfl ?_
  refine XS.sipush X14.here hx rfl (hb hby dqN_17) ?_
  refine XS.icmpNo X14.here hx rfl (hb hby dqN_20) rfl (tlt hd3).2.2.2 ?_
  refine XS.iload X14.here hx rfl (hb hby dqN_23) rfl ?_
  exact hq)
 have hE := e14
 refine retInt X14 hx hret hlk (by simp) rfl (hb hby dqN_25) k18 ?_ (by decide) (by decide)
 try rw [hE]
 exact ⟨rfl, N14, ((((Keep.refl h0 [t]).wr W4 (Or.inl (by simp))).wr W9 (Or.inl (by simp))).wr W14 (Or.inl (by simp))), V14⟩
theorem rm_nbl5 (l : Launch) (Z : State) (a0 : Array Value) (hw : ∀ d ∈ tables_1, d.before a0 Z = true)  (h0 : Heap) (n0 : Nat) (hn0 : n0 ≤ h0.size)  :
  Con l Z yqS jdk_52_method_3_code 1 (some .int) [] rqA #[(.int 5)] h0 (fun v h L => v = some (.int 10) ∧ Fr n0 L ∧ h = h0) := by
 refine enter (Ls := #[(vi 5)]) (plainFor_of_name pn_0) (fun m => by exact entry_eq rfl) ?_
 intro p e s m below meth cd_ s₁ S0 hx hby hml hret hlk hnm hown hZ X0 e0 k0
 have N0 := Fr.nil n0
 have k1 : AtQ p e below S0 s₁ m 58 #[(vi 5)] [(.int 10)] := fun tt hq => k0 tt (by
  refine XS.iloadN X0.here hx rfl (hb hby dqP_0) rfl ?_
  refine XS.ifYes X0.here hx rfl (pc0 := 1) (pc' := 12) rfl (hb hby dqP_1) rfl ((if0 _ _).trans (flt (by decide)).2.1) (by decide) (by decide) ?_
  refine XS.iloadN X0.here hx rfl (hb hby dqP_12) rfl ?_
  refine X0.ldcInt hx hown (mvT hZ (wq hw 49 rfl)) (g := (mkF m 13 #[(vi 5)] [(.int 5)])) rfl (hb hby dqP_13) _ ?_
  refine XS.icmpYes X0.here hx rfl (pc0 := 15) (pc' := 55) rfl (hb hby dqP_15) rfl (tlt (by decide)).1 (by decide) (by decide) ?_
  refine XS.iloadN X0.here hx rfl (hb hby dqP_55) rfl ?_
  refine XS.iconst X0.here hx rfl (hb hby dqP_56) ?_
  refine XS.ishl X0.here hx rfl (hb hby dqP_57) rfl ?_
  exact hq)
 have hE := e0
 refine retInt X0 hx hret hlk (by simp) rfl (hb hby dqP_58) k1 ?_ (by decide) (by decide)
 try rw [hE]
 exact ⟨rfl, N0, rfl⟩
theorem rm_nbf5 (l : Launch) (Z : State) (a0 : Array Value) (hw : ∀ d ∈ tables_1, d.before a0 Z = true)  (h0 : Heap) (n0 : Nat) (hn0 : n0 ≤ h0.size)  :
  Con l Z yqT jdk_52_method_2_code 1 (some (.array .byte)) [] rqU #[(.int 5)] h0 (fun v h L => ∃ (t : Addr) (k : ClassId), v = some (.ref t) ∧ Fr n0 L ∧ h0.size ≤ t ∧ Keep h0 h [] ∧ Arv Z h t k .byte (10 : Int32) [(.int 0), (.int 0), (.int 0), (.int 0), (.int 0), (.int 0), (.int 0), (.int 0), (.int 0), (.int 0)] (.int 0)) := by
 refine enter (Ls := #[(vi 5)]) (plainFor_of_name pn_0) (fun m => by exact entry_eq rfl) ?_
 intro p e s m below meth cd_ s₁ S0 hx hby hml hret hlk hnm hown hZ X0 e0 k0
 have N0 := Fr.nil n0
 have k1 : AtQ p e below S0 s₁ m 1 #[(vi 5)] [(.int 5)] := fun tt hq => k0 tt (by
  refine XS.iloadN X0.here hx rfl (hb hby dqO_0) rfl ?_
  exact hq)
 obtain ⟨_, T2, L2, X2, ⟨rfl, Nq2, eq2⟩, k2a⟩ := callS' X0 hx hZ (y := yqS) hown (wq hw 46 rfl) (wq hw 47 rfl) (wq hw 35 rfl) (wq hw 48 rfl) (by decide) (backC (W := 0) (rm_nbl5 l Z a0 hw h0 n0 (by omega)) hZ (wq hw 48 rfl) (wq hw 35 rfl) (by decide) (by decide)) e0 (argsL := [(.int 5)]) (rest := []) rfl rfl pd_13 rfl (by rw [hml]; rfl) (hb hby dqO_1) (Nat.le_of_eq rfl) (by decide) (by decide) k1
 have k2 : AtQ p e below S0 T2 m 4 #[(vi 5)] [(.int 10)] := k2a
 have N2 := N0.app Nq2
 have e2 : T2.heap = h0 := eq2
 obtain ⟨T3, h3, c3, X3, e3, E3, A3, st3⟩ := newP X2 hx hZ (wq hw 16 rfl) e2 (g := (mkF m 4 #[(vi 5)] [(.int 10)])) rfl (hb hby dqO_4) rfl (by decide) (cap := 10) (by decide) (by decide) (by decide) (by decide)
 obtain ⟨b3, g3⟩ : ∃ z, z = h0.size := ⟨_, rfl⟩
 rw [← g3] at A3 st3
 have k3 : AtQ p e below S0 T3 m 6 #[(vi 5)] [(.ref b3)] := fun tt hq => k2 tt (st3 tt hq)
 have z3 : h0.size ≤ h3.size := E3.1
 have V3 : Arv Z h3 b3 c3 .byte (10 : Int32) [(.int 0), (.int 0), (.int 0), (.int 0), (.int 0), (.int 0), (.int 0), (.int 0), (.int 0), (.int 0)] (.int 0) := (Arv.new A3 (by decide)).pad (pad_rep [] (.int 0) 10)
 have y3 : @LT.lt Nat instLTNat b3 h3.size := V3.lt
 have hE := e3
 refine retRef X3 hx hret hlk rfl rfl (hb hby dqO_6) k3 ?_ (by decide) (by decide)
 try rw [hE]
 exact ⟨b3, _, rfl, N2, (by omega), ((Keep.refl h0 []).ext E3), V3⟩
theorem rm_tb5 (l : Launch) (Z : State) (a0 : Array Value) (hw : ∀ d ∈ tables_1, d.before a0 Z = true) (b : Addr) (kb : ClassId) (d0 : Int32) (d1 : Int32) (d2 : Int32) (d3 : Int32) (d4 : Int32) (h0 : Heap) (n0 : Nat) (hn0 : n0 ≤ h0.size) (S_ad : Sta Z Z.heap "java/lang/StringUTF16" "$assertionsDisabled" "Z" (.int 1)) (S_hi : Sta Z Z.heap "java/lang/StringUTF16" "HI_BYTE_SHIFT" "I" (.int 0)) (S_lo : Sta Z Z.heap "java/lang/StringUTF16" "LO_BYTE_SHIFT" "I" (.int 8)) (O0 : Old Z n0 h0) (P0 : Arv Z h0 b kb .char (5 : Int32) [(.int d0), (.int d1), (.int d2), (.int d3), (.int d4)] (.int 0)) (yb : @LT.lt Nat instLTNat b h0.size) :
  Con l Z yqV jdk_52_method_14_code 5 (some (.array .byte)) [] rqV #[(.ref b), (.int 0), (.int 5)] h0 (fun v h L => ∃ (t : Addr) (k : ClassId), v = some (.ref t) ∧ Fr n0 L ∧ h0.size ≤ t ∧ Keep h0 h [] ∧ Arv Z h t k .byte (10 : Int32) [(.int (ulo d0)), (.int (uhi d0)), (.int (ulo d1)), (.int (uhi d1)), (.int (ulo d2)), (.int (uhi d2)), (.int (ulo d3)), (.int (uhi d3)), (.int (ulo d4)), (.int (uhi d4))] (.int 0)) := by
 refine enter (Ls := #[(vr b), (vi 0), (vi 5), .unset, .unset]) (plainFor_of_name pn_0) (fun m => by exact entry_eq rfl) ?_
 intro p e s m below meth cd_ s₁ S0 hx hby hml hret hlk hnm hown hZ X0 e0 k0
 have N0 := Fr.nil n0
 have k1 : AtQ p e below S0 s₁ m 1 #[(vr b), (vi 0), (vi 5), .unset, .unset] [(.int 5)] := fun tt hq => k0 tt (by
  refine XS.iloadN X0.here hx rfl (hb hby dqK_0) rfl ?_
  exact hq)
 obtain ⟨_, T2, L2, X2, ⟨t2, kt2, rfl, Nq2, gt2, Kq2, V2⟩, k2a⟩ := callS' X0 hx hZ (y := yqT) hown (wq hw 43 rfl) (wq hw 44 rfl) (wq hw 35 rfl) (wq hw 45 rfl) (by decide) (backC (W := 0) (rm_nbf5 l Z a0 hw h0 n0 (by omega)) hZ (wq hw 45 rfl) (wq hw 35 rfl) (by decide) (by decide)) e0 (argsL := [(.int 5)]) (rest := []) rfl rfl pd_14 rfl (by rw [hml]; rfl) (hb hby dqK_1) (Nat.le_of_eq rfl) (by decide) (by decide) k1
 have k2 : AtQ p e below S0 T2 m 4 #[(vr b), (vi 0), (vi 5), .unset, .unset] [(.ref t2)] := k2a
 have N2 := N0.app Nq2
 obtain ⟨h2, e2⟩ : ∃ z, T2.heap = z := ⟨_, rfl⟩
 rw [e2] at Kq2 V2
 have z2 : h0.size ≤ h2.size := Kq2.1
 have y2 : @LT.lt Nat instLTNat t2 h2.size := V2.lt
 have f3 : Arv Z h2 b kb .char (5 : Int32) [(.int d0), (.int d1), (.int d2), (.int d3), (.int d4)] (.int 0) := (P0.keep Kq2 nin0)
 have k4 : AtQ p e below S0 T2 m 19 #[(vr b), (vi 0), (vi 5), (vr t2), (vi 0)] [(.int 0), (.ref b), (.int 0), (.ref t2)] := fun tt hq => k2 tt (by
  refine XS.astoreN X2.here hx rfl (hb hby dqK_4) rfl rfl (l' := #[(vr b), (vi 0), (vi 5), (vr t2), .unset]) rfl ?_
  refine XS.iconst X2.here hx rfl (hb hby dqK_5) ?_
  refine XS.istore X2.here hx rfl (hb hby dqK_6) rfl (l' := #[(vr b), (vi 0), (vi 5), (vr t2), (vi 0)]) rfl ?_
  refine XS.iload X2.here hx rfl (hb hby dqK_8) rfl ?_
  refine XS.iloadN X2.here hx rfl (hb hby dqK_10) rfl ?_
  refine XS.icmpNo X2.here hx rfl (hb hby dqK_11) rfl (tlt (by decide)).2.1 ?_
  refine XS.aloadN X2.here hx rfl (hb hby dqK_14) rfl rfl ?_
  refine XS.iload X2.here hx rfl (hb hby dqK_15) rfl ?_
  refine XS.aloadN X2.here hx rfl (hb hby dqK_17) rfl rfl ?_
  refine XS.iloadN X2.here hx rfl (hb hby dqK_18) rfl ?_
  exact hq)
 obtain ⟨cl5, Ar5, -, S5, -, G5, -⟩ := id f3
 have hi5 := inb_of (j := (0 : Int32)) S5 ⟨by decide, by decide⟩
 have st5 := fun tt => X2.caload hx (j := (0 : Int32)) (v := (.int d0)) (by rw [e2]; exact Ar5.1) (State.isArrayOf_alike hZ.alike Ar5.2.1) Ar5.2.2 hi5 (G5.at hi5 rfl) (g := (mkF m 19 #[(vr b), (vi 0), (vi 5), (vr t2), (vi 0)] [(.int 0), (.ref b), (.int 0), (.ref t2)])) rfl rfl (hb hby dqK_19) tt
 have k5 : AtQ p e below S0 T2 m 20 #[(vr b), (vi 0), (vi 5), (vr t2), (vi 0)] [(.int d0), (.int 0), (.ref t2)] := fun tt hq => k4 tt (st5 tt hq)
 have f6 : Old Z n0 h2 := (O0.keep Kq2 all0)
 obtain ⟨_, T7, L7, X7, ⟨rfl, Nq7, Kq7, V7⟩, k7a⟩ := callS' X2 hx hZ (y := yqU) hown (wq hw 50 rfl) (wq hw 51 rfl) (wq hw 35 rfl) (wq hw 52 rfl) (by decide) (backC (W := 0) (rm_put l Z a0 hw t2 kt2 (10 : Int32) _ (0 : Int32) (0 : Int32) 0 1 d0 [(.int (ulo d0)), (.int (uhi d0)), (.int 0), (.int 0), (.int 0), (.int 0), (.int 0), (.int 0), (.int 0), (.int 0)] h2 n0 (by omega) S_ad S_hi S_lo f6 V2 (by omega) (by decide) (by decide) (by decide) (by decide) (by decide) (Nat.le_of_ble_eq_true rfl) (Nat.le_of_ble_eq_true rfl) rfl) hZ (wq hw 52 rfl) (wq hw 35 rfl) (by decide) (by decide)) e2 (argsL := [(.ref t2), (.int 0), (.int d0)]) (rest := []) rfl rfl pd_15 rfl (by rw [hml]; rfl) (hb hby dqK_20) (Nat.le_of_eq rfl) (by decide) (by decide) k5
 have k7 : AtQ p e below S0 T7 m 23 #[(vr b), (vi 0), (vi 5), (vr t2), (vi 0)] [] := k7a
 have N7 := N2.app Nq7
 obtain ⟨h7, e7⟩ : ∃ z, T7.heap = z := ⟨_, rfl⟩
 rw [e7] at Kq7 V7
 have z7 : h2.size ≤ h7.size := Kq7.1
 have f8 : Arv Z h7 b kb .char (5 : Int32) [(.int d0), (.int d1), (.int d2), (.int d3), (.int d4)] (.int 0) := (f3.keep Kq7 (nin1 (by omega)))
 have k9 : AtQ p e below S0 T7 m 19 #[(vr b), (vi 1), (vi 5), (vr t2), (vi 1)] [(.int 1), (.ref b), (.int 1), (.ref t2)] := fun tt hq => k7 tt (by
  refine XS.iinc X7.here hx rfl (hb hby dqK_23) rfl (l' := #[(vr b), (vi 1), (vi 5), (vr t2), (vi 0)]) rfl ?_
  refine XS.iinc X7.here hx rfl (hb hby dqK_26) rfl (l' := #[(vr b), (vi 1), (vi 5), (vr t2), (vi 1)]) rfl ?_
  refine XS.goto X7.here hx rfl (pc0 := 29) (pc' := 8) rfl (hb hby dqK_29) (by decide) (by decide) ?_
  refine XS.iload X7.here hx rfl (hb hby dqK_8) rfl ?_
  refine XS.iloadN X7.here hx rfl (hb hby dqK_10) rfl ?_
  refine XS.icmpNo X7.here hx rfl (hb hby dqK_11) rfl (tlt (by decide)).2.1 ?_
  refine XS.aloadN X7.here hx rfl (hb hby dqK_14) rfl rfl ?_
  refine XS.iload X7.here hx rfl (hb hby dqK_15) rfl ?_
  refine XS.aloadN X7.here hx rfl (hb hby dqK_17) rfl rfl ?_
  refine XS.iloadN X7.here hx rfl (hb hby dqK_18) rfl ?_
  exact hq)
 obtain ⟨cl10, Ar10, -, S10, -, G10, -⟩ := id f8
 have hi10 := inb_of (j := (1 : Int32)) S10 ⟨by decide, by decide⟩
 have st10 := fun tt => X7.caload hx (j := (1 : Int32)) (v := (.int d1)) (by rw [e7]; exact Ar10.1) (State.isArrayOf_alike hZ.alike Ar10.2.1) Ar10.2.2 hi10 (G10.at hi10 rfl) (g := (mkF m 19 #[(vr b), (vi 1), (vi 5), (vr t2), (vi 1)] [(.int 1), (.ref b), (.int 1), (.ref t2)])) rfl rfl (hb hby dqK_19) tt
 have k10 : AtQ p e below S0 T7 m 20 #[(vr b), (vi 1), (vi 5), (vr t2), (vi 1)] [(.int d1), (.int 1), (.ref t2)] := fun tt hq => k9 tt (st10 tt hq)
 have f11 : Old Z n0 h7 := (f6.keep Kq7 (allS (by omega) all0))
 obtain ⟨_, T12, L12, X12, ⟨rfl, Nq12, Kq12, V12⟩, k12a⟩ := callS' X7 hx hZ (y := yqU) hown (wq hw 50 rfl) (wq hw 51 rfl) (wq hw 35 rfl) (wq hw 52 rfl) (by decide) (backC (W := 0) (rm_put l Z a0 hw t2 kt2 (10 : Int32) _ (1 : Int32) (2 : Int32) 2 3 d1 [(.int (ulo d0)), (.int (uhi d0)), (.int (ulo d1)), (.int (uhi d1)), (.int 0), (.int 0), (.int 0), (.int 0), (.int 0), (.int 0)] h7 n0 (by omega) S_ad S_hi S_lo f11 V7 (by omega) (by decide) (by decide) (by decide) (by decide) (by decide) (Nat.le_of_ble_eq_true rfl) (Nat.le_of_ble_eq_true rfl) rfl) hZ (wq hw 52 rfl) (wq hw 35 rfl) (by decide) (by decide)) e7 (argsL := [(.ref t2), (.int 1), (.int d1)]) (rest := []) rfl rfl pd_15 rfl (by rw [hml]; rfl) (hb hby dqK_20) (Nat.le_of_eq rfl) (by decide) (by decide) k10
 have k12 : AtQ p e below S0 T12 m 23 #[(vr b), (vi 1), (vi 5), (vr t2), (vi 1)] [] := k12a
 have N12 := N7.app Nq12
 obtain ⟨h12, e12⟩ : ∃ z, T12.heap = z := ⟨_, rfl⟩
 rw [e12] at Kq12 V12
 have z12 : h7.size ≤ h12.size := Kq12.1
 have f13 : Arv Z h12 b kb .char (5 : Int32) [(.int d0), (.int d1), (.int d2), (.int d3), (.int d4)] (.int 0) := (f8.keep Kq12 (nin1 (by omega)))
 have k14 : AtQ p e below S0 T12 m 19 #[(vr b), (vi 2), (vi 5), (vr t2), (vi 2)] [(.int 2), (.ref b), (.int 2), (.ref t2)] := fun tt hq => k12 tt (by
  refine XS.iinc X12.here hx rfl (hb hby dqK_23) rfl (l' := #[(vr b), (vi 2), (vi 5), (vr t2), (vi 1)]) rfl ?_
  refine XS.iinc X12.here hx rfl (hb hby dqK_26) rfl (l' := #[(vr b), (vi 2), (vi 5), (vr t2), (vi 2)]) rfl ?_
  refine XS.goto X12.here hx rfl (pc0 := 29) (pc' := 8) rfl (hb hby dqK_29) (by decide) (by decide) ?_
  refine XS.iload X12.here hx rfl (hb hby dqK_8) rfl ?_
  refine XS.iloadN X12.here hx rfl (hb hby dqK_10) rfl ?_
  refine XS.icmpNo X12.here hx rfl (hb hby dqK_11) rfl (tlt (by decide)).2.1 ?_
  refine XS.aloadN X12.here hx rfl (hb hby dqK_14) rfl rfl ?_
  refine XS.iload X12.here hx rfl (hb hby dqK_15) rfl ?_
  refine XS.aloadN X12.here hx rfl (hb hby dqK_17) rfl rfl ?_
  refine XS.iloadN X12.here hx rfl (hb hby dqK_18) rfl ?_
  exact hq)
 obtain ⟨cl15, Ar15, -, S15, -, G15, -⟩ := id f13
 have hi15 := inb_of (j := (2 : Int32)) S15 ⟨by decide, by decide⟩
 have st15 := fun tt => X12.caload hx (j := (2 : Int32)) (v := (.int d2)) (by rw [e12]; exact Ar15.1) (State.isArrayOf_alike hZ.alike Ar15.2.1) Ar15.2.2 hi15 (G15.at hi15 rfl) (g := (mkF m 19 #[(vr b), (vi 2), (vi 5), (vr t2), (vi 2)] [(.int 2), (.ref b), (.int 2), (.ref t2)])) rfl rfl (hb hby dqK_19) tt
 have k15 : AtQ p e below S0 T12 m 20 #[(vr b), (vi 2), (vi 5), (vr t2), (vi 2)] [(.int d2), (.int 2), (.ref t2)] := fun tt hq => k14 tt (st15 tt hq)
 have f16 : Old Z n0 h12 := (f11.keep Kq12 (allS (by omega) all0))
 obtain ⟨_, T17, L17, X17, ⟨rfl, Nq17, Kq17, V17⟩, k17a⟩ := callS' X12 hx hZ (y := yqU) hown (wq hw 50 rfl) (wq hw 51 rfl) (wq hw 35 rfl) (wq hw 52 rfl) (by decide) (backC (W := 0) (rm_put l Z a0 hw t2 kt2 (10 : Int32) _ (2 : Int32) (4 : Int32) 4 5 d2 [(.int (ulo d0)), (.int (uhi d0)), (.int (ulo d1)), (.int (uhi d1)), (.int (ulo d2)), (.int (uhi d2)), (.int 0), (.int 0), (.int 0), (.int 0)] h12 n0 (by omega) S_ad S_hi S_lo f16 V12 (by omega) (by decide) (by decide) (by decide) (by decide) (by decide) (Nat.le_of_ble_eq_true rfl) (Nat.le_of_ble_eq_true rfl) rfl) hZ (wq hw 52 rfl) (wq hw 35 rfl) (by decide) (by decide)) e12 (argsL := [(.ref t2), (.int 2), (.int d2)]) (rest := []) rfl rfl pd_15 rfl (by rw [hml]; rfl) (hb hby dqK_20) (Nat.le_of_eq rfl) (by decide) (by decide) k15
 have k17 : AtQ p e below S0 T17 m 23 #[(vr b), (vi 2), (vi 5), (vr t2), (vi 2)] [] := k17a
 have N17 := N12.app Nq17
 obtain ⟨h17, e17⟩ : ∃ z, T17.heap = z := ⟨_, rfl⟩
 rw [e17] at Kq17 V17
 have z17 : h12.size ≤ h17.size := Kq17.1
 have f18 : Arv Z h17 b kb .char (5 : Int32) [(.int d0), (.int d1), (.int d2), (.int d3), (.int d4)] (.int 0) := (f13.keep Kq17 (nin1 (by omega)))
 have k19 : AtQ p e below S0 T17 m 19 #[(vr b), (vi 3), (vi 5), (vr t2), (vi 3)] [(.int 3), (.ref b), (.int 3), (.ref t2)] := fun tt hq => k17 tt (by
  refine XS.iinc X17.here hx rfl (hb hby dqK_23) rfl (l' := #[(vr b), (vi 3), (vi 5), (vr t2), (vi 2)]) rfl ?_
  refine XS.iinc X17.here hx rfl (hb hby dqK_26) rfl (l' := #[(vr b), (vi 3), (vi 5), (vr t2), (vi 3)]) rfl ?_
  refine XS.goto X17.here hx rfl (pc0 := 29) (pc' := 8) rfl (hb hby dqK_29) (by decide) (by decide) ?_
  refine XS.iload X17.here hx rfl (hb hby dqK_8) rfl ?_
  refine XS.iloadN X17.here hx rfl (hb hby dqK_10) rfl ?_
  refine XS.icmpNo X17.here hx rfl (hb hby dqK_11) rfl (tlt (by decide)).2.1 ?_
  refine XS.aloadN X17.here hx rfl (hb hby dqK_14) rfl rfl ?_
  refine XS.iload X17.here hx rfl (hb hby dqK_15) rfl ?_
  refine XS.aloadN X17.here hx rfl (hb hby dqK_17) rfl rfl ?_
  refine XS.iloadN X17.here hx rfl (hb hby dqK_18) rfl ?_
  exact hq)
 obtain ⟨cl20, Ar20, -, S20, -, G20, -⟩ := id f18
 have hi20 := inb_of (j := (3 : Int32)) S20 ⟨by decide, by decide⟩
 have st20 := fun tt => X17.caload hx (j := (3 : Int32)) (v := (.int d3)) (by rw [e17]; exact Ar20.1) (State.isArrayOf_alike hZ.alike Ar20.2.1) Ar20.2.2 hi20 (G20.at hi20 rfl) (g := (mkF m 19 #[(vr b), (vi 3), (vi 5), (vr t2), (vi 3)] [(.int 3), (.ref b), (.int 3), (.ref t2)])) rfl rfl (hb hby dqK_19) tt
 have k20 : AtQ p e below S0 T17 m 20 #[(vr b), (vi 3), (vi 5), (vr t2), (vi 3)] [(.int d3), (.int 3), (.ref t2)] := fun tt hq => k19 tt (st20 tt hq)
 have f21 : Old Z n0 h17 := (f16.keep Kq17 (allS (by omega) all0))
 obtain ⟨_, T22, L22, X22, ⟨rfl, Nq22, Kq22, V22⟩, k22a⟩ := callS' X17 hx hZ (y := yqU) hown (wq hw 50 rfl) (wq hw 51 rfl) (wq hw 35 rfl) (wq hw 52 rfl) (by decide) (backC (W := 0) (rm_put l Z a0 hw t2 kt2 (10 : Int32) _ (3 : Int32) (6 : Int32) 6 7 d3 [(.int (ulo d0)), (.int (uhi d0)), (.int (ulo d1)), (.int (uhi d1)), (.int (ulo d2)), (.int (uhi d2)), (.int (ulo d3)), (.int (uhi d3)), (.int 0), (.int 0)] h17 n0 (by omega) S_ad S_hi S_lo f21 V17 (by omega) (by decide) (by decide) (by decide) (by decide) (by decide) (Nat.le_of_ble_eq_true rfl) (Nat.le_of_ble_eq_true rfl) rfl) hZ (wq hw 52 rfl) (wq hw 35 rfl) (by decide) (by decide)) e17 (argsL := [(.ref t2), (.int 3), (.int d3)]) (rest := []) rfl rfl pd_15 rfl (by rw [hml]; rfl) (hb hby dqK_20) (Nat.le_of_eq rfl) (by decide) (by decide) k20
 have k22 : AtQ p e below S0 T22 m 23 #[(vr b), (vi 3), (vi 5), (vr t2), (vi 3)] [] := k22a
 have N22 := N17.app Nq22
 obtain ⟨h22, e22⟩ : ∃ z, T22.heap = z := ⟨_, rfl⟩
 rw [e22] at Kq22 V22
 have z22 : h17.size ≤ h22.size := Kq22.1
 have f23 : Arv Z h22 b kb .char (5 : Int32) [(.int d0), (.int d1), (.int d2), (.int d3), (.int d4)] (.int 0) := (f18.keep Kq22 (nin1 (by omega)))
 have k24 : AtQ p e below S0 T22 m 19 #[(vr b), (vi 4), (vi 5), (vr t2), (vi 4)] [(.int 4), (.ref b), (.int 4), (.ref t2)] := fun tt hq => k22 tt (by
  refine XS.iinc X22.here hx rfl (hb hby dqK_23) rfl (l' := #[(vr b), (vi 4), (vi 5), (vr t2), (vi 3)]) rfl ?_
  refine XS.iinc X22.here hx rfl (hb hby dqK_26) rfl (l' := #[(vr b), (vi 4), (vi 5), (vr t2), (vi 4)]) rfl ?_
  refine XS.goto X22.here hx rfl (pc0 := 29) (pc' := 8) rfl (hb hby dqK_29) (by decide) (by decide) ?_
  refine XS.iload X22.here hx rfl (hb hby dqK_8) rfl ?_
  refine XS.iloadN X22.here hx rfl (hb hby dqK_10) rfl ?_
  refine XS.icmpNo X22.here hx rfl (hb hby dqK_11) rfl (tlt (by decide)).2.1 ?_
  refine XS.aloadN X22.here hx rfl (hb hby dqK_14) rfl rfl ?_
  refine XS.iload X22.here hx rfl (hb hby dqK_15) rfl ?_
  refine XS.aloadN X22.here hx rfl (hb hby dqK_17) rfl rfl ?_
  refine XS.iloadN X22.here hx rfl (hb hby dqK_18) rfl ?_
  exact hq)
 obtain ⟨cl25, Ar25, -, S25, -, G25, -⟩ := id f23
 have hi25 := inb_of (j := (4 : Int32)) S25 ⟨by decide, by decide⟩
 have st25 := fun tt => X22.caload hx (j := (4 : Int32)) (v := (.int d4)) (by rw [e22]; exact Ar25.1) (State.isArrayOf_alike hZ.alike Ar25.2.1) Ar25.2.2 hi25 (G25.at hi25 rfl) (g := (mkF m 19 #[(vr b), (vi 4), (vi 5), (vr t2), (vi 4)] [(.int 4), (.ref b), (.int 4), (.ref t2)])) rfl rfl (hb hby dqK_19) tt
 have k25 : AtQ p e below S0 T22 m 20 #[(vr b), (vi 4), (vi 5), (vr t2), (vi 4)] [(.int d4), (.int 4), (.ref t2)] := fun tt hq => k24 tt (st25 tt hq)
 have f26 : Old Z n0 h22 := (f21.keep Kq22 (allS (by omega) all0))
 obtain ⟨_, T27, L27, X27, ⟨rfl, Nq27, Kq27, V27⟩, k27a⟩ := callS' X22 hx hZ (y := yqU) hown (wq hw 50 rfl) (wq hw 51 rfl) (wq hw 35 rfl) (wq hw 52 rfl) (by decide) (backC (W := 0) (rm_put l Z a0 hw t2 kt2 (10 : Int32) _ (4 : Int32) (8 : Int32) 8 9 d4 [(.int (ulo d0)), (.int (uhi d0)), (.int (ulo d1)), (.int (uhi d1)), (.int (ulo d2)), (.int (uhi d2)), (.int (ulo d3)), (.int (uhi d3)), (.int (ulo d4)), (.int (uhi d4))] h22 n0 (by omega) S_ad S_hi S_lo f26 V22 (by omega) (by decide) (by decide) (by decide) (by decide) (by decide) (Nat.le_of_ble_eq_true rfl) (Nat.le_of_ble_eq_true rfl) rfl) hZ (wq hw 52 rfl) (wq hw 35 rfl) (by decide) (by decide)) e22 (argsL := [(.ref t2), (.int 4), (.int d4)]) (rest := []) rfl rfl pd_15 rfl (by rw [hml]; rfl) (hb hby dqK_20) (Nat.le_of_eq rfl) (by decide) (by decide) k25
 have k27 : AtQ p e below S0 T27 m 23 #[(vr b), (vi 4), (vi 5), (vr t2), (vi 4)] [] := k27a
 have N27 := N22.app Nq27
 obtain ⟨h27, e27⟩ : ∃ z, T27.heap = z := ⟨_, rfl⟩
 rw [e27] at Kq27 V27
 have z27 : h22.size ≤ h27.size := Kq27.1
 have k28 : AtQ p e below S0 T27 m 33 #[(vr b), (vi 5), (vi 5), (vr t2), (vi 5)] [(.ref t2)] := fun tt hq => k27 tt (by
  refine XS.iinc X27.here hx rfl (hb hby dqK_23) rfl (l' := #[(vr b), (vi 5), (vi 5), (vr t2), (vi 4)]) rfl ?_
  refine XS.iinc X27.here hx rfl (hb hby dqK_26) rfl (l' := #[(vr b), (vi 5), (vi 5), (vr t2), (vi 5)]) rfl ?_
  refine XS.goto X27.here hx rfl (pc0 := 29) (pc' := 8) rfl (hb hby dqK_29) (by decide) (by decide) ?_
  refine XS.iload X27.here hx rfl (hb hby dqK_8) rfl ?_
  refine XS.iloadN X27.here hx rfl (hb hby dqK_10) rfl ?_
  refine XS.icmpYes X27.here hx rfl (pc0 := 11) (pc' := 32) rfl (hb hby dqK_11) rfl (flt (by decide)).2.1 (by decide) (by decide) ?_
  refine XS.aloadN X27.here hx rfl (hb hby dqK_32) rfl rfl ?_
  exact hq)
 have hE := e27
 refine retRef X27 hx hret hlk rfl rfl (hb hby dqK_33) k28 ?_ (by decide) (by decide)
 try rw [hE]
 exact ⟨t2, _, rfl, N27, (by omega), (((((((Keep.refl h0 []).trans Kq2 all0).trans Kq7 (allS (Or.inr (by omega)) all0)).trans Kq12 (allS (Or.inr (by omega)) all0)).trans Kq17 (allS (Or.inr (by omega)) all0)).trans Kq22 (allS (Or.inr (by omega)) all0)).trans Kq27 (allS (Or.inr (by omega)) all0)), V27⟩
theorem rm_c3_5_3 (l : Launch) (Z : State) (a0 : Array Value) (hw : ∀ d ∈ tables_1, d.before a0 Z = true) (b : Addr) (kb : ClassId) (d0 : Int32) (d1 : Int32) (d2 : Int32) (d3 : Int32) (d4 : Int32) (h0 : Heap) (n0 : Nat) (hn0 : n0 ≤ h0.size) (S_ad : Sta Z Z.heap "java/lang/StringUTF16" "$assertionsDisabled" "Z" (.int 1)) (S_hi : Sta Z Z.heap "java/lang/StringUTF16" "HI_BYTE_SHIFT" "I" (.int 0)) (S_lo : Sta Z Z.heap "java/lang/StringUTF16" "LO_BYTE_SHIFT" "I" (.int 8)) (O0 : Old Z n0 h0) (P0 : Arv Z h0 b kb .char (5 : Int32) [(.int d0), (.int d1), (.int d2), (.int d3), (.int d4)] (.int 0)) (yb : @LT.lt Nat instLTNat b h0.size) (hd0 : ¬ (255 : Int32) < d0) (hd1 : ¬ (255 : Int32) < d1) (hd2 : ¬ (255 : Int32) < d2) (hd3 : (255 : Int32) < d3) (g0 : ¬ d3 < (0 : Int32)) (g1 : d3 < (65536 : Int32)) :
  Con l Z yqB jdk_52_method_16_code 6 (some (.array .byte)) [] rqB #[(.ref b), (.int 0), (.int 5)] h0 (fun v h L => ∃ (t : Addr) (k : ClassId), v = some (.ref t) ∧ Fr n0 L ∧ h0.size ≤ t ∧ Keep h0 h [] ∧ Arv Z h t k .byte (10 : Int32) [(.int (ulo d0)), (.int (uhi d0)), (.int (ulo d1)), (.int (uhi d1)), (.int (ulo d2)), (.int (uhi d2)), (.int (ulo d3)), (.int (uhi d3)), (.int (ulo d4)), (.int (uhi d4))] (.int 0)) := by
 refine enter (Ls := #[(vr b), (vi 0), (vi 5), .unset, .unset, .unset]) (plainFor_of_name pn_0) (fun m => by exact entry_eq rfl) ?_
 intro p e s m below meth cd_ s₁ S0 hx hby hml hret hlk hnm hown hZ X0 e0 k0
 have N0 := Fr.nil n0
 have k1 : AtQ p e below S0 s₁ m 1 #[(vr b), (vi 0), (vi 5), .unset, .unset, .unset] [(.int 5)] := fun tt hq => k0 tt (by
  refine XS.iloadN X0.here hx rfl (hb hby dqM_0) rfl ?_
  exact hq)
 obtain ⟨T2, h2, c2, X2, e2, E2, A2, st2⟩ := newP X0 hx hZ (wq hw 16 rfl) e0 (g := (mkF m 1 #[(vr b), (vi 0), (vi 5), .unset, .unset, .unset] [(.int 5)])) rfl (hb hby dqM_1) rfl (by decide) (cap := 5) (by decide) (by decide) (by decide) (by decide)
 obtain ⟨b2, g2⟩ : ∃ z, z = h0.size := ⟨_, rfl⟩
 rw [← g2] at A2 st2
 have k2 : AtQ p e below S0 T2 m 3 #[(vr b), (vi 0), (vi 5), .unset, .unset, .unset] [(.ref b2)] := fun tt hq => k1 tt (st2 tt hq)
 have z2 : h0.size ≤ h2.size := E2.1
 have V2 : Arv Z h2 b2 c2 .byte (5 : Int32) [(.int 0), (.int 0), (.int 0), (.int 0), (.int 0)] (.int 0) := (Arv.new A2 (by decide)).pad (pad_rep [] (.int 0) 5)
 have y2 : @LT.lt Nat instLTNat b2 h2.size := V2.lt
 have k3 : AtQ p e below S0 T2 m 9 #[(vr b), (vi 0), (vi 5), (vr b2), .unset, .unset] [(.int 5), (.int 0), (.ref b2), (.int 0), (.ref b)] := fun tt hq => k2 tt (by
  refine XS.astoreN X2.here hx rfl (hb hby dqM_3) rfl rfl (l' := #[(vr b), (vi 0), (vi 5), (vr b2), .unset, .unset]) rfl ?_
  refine XS.aloadN X2.here hx rfl (hb hby dqM_4) rfl rfl ?_
  refine XS.iloadN X2.here hx rfl (hb hby dqM_5) rfl ?_
  refine XS.aloadN X2.here hx rfl (hb hby dqM_6) rfl rfl ?_
  refine XS.iconst X2.here hx rfl (hb hby dqM_7) ?_
  refine XS.iloadN X2.here hx rfl (hb hby dqM_8) rfl ?_
  exact hq)
 have f4 : Arv Z h2 b kb .char (5 : Int32) [(.int d0), (.int d1), (.int d2), (.int d3), (.int d4)] (.int 0) := (P0.ext E2)
 obtain ⟨_, T5, L5, X5, ⟨rfl, Nq5, Kq5, V5⟩, k5a⟩ := callS' X2 hx hZ (y := yqA) hown (wq hw 37 rfl) (wq hw 38 rfl) (wq hw 35 rfl) (wq hw 39 rfl) (by decide) (backC (W := 0) (rm_c5_5_3 l Z a0 hw b kb b2 c2 d0 d1 d2 d3 d4 h2 n0 (by omega) f4 V2 (by omega) (by omega) hd0 hd1 hd2 hd3) hZ (wq hw 39 rfl) (wq hw 35 rfl) (by decide) (by decide)) e2 (argsL := [(.ref b), (.int 0), (.ref b2), (.int 0), (.int 5)]) (rest := []) rfl rfl pd_0 rfl (by rw [hml]; rfl) (hb hby dqM_9) (Nat.le_of_eq rfl) (by decide) (by decide) k3
 have k5 : AtQ p e below S0 T5 m 12 #[(vr b), (vi 0), (vi 5), (vr b2), .unset, .unset] [(.int 3)] := k5a
 have N5 := N0.app Nq5
 obtain ⟨h5, e5⟩ : ∃ z, T5.heap = z := ⟨_, rfl⟩
 rw [e5] at Kq5 V5
 have z5 : h2.size ≤ h5.size := Kq5.1
 have k6 : AtQ p e below S0 T5 m 23 #[(vr b), (vi 0), (vi 5), (vr b2), (vi 3), .unset] [(.int 5), (.int 0), (.ref b)] := fun tt hq => k5 tt (by
  refine XS.istore X5.here hx rfl (hb hby dqM_12) rfl (l' := #[(vr b), (vi 0), (vi 5), (vr b2), (vi 3), .unset]) rfl ?_
  refine XS.iload X5.here hx rfl (hb hby dqM_14) rfl ?_
  refine XS.iloadN X5.here hx rfl (hb hby dqM_16) rfl ?_
  refine XS.icmpNo X5.here hx rfl (hb hby dqM_17) rfl (feq (by decide)).1 ?_
  refine XS.aloadN X5.here hx rfl (hb hby dqM_20) rfl rfl ?_
  refine XS.iloadN X5.here hx rfl (hb hby dqM_21) rfl ?_
  refine XS.iloadN X5.here hx rfl (hb hby dqM_22) rfl ?_
  exact hq)
 have f7 : Old Z n0 h5 := ((O0.ext E2).keep Kq5 (allS (by omega) all0))
 have f8 : Arv Z h5 b kb .char (5 : Int32) [(.int d0), (.int d1), (.int d2), (.int d3), (.int d4)] (.int 0) := (f4.keep Kq5 (nin1 (by omega)))
 obtain ⟨_, T9, L9, X9, ⟨t9, kt9, rfl, Nq9, gt9, Kq9, V9⟩, k9a⟩ := callS' X5 hx hZ (y := yqV) hown (wq hw 40 rfl) (wq hw 41 rfl) (wq hw 35 rfl) (wq hw 42 rfl) (by decide) (backC (W := 0) (rm_tb5 l Z a0 hw b kb d0 d1 d2 d3 d4 h5 n0 (by omega) S_ad S_hi S_lo f7 f8 (by omega)) hZ (wq hw 42 rfl) (wq hw 35 rfl) (by decide) (by decide)) e5 (argsL := [(.ref b), (.int 0), (.int 5)]) (rest := []) rfl rfl pd_16 rfl (by rw [hml]; rfl) (hb hby dqM_23) (Nat.le_of_eq rfl) (by decide) (by decide) k6
 have k9 : AtQ p e below S0 T9 m 26 #[(vr b), (vi 0), (vi 5), (vr b2), (vi 3), .unset] [(.ref t9)] := k9a
 have N9 := N5.app Nq9
 obtain ⟨h9, e9⟩ : ∃ z, T9.heap = z := ⟨_, rfl⟩
 rw [e9] at Kq9 V9
 have z9 : h5.size ≤ h9.size := Kq9.1
 have y9 : @LT.lt Nat instLTNat t9 h9.size := V9.lt
 have k10 : AtQ p e below S0 T9 m 32 #[(vr b), (vi 0), (vi 5), (vr b2), (vi 3), (vr t9)] [(.int 3), (.ref t9)] := fun tt hq => k9 tt (by
  refine XS.astore X9.here hx rfl (hb hby dqM_26) rfl rfl (l' := #[(vr b), (vi 0), (vi 5), (vr b2), (vi 3), (vr t9)]) rfl ?_
  refine XS.aload X9.here hx rfl (hb hby dqM_28) rfl rfl ?_
  refine XS.iload X9.here hx rfl (hb hby dqM_30) rfl ?_
  exact hq)
 have f11 : Old Z n0 h9 := (f7.keep Kq9 all0)
 obtain ⟨_, T12, L12, X12, ⟨rfl, Nq12, eq12⟩, k12a⟩ := callS' X9 hx hZ (y := yqW) hown (wq hw 56 rfl) (wq hw 57 rfl) (wq hw 35 rfl) (wq hw 58 rfl) (by decide) (backC (W := 0) (rm_get l Z a0 hw t9 kt9 (10 : Int32) _ (3 : Int32) (6 : Int32) (ulo d3) (uhi d3) d3 h9 n0 (by omega) S_ad S_hi S_lo f11 V9 (by decide) (by decide) (by decide) rfl rfl (own_gc g0 g1) g0 g1) hZ (wq hw 58 rfl) (wq hw 35 rfl) (by decide) (by decide)) e9 (argsL := [(.ref t9), (.int 3)]) (rest := []) rfl rfl pd_17 rfl (by rw [hml]; rfl) (hb hby dqM_32) (Nat.le_of_eq rfl) (by decide) (by decide) k10
 have k12 : AtQ p e below S0 T12 m 35 #[(vr b), (vi 0), (vi 5), (vr b2), (vi 3), (vr t9)] [(.int d3)] := k12a
 have N12 := N9.app Nq12
 have e12 : T12.heap = h9 := eq12
 have k13 : AtQ p e below S0 T12 m 56 #[(vr b), (vi 0), (vi 5), (vr b2), (vi 3), (vr t9)] [(.ref t9)] := fun tt hq => k12 tt (by
  refine XS.sipush X12.here hx rfl (hb hby dqM_35) ?_
  refine XS.icmpYes X12.here hx rfl (pc0 := 38) (pc' := 54) rfl (hb hby dqM_38) rfl (tlt hd3).2.2.1 (by decide) (by decide) ?_
  refine XS.aload X12.here hx rfl (hb hby dqM_54) rfl rfl ?_
  exact hq)
 have hE := e12
 refine retRef X12 hx hret hlk rfl rfl (hb hby dqM_56) k13 ?_ (by decide) (by decide)
 try rw [hE]
 exact ⟨t9, _, rfl, N12, (by omega), ((((Keep.refl h0 []).ext E2).trans Kq5 (allS (Or.inr (by omega)) all0)).trans Kq9 all0), V9⟩
theorem sec_m4 {l : Launch} {Z : State} {a0 : Array Value} (hw : ∀ d ∈ tables_1, d.before a0 Z = true) {zc : Int32} {r : Addr} {so : Addr} {a : Addr} {t : Addr} {kt : ClassId} {nb : Int32} {vs : List Value} {cd : Int32} {xl : Int32} {xc : Int32} {sl0 : Slot} {sl1 : Slot} {sl2 : Slot} {sl3 : Slot} {sl4 : Slot} {sl5 : Slot} {sl6 : Slot} {sl7 : Slot} {sl10 : Slot} {sl11 : Slot} {sl12 : Slot} {sl13 : Slot} {sl14 : Slot} {kk : Int32} {o0 : Int32} {o1 : Int32} {o2 : Int32} {o3 : Int32} {o4 : Int32} {p : Program} {e : Env} {s T0 S0 : State} {m : MethodId} {below : List Frame} {meth : Method} {cd_ : Code} {vm0 vm1 : Vm} {h0 hh : Heap} {n0 n1 cc ss : Nat} {as' : Array Value} {LL : List Loc} (hx : p.tables.exec = Jvm.exec) (hby : cd_.code = code) (hml : cd_.maxLocals = maxLocals) (hret : meth.sig.returnType = ret) (hlk : meth.locks = false) (hnm : meth.name = x.name) (hown : vm1.findClass x.cls = some m.cls) (hZ : Z.Warmed39 vm1) (X0 : Stand p l e room_1 (s.setVm vm1) m as' below meth cd_ T0 LL cc ss) (e0 : T0.heap = hh) (k0 : To p.tables e below S0 (T0.setTop (mkF m 242 #[sl0, sl1, sl2, sl3, sl4, sl5, sl6, sl7, (vi 4), (vi kk), sl10, sl11, sl12, sl13, sl14, (vr r), .unset, .unset] []))) (N0 : Fr n0 LL) (C0 : CHr Z own_EL vm0 h0 vm1 hh) (hS0 : s.Since vm1 n1) (hn1 : n1 ≤ hh.size) (hn0 : n0 ≤ hh.size) (hcc : cc ≤ room_1.cells) (hss : ss ≤ room_1.slots) (S_c : Sta Z Z.heap "java/lang/String" "COMPACT_STRINGS" "Z" (.int zc)) (hzc : ¬ zc = (0 : Int32)) (P0 : Exa Z hh r "com/example/ceruline/ceruline/parsing/SourceReader") (P1 : FqE Z hh r (.ref so)) (P2 : FqF Z hh r (.ref a)) (P3 : FqG Z hh r (.int o0)) (P4 : FqH Z hh r (.int xl)) (P5 : FqI Z hh r (.int xc)) (P6 : Exa Z hh a "java/lang/String") (P7 : FqA Z hh a (.ref t)) (P8 : FqB Z hh a (.int cd)) (P9 : Arv Z hh t kt .byte nb vs (.int 0)) (O0 : Old Z n0 hh) (hcd : narrow .byte (.int cd) = .int cd) (hln : (nb >>> (cd &&& 31)) = o4) (no0 : ¬ o0 = o4) (no1 : ¬ o1 = o4) (no2 : ¬ o2 = o4) (no3 : ¬ o3 = o4) (hk : kk = (0 : Int32) ∨ kk = (1 : Int32) ∨ kk = (2 : Int32) ∨ kk = (3 : Int32) ∨ kk = (4 : Int32)) (gr : n0 ≤ r) (nra : ¬ (@Eq Nat a r)) (nrt : ¬ (@Eq Nat t r)) (ha0 : ∀ (H : Heap) (xl xc : Int32), n0 ≤ H.size → Old Z n0 H → Exa Z H r "com/example/ceruline/ceruline/parsing/SourceReader" → FqE Z H r (.ref so) → FqF Z H r (.ref a) → FqG Z H r (.int o0) → FqH Z H r (.int xl) → FqI Z H r (.int xc) → Exa Z H a "java/lang/String" → FqA Z H a (.ref t) → FqB Z H a (.int cd) → Arv Z H t kt .byte nb vs (.int 0) → Con l Z yqR prog_66_method_4_code 2 none [] rqK #[(.ref r)] H (fun v h L => ∃ (y1 y2 : Int32), v = none ∧ Fr n0 L ∧ Keep H h [r] ∧ Exa Z h r "com/example/ceruline/ceruline/parsing/SourceReader" ∧ FqE Z h r (.ref so) ∧ FqF Z h r (.ref a) ∧ FqG Z h r (.int o1) ∧ FqH Z h r (.int y1) ∧ FqI Z h r (.int y2))) (ha1 : ∀ (H : Heap) (xl xc : Int32), n0 ≤ H.size → Old Z n0 H → Exa Z H r "com/example/ceruline/ceruline/parsing/SourceReader" → FqE Z H r (.ref so) → FqF Z H r (.ref a) → FqG Z H r (.int o1) → FqH Z H r (.int xl) → FqI Z H r (.int xc) → Exa Z H a "java/lang/String" → FqA Z H a (.ref t) → FqB Z H a (.int cd) → Arv Z H t kt .byte nb vs (.int 0) → Con l Z yqR prog_66_method_4_code 2 none [] rqK #[(.ref r)] H (fun v h L => ∃ (y1 y2 : Int32), v = none ∧ Fr n0 L ∧ Keep H h [r] ∧ Exa Z h r "com/example/ceruline/ceruline/parsing/SourceReader" ∧ FqE Z h r (.ref so) ∧ FqF Z h r (.ref a) ∧ FqG Z h r (.int o2) ∧ FqH Z h r (.int y1) ∧ FqI Z h r (.int y2))) (ha2 : ∀ (H : Heap) (xl xc : Int32), n0 ≤ H.size → Old Z n0 H → Exa Z H r "com/example/ceruline/ceruline/parsing/SourceReader" → FqE Z H r (.ref so) → FqF Z H r (.ref a) → FqG Z H r (.int o2) → FqH Z H r (.int xl) → FqI Z H r (.int xc) → Exa Z H a "java/lang/String" → FqA Z H a (.ref t) → FqB Z H a (.int cd) → Arv Z H t kt .byte nb vs (.int 0) → Con l Z yqR prog_66_method_4_code 2 none [] rqK #[(.ref r)] H (fun v h L => ∃ (y1 y2 : Int32), v = none ∧ Fr n0 L ∧ Keep H h [r] ∧ Exa Z h r "com/example/ceruline/ceruline/parsing/SourceReader" ∧ FqE Z h r (.ref so) ∧ FqF Z h r (.ref a) ∧ FqG Z h r (.int o3) ∧ FqH Z h r (.int y1) ∧ FqI Z h r (.int y2))) (ha3 : ∀ (H : Heap) (xl xc : Int32), n0 ≤ H.size → Old Z n0 H → Exa Z H r "com/example/ceruline/ceruline/parsing/SourceReader" → FqE Z H r (.ref so) → FqF Z H r (.ref a) → FqG Z H r (.int o3) → FqH Z H r (.int xl) → FqI Z H r (.int xc) → Exa Z H a "java/lang/String" → FqA Z H a (.ref t) → FqB Z H a (.int cd) → Arv Z H t kt .byte nb vs (.int 0) → Con l Z yqR prog_66_method_4_code 2 none [] rqK #[(.ref r)] H (fun v h L => ∃ (y1 y2 : Int32), v = none ∧ Fr n0 L ∧ Keep H h [r] ∧ Exa Z h r "com/example/ceruline/ceruline/parsing/SourceReader" ∧ FqE Z h r (.ref so) ∧ FqF Z h r (.ref a) ∧ FqG Z h r (.int o4) ∧ FqH Z h r (.int y1) ∧ FqI Z h r (.int y2))) :
  FinW p e below s room_1 S0 Z own_EL vm0 h0 (fun v h L => v = some (.int 1) ∧ Fr n0 L) := by
 rcases hk with hk | hk
 ·
  let l2 : Array Slot := #[sl0, sl1, sl2, sl3, sl4, sl5, sl6, sl7, (vi 4), (vi 0), sl10, sl11, sl12, sl13, sl14, (vr r), .unset, .unset]
  have k1 : AtQ p e below S0 T0 m 242 l2 [] := by
   have hq : AtQ p e below S0 T0 m 242 #[sl0, sl1, sl2, sl3, sl4, sl5, sl6, sl7, (vi 4), (vi kk), sl10, sl11, sl12, sl13, sl14, (vr r), .unset, .unset] [] := k0
   rw [hk] at hq; exact hq
  have k3 : AtQ p e below S0 T0 m 285 l2 [] := fun tt hq => k1 tt (by
   refine XS.iload X0.here hx rfl (hb hby at_242) rfl ?_
   refine XS.ifYes X0.here hx rfl (pc0 := 244) (pc' := 252) rfl (hb hby at_244) rfl ((if0 _ _).trans (flt (by decide)).2.2.2) (by decide) (by decide) ?_
   refine XS.iload X0.here hx rfl (hb hby at_252) rfl ?_
   refine XS.iconst X0.here hx rfl (hb hby at_254) ?_
   refine XS.icmpYes X0.here hx rfl (pc0 := 255) (pc' := 263) rfl (hb hby at_255) rfl (flt (by decide)).2.2.2 (by decide) (by decide) ?_
   refine XS.iload X0.here hx rfl (hb hby at_263) rfl ?_
   refine XS.iconst X0.here hx rfl (hb hby at_265) ?_
   refine XS.icmpYes X0.here hx rfl (pc0 := 266) (pc' := 274) rfl (hb hby at_266) rfl (flt (by decide)).2.2.2 (by decide) (by decide) ?_
   refine XS.iload X0.here hx rfl (hb hby at_274) rfl ?_
   refine XS.iconst X0.here hx rfl (hb hby at_276) ?_
   refine XS.icmpYes X0.here hx rfl (pc0 := 277) (pc' := 285) rfl (hb hby at_277) rfl (flt (by decide)).2.2.2 (by decide) (by decide) ?_
   exact hq)
  exact sec_t0 hw hx hby hml hret hlk hnm hown hZ X0 e0 k3 N0 C0 hS0 (by omega) (by omega) hcc hss S_c hzc P0 P1 P2 P3 P4 P5 P6 P7 P8 P9 O0 hcd hln (if_neg no0) (by decide)
 ·
  have hp4 : (0 : Int32) < kk := by rcases hk with hk | hk | hk | hk <;> rw [hk] <;> decide
  let l5 : Array Slot := #[sl0, sl1, sl2, sl3, sl4, sl5, sl6, sl7, (vi 4), (vi kk), sl10, sl11, sl12, sl13, sl14, (vr r), .unset, .unset]
  have k6 : AtQ p e below S0 T0 m 249 l5 [(.ref r)] := fun tt hq => k0 tt (by
   refine XS.iload X0.here hx rfl (hb hby at_242) rfl ?_
   refine XS.ifNo X0.here hx rfl (hb hby at_244) rfl ((if0 _ _).trans (tlt hp4).2.2.2) ?_
   refine XS.aload X0.here hx rfl (hb hby at_247) rfl rfl ?_
   exact hq)
  obtain ⟨_, T7, L7, X7, ⟨x7, y7x, rfl, Nq7, Kq7, P7_0, P7_1, P7_2, P7_3, P7_4, P7_5⟩, k7a⟩ := callV' X0 hx hZ (y := yqR) (z := yqR) hown (wq hw 94 rfl) (wq hw 95 rfl) (notFace_of_selects (args := #[]) (mvT hZ (wq hw 97 rfl))) (wq hw 97 rfl) (wq hw 96 rfl) (by decide) P0 (backC (W := 0) (ha0 hh xl xc (by omega) O0 P0 P1 P2 P3 P4 P5 P6 P7 P8 P9) hZ (wq hw 98 rfl) (wq hw 9 rfl) (by decide) (by decide)) e0 (argsL := []) (rest := []) rfl rfl pd_6 rfl (by rw [hml]; rfl) (hb hby at_249) (Nat.le_of_eq rfl) hcc hss k6
  have k7 : AtQ p e below S0 T7 m 252 l5 [] := k7a
  have N7 := N0.app Nq7
  obtain ⟨h7, e7⟩ : ∃ z, T7.heap = z := ⟨_, rfl⟩
  rw [e7] at Kq7 P7_0 P7_1 P7_2 P7_3 P7_4 P7_5
  have z7 : hh.size ≤ h7.size := Kq7.1
  have C7 := C0.trans (CHr.keep Kq7 (sfS (Safe.exa hZ.alike P0 (by decide) (by decide)) sf0) C0.1)
  rcases hk with hk | hk
  ·
   let l9 : Array Slot := #[sl0, sl1, sl2, sl3, sl4, sl5, sl6, sl7, (vi 4), (vi 1), sl10, sl11, sl12, sl13, sl14, (vr r), .unset, .unset]
   have k8 : AtQ p e below S0 T7 m 252 l9 [] := by
    have hq : AtQ p e below S0 T7 m 252 #[sl0, sl1, sl2, sl3, sl4, sl5, sl6, sl7, (vi 4), (vi kk), sl10, sl11, sl12, sl13, sl14, (vr r), .unset, .unset] [] := k7
    rw [hk] at hq; exact hq
   have k10 : AtQ p e below S0 T7 m 285 l9 [] := fun tt hq => k8 tt (by
    refine XS.iload X7.here hx rfl (hb hby at_252) rfl ?_
    refine XS.iconst X7.here hx rfl (hb hby at_254) ?_
    refine XS.icmpYes X7.here hx rfl (pc0 := 255) (pc' := 263) rfl (hb hby at_255) rfl (flt (by decide)).2.2.2 (by decide) (by decide) ?_
    refine XS.iload X7.here hx rfl (hb hby at_263) rfl ?_
    refine XS.iconst X7.here hx rfl (hb hby at_265) ?_
    refine XS.icmpYes X7.here hx rfl (pc0 := 266) (pc' := 274) rfl (hb hby at_266) rfl (flt (by decide)).2.2.2 (by decide) (by decide) ?_
    refine XS.iload X7.here hx rfl (hb hby at_274) rfl ?_
    refine XS.iconst X7.here hx rfl (hb hby at_276) ?_
    refine XS.icmpYes X7.here hx rfl (pc0 := 277) (pc' := 285) rfl (hb hby at_277) rfl (flt (by decide)).2.2.2 (by decide) (by decide) ?_
    exact hq)
   have f11 : Exa Z h7 a "java/lang/String" := (P6.keep Kq7)
   have f12 : FqA Z h7 a (.ref t) := (P7.keep Kq7 (nin1 (by omega)))
   have f13 : FqB Z h7 a (.int cd) := (P8.keep Kq7 (nin1 (by omega)))
   have f14 : Arv Z h7 t kt .byte nb vs (.int 0) := (P9.keep Kq7 (nin1 (by omega)))
   have f15 : Old Z n0 h7 := (O0.keep Kq7 (allS (by omega) all0))
   exact sec_t0 hw hx hby hml hret hlk hnm hown hZ X7 e7 k10 N7 C7 hS0 (by omega) (by omega) hcc hss S_c hzc P7_0 P7_1 P7_2 P7_3 P7_4 P7_5 f11 f12 f13 f14 f15 hcd hln (if_neg no1) (by decide)
  ·
   have hp16 : (1 : Int32) < kk := by rcases hk with hk | hk | hk <;> rw [hk] <;> decide
   have k17 : AtQ p e below S0 T7 m 260 l5 [(.ref r)] := fun tt hq => k7 tt (by
    refine XS.iload X7.here hx rfl (hb hby at_252) rfl ?_
    refine XS.iconst X7.here hx rfl (hb hby at_254) ?_
    refine XS.icmpNo X7.here hx rfl (hb hby at_255) rfl (tlt hp16).2.2.2 ?_
    refine XS.aload X7.here hx rfl (hb hby at_258) rfl rfl ?_
    exact hq)
   have f18 : Old Z n0 h7 := (O0.keep Kq7 (allS (by omega) all0))
   have f19 : Exa Z h7 a "java/lang/String" := (P6.keep Kq7)
   have f20 : FqA Z h7 a (.ref t) := (P7.keep Kq7 (nin1 (by omega)))
   have f21 : FqB Z h7 a (.int cd) := (P8.keep Kq7 (nin1 (by omega)))
   have f22 : Arv Z h7 t kt .byte nb vs (.int 0) := (P9.keep Kq7 (nin1 (by omega)))
   obtain ⟨_, T23, L23, X23, ⟨x23, y23x, rfl, Nq23, Kq23, P23_0, P23_1, P23_2, P23_3, P23_4, P23_5⟩, k23a⟩ := callV' X7 hx hZ (y := yqR) (z := yqR) hown (wq hw 94 rfl) (wq hw 95 rfl) (notFace_of_selects (args := #[]) (mvT hZ (wq hw 97 rfl))) (wq hw 97 rfl) (wq hw 96 rfl) (by decide) P7_0 (backC (W := 0) (ha1 h7 x7 y7x (by omega) f18 P7_0 P7_1 P7_2 P7_3 P7_4 P7_5 f19 f20 f21 f22) hZ (wq hw 98 rfl) (wq hw 9 rfl) (by decide) (by decide)) e7 (argsL := []) (rest := []) rfl rfl pd_6 rfl (by rw [hml]; rfl) (hb hby at_260) (Nat.le_of_eq rfl) hcc hss k17
   have k23 : AtQ p e below S0 T23 m 263 l5 [] := k23a
   have N23 := N7.app Nq23
   obtain ⟨h23, e23⟩ : ∃ z, T23.heap = z := ⟨_, rfl⟩
   rw [e23] at Kq23 P23_0 P23_1 P23_2 P23_3 P23_4 P23_5
   have z23 : h7.size ≤ h23.size := Kq23.1
   have C23 := C7.trans (CHr.keep Kq23 (sfS (Safe.exa hZ.alike P7_0 (by decide) (by decide)) sf0) C7.1)
   rcases hk with hk | hk
   ·
    let l25 : Array Slot := #[sl0, sl1, sl2, sl3, sl4, sl5, sl6, sl7, (vi 4), (vi 2), sl10, sl11, sl12, sl13, sl14, (vr r), .unset, .unset]
    have k24 : AtQ p e below S0 T23 m 263 l25 [] := by
     have hq : AtQ p e below S0 T23 m 263 #[sl0, sl1, sl2, sl3, sl4, sl5, sl6, sl7, (vi 4), (vi kk), sl10, sl11, sl12, sl13, sl14, (vr r), .unset, .unset] [] := k23
     rw [hk] at hq; exact hq
    have k26 : AtQ p e below S0 T23 m 285 l25 [] := fun tt hq => k24 tt (by
     refine XS.iload X23.here hx rfl (hb hby at_263) rfl ?_
     refine XS.iconst X23.here hx rfl (hb hby at_265) ?_
     refine XS.icmpYes X23.here hx rfl (pc0 := 266) (pc' := 274) rfl (hb hby at_266) rfl (flt (by decide)).2.2.2 (by decide) (by decide) ?_
     refine XS.iload X23.here hx rfl (hb hby at_274) rfl ?_
     refine XS.iconst X23.here hx rfl (hb hby at_276) ?_
     refine XS.icmpYes X23.here hx rfl (pc0 := 277) (pc' := 285) rfl (hb hby at_277) rfl (flt (by decide)).2.2.2 (by decide) (by decide) ?_
     exact hq)
    have f27 : Exa Z h23 a "java/lang/String" := (f19.keep Kq23)
    have f28 : FqA Z h23 a (.ref t) := (f20.keep Kq23 (nin1 (by omega)))
    have f29 : FqB Z h23 a (.int cd) := (f21.keep Kq23 (nin1 (by omega)))
    have f30 : Arv Z h23 t kt .byte nb vs (.int 0) := (f22.keep Kq23 (nin1 (by omega)))
    have f31 : Old Z n0 h23 := (f18.keep Kq23 (allS (by omega) all0))
    exact sec_t0 hw hx hby hml hret hlk hnm hown hZ X23 e23 k26 N23 C23 hS0 (by omega) (by omega) hcc hss S_c hzc P23_0 P23_1 P23_2 P23_3 P23_4 P23_5 f27 f28 f29 f30 f31 hcd hln (if_neg no2) (by decide)
   ·
    have hp32 : (2 : Int32) < kk := by rcases hk with hk | hk <;> rw [hk] <;> decide
    have k33 : AtQ p e below S0 T23 m 271 l5 [(.ref r)] := fun tt hq => k23 tt (by
     refine XS.iload X23.here hx rfl (hb hby at_263) rfl ?_
     refine XS.iconst X23.here hx rfl (hb hby at_265) ?_
     refine XS.icmpNo X23.here hx rfl (hb hby at_266) rfl (tlt hp32).2.2.2 ?_
     refine XS.aload X23.here hx rfl (hb hby at_269) rfl rfl ?_
     exact hq)
    have f34 : Old Z n0 h23 := (f18.keep Kq23 (allS (by omega) all0))
    have f35 : Exa Z h23 a "java/lang/String" := (f19.keep Kq23)
    have f36 : FqA Z h23 a (.ref t) := (f20.keep Kq23 (nin1 (by omega)))
    have f37 : FqB Z h23 a (.int cd) := (f21.keep Kq23 (nin1 (by omega)))
    have f38 : Arv Z h23 t kt .byte nb vs (.int 0) := (f22.keep Kq23 (nin1 (by omega)))
    obtain ⟨_, T39, L39, X39, ⟨x39, y39x, rfl, Nq39, Kq39, P39_0, P39_1, P39_2, P39_3, P39_4, P39_5⟩, k39a⟩ := callV' X23 hx hZ (y := yqR) (z := yqR) hown (wq hw 94 rfl) (wq hw 95 rfl) (notFace_of_selects (args := #[]) (mvT hZ (wq hw 97 rfl))) (wq hw 97 rfl) (wq hw 96 rfl) (by decide) P23_0 (backC (W := 0) (ha2 h23 x23 y23x (by omega) f34 P23_0 P23_1 P23_2 P23_3 P23_4 P23_5 f35 f36 f37 f38) hZ (wq hw 98 rfl) (wq hw 9 rfl) (by decide) (by decide)) e23 (argsL := []) (rest := []) rfl rfl pd_6 rfl (by rw [hml]; rfl) (hb hby at_271) (Nat.le_of_eq rfl) hcc hss k33
    have k39 : AtQ p e below S0 T39 m 274 l5 [] := k39a
    have N39 := N23.app Nq39
    obtain ⟨h39, e39⟩ : ∃ z, T39.heap = z := ⟨_, rfl⟩
    rw [e39] at Kq39 P39_0 P39_1 P39_2 P39_3 P39_4 P39_5
    have z39 : h23.size ≤ h39.size := Kq39.1
    have C39 := C23.trans (CHr.keep Kq39 (sfS (Safe.exa hZ.alike P23_0 (by decide) (by decide)) sf0) C23.1)
    rcases hk with hk | hk
    ·
     let l41 : Array Slot := #[sl0, sl1, sl2, sl3, sl4, sl5, sl6, sl7, (vi 4), (vi 3), sl10, sl11, sl12, sl13, sl14, (vr r), .unset, .unset]
     have k40 : AtQ p e below S0 T39 m 274 l41 [] := by
      have hq : AtQ p e below S0 T39 m 274 #[sl0, sl1, sl2, sl3, sl4, sl5, sl6, sl7, (vi 4), (vi kk), sl10, sl11, sl12, sl13, sl14, (vr r), .unset, .unset] [] := k39
      rw [hk] at hq; exact hq
     have k42 : AtQ p e below S0 T39 m 285 l41 [] := fun tt hq => k40 tt (by
      refine XS.iload X39.here hx rfl (hb hby at_274) rfl ?_
      refine XS.iconst X39.here hx rfl (hb hby at_276) ?_
      refine XS.icmpYes X39.here hx rfl (pc0 := 277) (pc' := 285) rfl (hb hby at_277) rfl (flt (by decide)).2.2.2 (by decide) (by decide) ?_
      exact hq)
     have f43 : Exa Z h39 a "java/lang/String" := (f35.keep Kq39)
     have f44 : FqA Z h39 a (.ref t) := (f36.keep Kq39 (nin1 (by omega)))
     have f45 : FqB Z h39 a (.int cd) := (f37.keep Kq39 (nin1 (by omega)))
     have f46 : Arv Z h39 t kt .byte nb vs (.int 0) := (f38.keep Kq39 (nin1 (by omega)))
     have f47 : Old Z n0 h39 := (f34.keep Kq39 (allS (by omega) all0))
     exact sec_t0 hw hx hby hml hret hlk hnm hown hZ X39 e39 k42 N39 C39 hS0 (by omega) (by omega) hcc hss S_c hzc P39_0 P39_1 P39_2 P39_3 P39_4 P39_5 f43 f44 f45 f46 f47 hcd hln (if_neg no3) (by decide)
    ·
     have hp48 : (3 : Int32) < kk := by rcases hk with hk <;> rw [hk] <;> decide
     have k49 : AtQ p e below S0 T39 m 282 l5 [(.ref r)] := fun tt hq => k39 tt (by
      refine XS.iload X39.here hx rfl (hb hby at_274) rfl ?_
      refine XS.iconst X39.here hx rfl (hb hby at_276) ?_
      refine XS.icmpNo X39.here hx rfl (hb hby at_277) rfl (tlt hp48).2.2.2 ?_
      refine XS.aload X39.here hx rfl (hb hby at_280) rfl rfl ?_
      exact hq)
     have f50 : Old Z n0 h39 := (f34.keep Kq39 (allS (by omega) all0))
     have f51 : Exa Z h39 a "java/lang/String" := (f35.keep Kq39)
     have f52 : FqA Z h39 a (.ref t) := (f36.keep Kq39 (nin1 (by omega)))
     have f53 : FqB Z h39 a (.int cd) := (f37.keep Kq39 (nin1 (by omega)))
     have f54 : Arv Z h39 t kt .byte nb vs (.int 0) := (f38.keep Kq39 (nin1 (by omega)))
     obtain ⟨_, T55, L55, X55, ⟨x55, y55x, rfl, Nq55, Kq55, P55_0, P55_1, P55_2, P55_3, P55_4, P55_5⟩, k55a⟩ := callV' X39 hx hZ (y := yqR) (z := yqR) hown (wq hw 94 rfl) (wq hw 95 rfl) (notFace_of_selects (args := #[]) (mvT hZ (wq hw 97 rfl))) (wq hw 97 rfl) (wq hw 96 rfl) (by decide) P39_0 (backC (W := 0) (ha3 h39 x39 y39x (by omega) f50 P39_0 P39_1 P39_2 P39_3 P39_4 P39_5 f51 f52 f53 f54) hZ (wq hw 98 rfl) (wq hw 9 rfl) (by decide) (by decide)) e39 (argsL := []) (rest := []) rfl rfl pd_6 rfl (by rw [hml]; rfl) (hb hby at_282) (Nat.le_of_eq rfl) hcc hss k49
     have k55 : AtQ p e below S0 T55 m 285 l5 [] := k55a
     have N55 := N39.app Nq55
     obtain ⟨h55, e55⟩ : ∃ z, T55.heap = z := ⟨_, rfl⟩
     rw [e55] at Kq55 P55_0 P55_1 P55_2 P55_3 P55_4 P55_5
     have z55 : h39.size ≤ h55.size := Kq55.1
     have C55 := C39.trans (CHr.keep Kq55 (sfS (Safe.exa hZ.alike P39_0 (by decide) (by decide)) sf0) C39.1)
     let l57 : Array Slot := #[sl0, sl1, sl2, sl3, sl4, sl5, sl6, sl7, (vi 4), (vi 4), sl10, sl11, sl12, sl13, sl14, (vr r), .unset, .unset]
     have k56 : AtQ p e below S0 T55 m 285 l57 [] := by
      have hq : AtQ p e below S0 T55 m 285 #[sl0, sl1, sl2, sl3, sl4, sl5, sl6, sl7, (vi 4), (vi kk), sl10, sl11, sl12, sl13, sl14, (vr r), .unset, .unset] [] := k55
      rw [hk] at hq; exact hq
     have f58 : Exa Z h55 a "java/lang/String" := (f51.keep Kq55)
     have f59 : FqA Z h55 a (.ref t) := (f52.keep Kq55 (nin1 (by omega)))
     have f60 : FqB Z h55 a (.int cd) := (f53.keep Kq55 (nin1 (by omega)))
     have f61 : Arv Z h55 t kt .byte nb vs (.int 0) := (f54.keep Kq55 (nin1 (by omega)))
     have f62 : Old Z n0 h55 := (f50.keep Kq55 (allS (by omega) all0))
     exact sec_t1 hw hx hby hml hret hlk hnm hown hZ X55 e55 k56 N55 C55 hS0 (by omega) (by omega) hcc hss S_c hzc P55_0 P55_1 P55_2 P55_3 P55_4 P55_5 f58 f59 f60 f61 f62 hcd hln (if_pos rfl) (by decide)
theorem rm_c5_5_0 (l : Launch) (Z : State) (a0 : Array Value) (hw : ∀ d ∈ tables_1, d.before a0 Z = true) (b : Addr) (kb : ClassId) (t : Addr) (kt : ClassId) (d0 : Int32) (d1 : Int32) (d2 : Int32) (d3 : Int32) (d4 : Int32) (h0 : Heap) (n0 : Nat) (hn0 : n0 ≤ h0.size) (P0 : Arv Z h0 b kb .char (5 : Int32) [(.int d0), (.int d1), (.int d2), (.int d3), (.int d4)] (.int 0)) (P1 : Arv Z h0 t kt .byte (5 : Int32) [(.int 0), (.int 0), (.int 0), (.int 0), (.int 0)] (.int 0)) (ga : n0 ≤ t) (nbt : ¬ (@Eq Nat b t)) (hd0 : (255 : Int32) < d0) :
  Con l Z yqA jdk_52_method_21_code 7 (some .int) [] rqA #[(.ref b), (.int 0), (.ref t), (.int 0), (.int 5)] h0 (fun v h L => v = some (.int 0) ∧ Fr n0 L ∧ Keep h0 h [t] ∧ Arv Z h t kt .byte (5 : Int32) [(.int 0), (.int 0), (.int 0), (.int 0), (.int 0)] (.int 0)) := by
 refine enter (Ls := #[(vr b), (vi 0), (vr t), (vi 0), (vi 5), .unset, .unset]) (plainFor_of_name pn_0) (fun m => by exact entry_eq rfl) ?_
 intro p e s m below meth cd_ s₁ S0 hx hby hml hret hlk hnm hown hZ X0 e0 k0
 have N0 := Fr.nil n0
 have k1 : AtQ p e below S0 s₁ m 12 #[(vr b), (vi 0), (vr t), (vi 0), (vi 5), (vi 0), .unset] [(.int 0), (.ref b)] := fun tt hq => k0 tt (by
  refine XS.iconst X0.here hx rfl (hb hby dqN_0) ?_
  refine XS.istore X0.here hx rfl (hb hby dqN_1) rfl (l' := #[(vr b), (vi 0), (vr t), (vi 0), (vi 5), (vi 0), .unset]) rfl ?_
  refine XS.iload X0.here hx rfl (hb hby dqN_3) rfl ?_
  refine XS.iload X0.here hx rfl (hb hby dqN_5) rfl ?_
  refine XS.icmpNo X0.here hx rfl (hb hby dqN_7) rfl (tlt (by decide)).2.1 ?_
  refine XS.aloadN X0.here hx rfl (hb hby dqN_10) rfl rfl ?_
  refine XS.iloadN X0.here hx rfl (hb hby dqN_11) rfl ?_
  exact hq)
 obtain ⟨cl2, Ar2, -, S2, -, G2, -⟩ := id P0
 have hi2 := inb_of (j := (0 : Int32)) S2 ⟨by decide, by decide⟩
 have st2 := fun tt => X0.caload hx (j := (0 : Int32)) (v := (.int d0)) (by rw [e0]; exact Ar2.1) (State.isArrayOf_alike hZ.alike Ar2.2.1) Ar2.2.2 hi2 (G2.at hi2 rfl) (g := (mkF m 12 #[(vr b), (vi 0), (vr t), (vi 0), (vi 5), (vi 0), .unset] [(.int 0), (.ref b)])) rfl rfl (hb hby dqN_12) tt
 have k2 : AtQ p e below S0 s₁ m 13 #[(vr b), (vi 0), (vr t), (vi 0), (vi 5), (vi 0), .unset] [(.int d0)] := fun tt hq => k1 tt (st2 tt hq)
 have k3 : AtQ p e below S0 s₁ m 25 #[(vr b), (vi 0), (vr t), (vi 0), (vi 5), (vi 0), (vi d0)] [(.int 0)] := fun tt hq => k2 tt (by
  refine XS.istore X0.here hx rfl (hb hby dqN_13) rfl (l' := #[(vr b), (vi 0), (vr t), (vi 0), (vi 5), (vi 0), (vi d0)]) rfl ?_
  refine XS.iload X0.here hx rfl (hb hby dqN_15) rfl ?_
  refine XS.sipush X0.here hx rfl (hb hby dqN_17) ?_
  refine XS.icmpNo X0.here hx rfl (hb hby dqN_20) rfl (tlt hd0).2.2.2 ?_
  refine XS.iload X0.here hx rfl (hb hby dqN_23) rfl ?_
  exact hq)
 have hE := e0
 refine retInt X0 hx hret hlk (by simp) rfl (hb hby dqN_25) k3 ?_ (by decide) (by decide)
 try rw [hE]
 exact ⟨rfl, N0, (Keep.refl h0 [t]), P1⟩
theorem rm_c3_5_0 (l : Launch) (Z : State) (a0 : Array Value) (hw : ∀ d ∈ tables_1, d.before a0 Z = true) (b : Addr) (kb : ClassId) (d0 : Int32) (d1 : Int32) (d2 : Int32) (d3 : Int32) (d4 : Int32) (h0 : Heap) (n0 : Nat) (hn0 : n0 ≤ h0.size) (S_ad : Sta Z Z.heap "java/lang/StringUTF16" "$assertionsDisabled" "Z" (.int 1)) (S_hi : Sta Z Z.heap "java/lang/StringUTF16" "HI_BYTE_SHIFT" "I" (.int 0)) (S_lo : Sta Z Z.heap "java/lang/StringUTF16" "LO_BYTE_SHIFT" "I" (.int 8)) (O0 : Old Z n0 h0) (P0 : Arv Z h0 b kb .char (5 : Int32) [(.int d0), (.int d1), (.int d2), (.int d3), (.int d4)] (.int 0)) (yb : @LT.lt Nat instLTNat b h0.size) (hd0 : (255 : Int32) < d0) (g0 : ¬ d0 < (0 : Int32)) (g1 : d0 < (65536 : Int32)) :
  Con l Z yqB jdk_52_method_16_code 6 (some (.array .byte)) [] rqB #[(.ref b), (.int 0), (.int 5)] h0 (fun v h L => ∃ (t : Addr) (k : ClassId), v = some (.ref t) ∧ Fr n0 L ∧ h0.size ≤ t ∧ Keep h0 h [] ∧ Arv Z h t k .byte (10 : Int32) [(.int (ulo d0)), (.int (uhi d0)), (.int (ulo d1)), (.int (uhi d1)), (.int (ulo d2)), (.int (uhi d2)), (.int (ulo d3)), (.int (uhi d3)), (.int (ulo d4)), (.int (uhi d4))] (.int 0)) := by
 refine enter (Ls := #[(vr b), (vi 0), (vi 5), .unset, .unset, .unset]) (plainFor_of_name pn_0) (fun m => by exact entry_eq rfl) ?_
 intro p e s m below meth cd_ s₁ S0 hx hby hml hret hlk hnm hown hZ X0 e0 k0
 have N0 := Fr.nil n0
 have k1 : AtQ p e below S0 s₁ m 1 #[(vr b), (vi 0), (vi 5), .unset, .unset, .unset] [(.int 5)] := fun tt hq => k0 tt (by
  refine XS.iloadN X0.here hx rfl (hb hby dqM_0) rfl ?_
  exact hq)
 obtain ⟨T2, h2, c2, X2, e2, E2, A2, st2⟩ := newP X0 hx hZ (wq hw 16 rfl) e0 (g := (mkF m 1 #[(vr b), (vi 0), (vi 5), .unset, .unset, .unset] [(.int 5)])) rfl (hb hby dqM_1) rfl (by decide) (cap := 5) (by decide) (by decide) (by decide) (by decide)
 obtain ⟨b2, g2⟩ : ∃ z, z = h0.size := ⟨_, rfl⟩
 rw [← g2] at A2 st2
 have k2 : AtQ p e below S0 T2 m 3 #[(vr b), (vi 0), (vi 5), .unset, .unset, .unset] [(.ref b2)] := fun tt hq => k1 tt (st2 tt hq)
 have z2 : h0.size ≤ h2.size := E2.1
 have V2 : Arv Z h2 b2 c2 .byte (5 : Int32) [(.int 0), (.int 0), (.int 0), (.int 0), (.int 0)] (.int 0) := (Arv.new A2 (by decide)).pad (pad_rep [] (.int 0) 5)
 have y2 : @LT.lt Nat instLTNat b2 h2.size := V2.lt
 have k3 : AtQ p e below S0 T2 m 9 #[(vr b), (vi 0), (vi 5), (vr b2), .unset, .unset] [(.int 5), (.int 0), (.ref b2), (.int 0), (.ref b)] := fun tt hq => k2 tt (by
  refine XS.astoreN X2.here hx rfl (hb hby dqM_3) rfl rfl (l' := #[(vr b), (vi 0), (vi 5), (vr b2), .unset, .unset]) rfl ?_
  refine XS.aloadN X2.here hx rfl (hb hby dqM_4) rfl rfl ?_
  refine XS.iloadN X2.here hx rfl (hb hby dqM_5) rfl ?_
  refine XS.aloadN X2.here hx rfl (hb hby dqM_6) rfl rfl ?_
  refine XS.iconst X2.here hx rfl (hb hby dqM_7) ?_
  refine XS.iloadN X2.here hx rfl (hb hby dqM_8) rfl ?_
  exact hq)
 have f4 : Arv Z h2 b kb .char (5 : Int32) [(.int d0), (.int d1), (.int d2), (.int d3), (.int d4)] (.int 0) := (P0.ext E2)
 obtain ⟨_, T5, L5, X5, ⟨rfl, Nq5, Kq5, V5⟩, k5a⟩ := callS' X2 hx hZ (y := yqA) hown (wq hw 37 rfl) (wq hw 38 rfl) (wq hw 35 rfl) (wq hw 39 rfl) (by decide) (backC (W := 0) (rm_c5_5_0 l Z a0 hw b kb b2 c2 d0 d1 d2 d3 d4 h2 n0 (by omega) f4 V2 (by omega) (by omega) hd0) hZ (wq hw 39 rfl) (wq hw 35 rfl) (by decide) (by decide)) e2 (argsL := [(.ref b), (.int 0), (.ref b2), (.int 0), (.int 5)]) (rest := []) rfl rfl pd_0 rfl (by rw [hml]; rfl) (hb hby dqM_9) (Nat.le_of_eq rfl) (by decide) (by decide) k3
 have k5 : AtQ p e below S0 T5 m 12 #[(vr b), (vi 0), (vi 5), (vr b2), .unset, .unset] [(.int 0)] := k5a
 have N5 := N0.app Nq5
 obtain ⟨h5, e5⟩ : ∃ z, T5.heap = z := ⟨_, rfl⟩
 rw [e5] at Kq5 V5
 have z5 : h2.size ≤ h5.size := Kq5.1
 have k6 : AtQ p e below S0 T5 m 23 #[(vr b), (vi 0), (vi 5), (vr b2), (vi 0), .unset] [(.int 5), (.int 0), (.ref b)] := fun tt hq => k5 tt (by
  refine XS.istore X5.here hx rfl (hb hby dqM_12) rfl (l' := #[(vr b), (vi 0), (vi 5), (vr b2), (vi 0), .unset]) rfl ?_
  refine XS.iload X5.here hx rfl (hb hby dqM_14) rfl ?_
  refine XS.iloadN X5.here hx rfl (hb hby dqM_16) rfl ?_
  refine XS.icmpNo X5.here hx rfl (hb hby dqM_17) rfl (feq (by decide)).1 ?_
  refine XS.aloadN X5.here hx rfl (hb hby dqM_20) rfl rfl ?_
  refine XS.iloadN X5.here hx rfl (hb hby dqM_21) rfl ?_
  refine XS.iloadN X5.here hx rfl (hb hby dqM_22) rfl ?_
  exact hq)
 have f7 : Old Z n0 h5 := ((O0.ext E2).keep Kq5 (allS (by omega) all0))
 have f8 : Arv Z h5 b kb .char (5 : Int32) [(.int d0), (.int d1), (.int d2), (.int d3), (.int d4)] (.int 0) := (f4.keep Kq5 (nin1 (by omega)))
 obtain ⟨_, T9, L9, X9, ⟨t9, kt9, rfl, Nq9, gt9, Kq9, V9⟩, k9a⟩ := callS' X5 hx hZ (y := yqV) hown (wq hw 40 rfl) (wq hw 41 rfl) (wq hw 35 rfl) (wq hw 42 rfl) (by decide) (backC (W := 0) (rm_tb5 l Z a0 hw b kb d0 d1 d2 d3 d4 h5 n0 (by omega) S_ad S_hi S_lo f7 f8 (by omega)) hZ (wq hw 42 rfl) (wq hw 35 rfl) (by decide) (by decide)) e5 (argsL := [(.ref b), (.int 0), (.int 5)]) (rest := []) rfl rfl pd_16 rfl (by rw [hml]; rfl) (hb hby dqM_23) (Nat.le_of_eq rfl) (by decide) (by decide) k6
 have k9 : AtQ p e below S0 T9 m 26 #[(vr b), (vi 0), (vi 5), (vr b2), (vi 0), .unset] [(.ref t9)] := k9a
 have N9 := N5.app Nq9
 obtain ⟨h9, e9⟩ : ∃ z, T9.heap = z := ⟨_, rfl⟩
 rw [e9] at Kq9 V9
 have z9 : h5.size ≤ h9.size := Kq9.1
 have y9 : @LT.lt Nat instLTNat t9 h9.size := V9.lt
 have k10 : AtQ p e below S0 T9 m 32 #[(vr b), (vi 0), (vi 5), (vr b2), (vi 0), (vr t9)] [(.int 0), (.ref t9)] := fun tt hq => k9 tt (by
  refine XS.astore X9.here hx rfl (hb hby dqM_26) rfl rfl (l' := #[(vr b), (vi 0), (vi 5), (vr b2), (vi 0), (vr t9)]) rfl ?_
  refine XS.aload X9.here hx rfl (hb hby dqM_28) rfl rfl ?_
  refine XS.iload X9.here hx rfl (hb hby dqM_30) rfl ?_
  exact hq)
 have f11 : Old Z n0 h9 := (f7.keep Kq9 all0)
 obtain ⟨_, T12, L12, X12, ⟨rfl, Nq12, eq12⟩, k12a⟩ := callS' X9 hx hZ (y := yqW) hown (wq hw 56 rfl) (wq hw 57 rfl) (wq hw 35 rfl) (wq hw 58 rfl) (by decide) (backC (W := 0) (rm_get l Z a0 hw t9 kt9 (10 : Int32) _ (0 : Int32) (0 : Int32) (ulo d0) (uhi d0) d0 h9 n0 (by omega) S_ad S_hi S_lo f11 V9 (by decide) (by decide) (by decide) rfl rfl (own_gc g0 g1) g0 g1) hZ (wq hw 58 rfl) (wq hw 35 rfl) (by decide) (by decide)) e9 (argsL := [(.ref t9), (.int 0)]) (rest := []) rfl rfl pd_17 rfl (by rw [hml]; rfl) (hb hby dqM_32) (Nat.le_of_eq rfl) (by decide) (by decide) k10
 have k12 : AtQ p e below S0 T12 m 35 #[(vr b), (vi 0), (vi 5), (vr b2), (vi 0), (vr t9)] [(.int d0)] := k12a
 have N12 := N9.app Nq12
 have e12 : T12.heap = h9 := eq12
 have k13 : AtQ p e below S0 T12 m 56 #[(vr b), (vi 0), (vi 5), (vr b2), (vi 0), (vr t9)] [(.ref t9)] := fun tt hq => k12 tt (by
  refine XS.sipush X12.here hx rfl (hb hby dqM_35) ?_
  refine XS.icmpYes X12.here hx rfl (pc0 := 38) (pc' := 54) rfl (hb hby dqM_38) rfl (tlt hd0).2.2.1 (by decide) (by decide) ?_
  refine XS.aload X12.here hx rfl (hb hby dqM_54) rfl rfl ?_
  exact hq)
 have hE := e12
 refine retRef X12 hx hret hlk rfl rfl (hb hby dqM_56) k13 ?_ (by decide) (by decide)
 try rw [hE]
 exact ⟨t9, _, rfl, N12, (by omega), ((((Keep.refl h0 []).ext E2).trans Kq5 (allS (Or.inr (by omega)) all0)).trans Kq9 all0), V9⟩
theorem rm0 (l : Launch) (Z : State) (a0 : Array Value) (hw : ∀ d ∈ tables_1, d.before a0 Z = true) (zc : Int32) (fm : Value) (p0 : Int32) (p1 : Int32) (p2 : Int32) (p3 : Int32) (h0 : Heap) (n0 : Nat) (hn0 : n0 ≤ h0.size) (S_c : Sta Z Z.heap "java/lang/String" "COMPACT_STRINGS" "Z" (.int zc)) (hzc : ¬ zc = (0 : Int32)) (S_f : Sta Z Z.heap "jdk/internal/util/Preconditions" "SIOOBE_FORMATTER" "Ljava/util/function/BiFunction;" fm) (hfm : fm.isRef = true) (S_ad : Sta Z Z.heap "java/lang/StringUTF16" "$assertionsDisabled" "Z" (.int 1)) (S_hi : Sta Z Z.heap "java/lang/StringUTF16" "HI_BYTE_SHIFT" "I" (.int 0)) (S_lo : Sta Z Z.heap "java/lang/StringUTF16" "LO_BYTE_SHIFT" "I" (.int 8)) (O0 : Old Z n0 h0) :
  ConW l Z own_EL x code maxLocals ret tables_1 room_1 #[(.int p0), (.int p1), (.int p2), (.int p3)] h0 [] (fun v h L => v = some (.int 1) ∧ Fr n0 L) := by
 refine enterW (Ls := #[(vi p0), (vi p1), (vi p2), (vi p3), .unset, .unset, .unset, .unset, .unset, .unset, .unset, .unset, .unset, .unset, .unset, .unset, .unset, .unset]) (plainFor_of_name pn_7) (fun m => by exact entry_eq rfl) ?_
 intro p e s m below meth cd_ s₁ S0 vm0 hx hby hml hret hlk hnm hown hZ X0 e0 k0 C0 hsf hS0
 have N0 := Fr.nil n0
 let l1 : Array Slot := #[(vi p0), (vi p1), (vi p2), (vi p3), .unset, .unset, .unset, .unset, .unset, .unset, .unset, .unset, .unset, .unset, .unset, .unset, .unset, .unset]
 have k2 : AtQ p e below S0 s₁ m 3 l1 [(.int (p0 &&& (3 : Int32)))] := fun tt hq => k0 tt (by
  refine XS.iloadN X0.here hx rfl (hb hby at_0) rfl ?_
  refine XS.iconst X0.here hx rfl (hb hby at_1) ?_
  refine XS.iand X0.here hx rfl (hb hby at_2) rfl ?_
  exact hq)
 rcases own_and3 _ with ht3 | ht3 | ht3 | ht3
 ·
  have k4 : AtQ p e below S0 s₁ m 3 l1 [(.int 0)] := by have hq := k2; rw [ht3] at hq; exact hq
  let l5 : Array Slot := #[(vi p0), (vi p1), (vi p2), (vi p3), (vi 0), .unset, .unset, .unset, .unset, .unset, .unset, .unset, .unset, .unset, .unset, .unset, .unset, .unset]
  have k6 : AtQ p e below S0 s₁ m 8 l5 [(.int (p3 &&& (1 : Int32)))] := fun tt hq => k4 tt (by
   refine XS.istore X0.here hx rfl (hb hby at_3) rfl (l' := l5) rfl ?_
   refine XS.iloadN X0.here hx rfl (hb hby at_5) rfl ?_
   refine XS.iconst X0.here hx rfl (hb hby at_6) ?_
   refine XS.iand X0.here hx rfl (hb hby at_7) rfl ?_
   exact hq)
  by_cases hc8_7 : (p3 &&& (1 : Int32)) = (0 : Int32)
  ·
   let l8 : Array Slot := #[(vi p0), (vi p1), (vi p2), (vi p3), (vi 0), (vi 0), .unset, .unset, .unset, .unset, .unset, .unset, .unset, .unset, .unset, .unset, .unset, .unset]
   have k9 : AtQ p e below S0 s₁ m 21 l8 [(.int (p3 &&& (2 : Int32)))] := fun tt hq => k6 tt (by
    refine XS.ifYes X0.here hx rfl (pc0 := 8) (pc' := 15) rfl (hb hby at_8) rfl ((if0 _ _).trans (teq hc8_7).1) (by decide) (by decide) ?_
    refine XS.iconst X0.here hx rfl (hb hby at_15) ?_
    refine XS.istore X0.here hx rfl (hb hby at_16) rfl (l' := l8) rfl ?_
    refine XS.iloadN X0.here hx rfl (hb hby at_18) rfl ?_
    refine XS.iconst X0.here hx rfl (hb hby at_19) ?_
    refine XS.iand X0.here hx rfl (hb hby at_20) rfl ?_
    exact hq)
   refine joinT (S0 := S0) X0 e0 (mkF m 29 l8 [(.int (if (p3 &&& (2 : Int32)) = (0 : Int32) then (0 : Int32) else (1 : Int32)))]) (fun kont => ?_) (fun T10 X10 e10 k10 => ?_)
   ·
    by_cases hc21_11 : (p3 &&& (2 : Int32)) = (0 : Int32)
    ·
     have k12 : AtQ p e below S0 s₁ m 29 l8 [(.int 0)] := fun tt hq => k9 tt (by
      refine XS.ifYes X0.here hx rfl (pc0 := 21) (pc' := 28) rfl (hb hby at_21) rfl ((if0 _ _).trans (teq hc21_11).1) (by decide) (by decide) ?_
      refine XS.iconst X0.here hx rfl (hb hby at_28) ?_
      exact hq)
     exact kont s₁ X0 e0 (fun tt hq => k12 tt (by simpa only [if_pos hc21_11, l8] using hq))
    ·
     have k13 : AtQ p e below S0 s₁ m 29 l8 [(.int 1)] := fun tt hq => k9 tt (by
      refine XS.ifNo X0.here hx rfl (hb hby at_21) rfl ((if0 _ _).trans (feq hc21_11).1) ?_
      refine XS.iconst X0.here hx rfl (hb hby at_24) ?_
      refine XS.goto X0.here hx rfl (pc0 := 25) (pc' := 29) rfl (hb hby at_25) (by decide) (by decide) ?_
      exact hq)
     exact kont s₁ X0 e0 (fun tt hq => k13 tt (by simpa only [if_neg hc21_11, l8] using hq))
   obtain ⟨v14, hv14⟩ : ∃ z : Int32, z = (if (p3 &&& (2 : Int32)) = (0 : Int32) then (0 : Int32) else (1 : Int32)) := ⟨_, rfl⟩
   have k14 : AtQ p e below S0 T10 m 29 l8 [(.int v14)] := by rw [hv14]; exact k10
   let l15 : Array Slot := #[(vi p0), (vi p1), (vi p2), (vi p3), (vi 0), (vi 0), (vi v14), .unset, .unset, .unset, .unset, .unset, .unset, .unset, .unset, .unset, .unset, .unset]
   let l16 : Array Slot := #[(vi p0), (vi p1), (vi p2), (vi p3), (vi 0), (vi 0), (vi v14), (vi 0), .unset, .unset, .unset, .unset, .unset, .unset, .unset, .unset, .unset, .unset]
   let l17 : Array Slot := #[(vi p0), (vi p1), (vi p2), (vi p3), (vi 0), (vi 0), (vi v14), (vi 0), (vi 0), .unset, .unset, .unset, .unset, .unset, .unset, .unset, .unset, .unset]
   have k18 : AtQ p e below S0 T10 m 67 l17 [(.int 0), (.int (p1 &&& (7 : Int32)))] := fun tt hq => k14 tt (by
    refine XS.istore X10.here hx rfl (hb hby at_29) rfl (l' := l15) rfl ?_
    refine XS.iload X10.here hx rfl (hb hby at_31) rfl ?_
    refine XS.iload X10.here hx rfl (hb hby at_33) rfl ?_
    refine XS.ifYes X10.here hx rfl (pc0 := 35) (pc' := 42) rfl (hb hby at_35) rfl ((if0 _ _).trans (teq (by decide)).1) (by decide) (by decide) ?_
    refine XS.iconst X10.here hx rfl (hb hby at_42) ?_
    refine XS.iadd X10.here hx rfl (hb hby at_43) rfl ?_
    refine XS.istore X10.here hx rfl (hb hby at_44) rfl (l' := l16) rfl ?_
    refine XS.iload X10.here hx rfl (hb hby at_46) rfl ?_
    refine XS.iload X10.here hx rfl (hb hby at_48) rfl ?_
    refine XS.ifYes X10.here hx rfl (pc0 := 50) (pc' := 57) rfl (hb hby at_50) rfl ((if0 _ _).trans (teq (by decide)).1) (by decide) (by decide) ?_
    refine XS.iconst X10.here hx rfl (hb hby at_57) ?_
    refine XS.iadd X10.here hx rfl (hb hby at_58) rfl ?_
    refine XS.istore X10.here hx rfl (hb hby at_59) rfl (l' := l17) rfl ?_
    refine XS.iloadN X10.here hx rfl (hb hby at_61) rfl ?_
    refine XS.bipush X10.here hx rfl (hb hby at_62) ?_
    refine XS.iand X10.here hx rfl (hb hby at_64) rfl ?_
    refine XS.iload X10.here hx rfl (hb hby at_65) rfl ?_
    exact hq)
   obtain ⟨_, T19, L19, X19, ⟨rfl, Nq19, eq19⟩, k19a⟩ := callS' X10 hx hZ (y := yqK) hown (wq hw 0 rfl) (wq hw 1 rfl) (wq hw 2 rfl) (wq hw 3 rfl) (by decide) (backC (W := 0) (rm_min l Z a0 hw (p1 &&& (7 : Int32)) (0 : Int32) (if (0 : Int32) < (p1 &&& (7 : Int32)) then (0 : Int32) else (p1 &&& (7 : Int32))) h0 n0 (by omega) rfl) hZ (wq hw 3 rfl) (wq hw 2 rfl) (by decide) (by decide)) e10 (argsL := [(.int (p1 &&& (7 : Int32))), (.int 0)]) (rest := []) rfl rfl pd_9 rfl (by rw [hml]; rfl) (hb hby at_67) (Nat.le_of_eq rfl) (by decide) (by decide) k18
   have k19 : AtQ p e below S0 T19 m 70 l17 [(.int (if (0 : Int32) < (p1 &&& (7 : Int32)) then (0 : Int32) else (p1 &&& (7 : Int32))))] := k19a
   have N19 := N0.app Nq19
   have e19 : T19.heap = h0 := eq19
   obtain ⟨v20, hv20⟩ : ∃ z : Int32, z = (if (0 : Int32) < (p1 &&& (7 : Int32)) then (0 : Int32) else (p1 &&& (7 : Int32))) := ⟨_, rfl⟩
   have k20 : AtQ p e below S0 T19 m 70 l17 [(.int v20)] := by rw [hv20]; exact k19
   let l21 : Array Slot := #[(vi p0), (vi p1), (vi p2), (vi p3), (vi 0), (vi 0), (vi v14), (vi 0), (vi 0), (vi v20), .unset, .unset, .unset, .unset, .unset, .unset, .unset, .unset]
   have k22 : AtQ p e below S0 T19 m 78 l21 [(.int ((p2 &&& (255 : Int32)).toUInt32.toUInt16.toUInt32.toInt32))] := fun tt hq => k20 tt (by
    refine XS.istore X19.here hx rfl (hb hby at_70) rfl (l' := l21) rfl ?_
    refine XS.iloadN X19.here hx rfl (hb hby at_72) rfl ?_
    refine XS.sipush X19.here hx rfl (hb hby at_73) ?_
    refine XS.iand X19.here hx rfl (hb hby at_76) rfl ?_
    refine XS.i2c X19.here hx rfl (hb hby at_77) rfl ?_
    exact hq)
   have k23 : AtQ p e below S0 T19 m 78 l21 [(.int (p2 &&& (255 : Int32)))] := by have hq := k22; rw [i2c_mask] at hq; exact hq
   let l24 : Array Slot := #[(vi p0), (vi p1), (vi p2), (vi p3), (vi 0), (vi 0), (vi v14), (vi 0), (vi 0), (vi v20), (vi (p2 &&& (255 : Int32))), .unset, .unset, .unset, .unset, .unset, .unset, .unset]
   have k25 : AtQ p e below S0 T19 m 89 l24 [(.int ((((p2.toUInt32 >>> ((8 : Int32) &&& 31).toUInt32).toInt32) &&& (255 : Int32)).toUInt32.toUInt16.toUInt32.toInt32))] := fun tt hq => k23 tt (by
    refine XS.istore X19.here hx rfl (hb hby at_78) rfl (l' := l24) rfl ?_
    refine XS.iloadN X19.here hx rfl (hb hby at_80) rfl ?_
    refine XS.bipush X19.here hx rfl (hb hby at_81) ?_
    refine XS.iushr X19.here hx rfl (hb hby at_83) rfl ?_
    refine XS.sipush X19.here hx rfl (hb hby at_84) ?_
    refine XS.iand X19.here hx rfl (hb hby at_87) rfl ?_
    refine XS.i2c X19.here hx rfl (hb hby at_88) rfl ?_
    exact hq)
   have k26 : AtQ p e below S0 T19 m 89 l24 [(.int (((p2.toUInt32 >>> ((8 : Int32) &&& 31).toUInt32).toInt32) &&& (255 : Int32)))] := by have hq := k25; rw [i2c_mask] at hq; exact hq
   obtain ⟨v27, hv27⟩ : ∃ z : Int32, z = (((p2.toUInt32 >>> ((8 : Int32) &&& 31).toUInt32).toInt32) &&& (255 : Int32)) := ⟨_, rfl⟩
   have k27 : AtQ p e below S0 T19 m 89 l24 [(.int v27)] := by rw [hv27]; exact k26
   have mv27 : ¬ v27 < (0 : Int32) ∧ ¬ (255 : Int32) < v27 := by rw [hv27]; exact own_m255 _
   let l28 : Array Slot := #[(vi p0), (vi p1), (vi p2), (vi p3), (vi 0), (vi 0), (vi v14), (vi 0), (vi 0), (vi v20), (vi (p2 &&& (255 : Int32))), (vi v27), .unset, .unset, .unset, .unset, .unset, .unset]
   have k29 : AtQ p e below S0 T19 m 100 l28 [(.int ((((p2.toUInt32 >>> ((16 : Int32) &&& 31).toUInt32).toInt32) &&& (255 : Int32)).toUInt32.toUInt16.toUInt32.toInt32))] := fun tt hq => k27 tt (by
    refine XS.istore X19.here hx rfl (hb hby at_89) rfl (l' := l28) rfl ?_
    refine XS.iloadN X19.here hx rfl (hb hby at_91) rfl ?_
    refine XS.bipush X19.here hx rfl (hb hby at_92) ?_
    refine XS.iushr X19.here hx rfl (hb hby at_94) rfl ?_
    refine XS.sipush X19.here hx rfl (hb hby at_95) ?_
    refine XS.iand X19.here hx rfl (hb hby at_98) rfl ?_
    refine XS.i2c X19.here hx rfl (hb hby at_99) rfl ?_
    exact hq)
   have k30 : AtQ p e below S0 T19 m 100 l28 [(.int (((p2.toUInt32 >>> ((16 : Int32) &&& 31).toUInt32).toInt32) &&& (255 : Int32)))] := by have hq := k29; rw [i2c_mask] at hq; exact hq
   obtain ⟨v31, hv31⟩ : ∃ z : Int32, z = (((p2.toUInt32 >>> ((16 : Int32) &&& 31).toUInt32).toInt32) &&& (255 : Int32)) := ⟨_, rfl⟩
   have k31 : AtQ p e below S0 T19 m 100 l28 [(.int v31)] := by rw [hv31]; exact k30
   have mv31 : ¬ v31 < (0 : Int32) ∧ ¬ (255 : Int32) < v31 := by rw [hv31]; exact own_m255 _
   let l32 : Array Slot := #[(vi p0), (vi p1), (vi p2), (vi p3), (vi 0), (vi 0), (vi v14), (vi 0), (vi 0), (vi v20), (vi (p2 &&& (255 : Int32))), (vi v27), (vi v31), .unset, .unset, .unset, .unset, .unset]
   have k33 : AtQ p e below S0 T19 m 104 l32 [(.int 0)] := fun tt hq => k31 tt (by
    refine XS.istore X19.here hx rfl (hb hby at_100) rfl (l' := l32) rfl ?_
    refine XS.iload X19.here hx rfl (hb hby at_102) rfl ?_
    exact hq)
   obtain ⟨T34, h34, c34, X34, e34, E34, A34, st34⟩ := newP X19 hx hZ (wq hw 4 rfl) e19 (g := (mkF m 104 l32 [(.int 0)])) rfl (hb hby at_104) rfl (by decide) (cap := 0) (by decide) (by decide) (by decide) (by decide)
   obtain ⟨b34, g34⟩ : ∃ z, z = h0.size := ⟨_, rfl⟩
   rw [← g34] at A34 st34
   have k34 : AtQ p e below S0 T34 m 106 l32 [(.ref b34)] := fun tt hq => k33 tt (st34 tt hq)
   have z34 : h0.size ≤ h34.size := E34.1
   have C34 := C0.trans (CHr.ext E34 C0.1)
   have V34 : Arv Z h34 b34 c34 .char (0 : Int32) [] (.int 0) := (Arv.new A34 (by decide)).pad (pad_rep [] (.int 0) 0)
   have y34 : @LT.lt Nat instLTNat b34 h34.size := V34.lt
   let l35 : Array Slot := #[(vi p0), (vi p1), (vi p2), (vi p3), (vi 0), (vi 0), (vi v14), (vi 0), (vi 0), (vi v20), (vi (p2 &&& (255 : Int32))), (vi v27), (vi v31), (vr b34), .unset, .unset, .unset, .unset]
   let l36 : Array Slot := #[(vi p0), (vi p1), (vi p2), (vi p3), (vi 0), (vi 0), (vi v14), (vi 0), (vi 0), (vi v20), (vi (p2 &&& (255 : Int32))), (vi v27), (vi v31), (vr b34), (vi 0), .unset, .unset, .unset]
   have k37 : AtQ p e below S0 T34 m 215 l36 [] := fun tt hq => k34 tt (by
    refine XS.astore X34.here hx rfl (hb hby at_106) rfl rfl (l' := l35) rfl ?_
    refine XS.iload X34.here hx rfl (hb hby at_108) rfl ?_
    refine XS.ifYes X34.here hx rfl (pc0 := 110) (pc' := 122) rfl (hb hby at_110) rfl ((if0 _ _).trans (teq (by decide)).1) (by decide) (by decide) ?_
    refine XS.iconst X34.here hx rfl (hb hby at_122) ?_
    refine XS.istore X34.here hx rfl (hb hby at_123) rfl (l' := l36) rfl ?_
    refine XS.iload X34.here hx rfl (hb hby at_125) rfl ?_
    refine XS.ifYes X34.here hx rfl (pc0 := 127) (pc' := 147) rfl (hb hby at_127) rfl ((if0 _ _).trans (teq (by decide)).1) (by decide) (by decide) ?_
    refine XS.iload X34.here hx rfl (hb hby at_147) rfl ?_
    refine XS.ifYes X34.here hx rfl (pc0 := 149) (pc' := 159) rfl (hb hby at_149) rfl ((if0 _ _).trans (flt (by decide)).2.2.2) (by decide) (by decide) ?_
    refine XS.iload X34.here hx rfl (hb hby at_159) rfl ?_
    refine XS.iconst X34.here hx rfl (hb hby at_161) ?_
    refine XS.icmpYes X34.here hx rfl (pc0 := 162) (pc' := 174) rfl (hb hby at_162) rfl (flt (by decide)).2.2.2 (by decide) (by decide) ?_
    refine XS.iload X34.here hx rfl (hb hby at_174) rfl ?_
    refine XS.iconst X34.here hx rfl (hb hby at_176) ?_
    refine XS.icmpYes X34.here hx rfl (pc0 := 177) (pc' := 189) rfl (hb hby at_177) rfl (flt (by decide)).2.2.2 (by decide) (by decide) ?_
    refine XS.iload X34.here hx rfl (hb hby at_189) rfl ?_
    refine XS.ifYes X34.here hx rfl (pc0 := 191) (pc' := 215) rfl (hb hby at_191) rfl ((if0 _ _).trans (teq (by decide)).1) (by decide) (by decide) ?_
    exact hq)
   obtain ⟨T38, h38, X38, e38, E38, A38, D38, -, st38⟩ := newO X34 hx hZ hown (wq hw 7 rfl) (wq hw 8 rfl) (wq hw 9 rfl) e34 (g := (mkF m 215 l36 [])) rfl (hb hby at_215) (by decide) (by decide)
   obtain ⟨b38, g38⟩ : ∃ z, z = h34.size := ⟨_, rfl⟩
   rw [← g38] at A38 D38 st38
   have k38 : AtQ p e below S0 T38 m 218 l36 [(.ref b38)] := fun tt hq => k37 tt (st38 tt hq)
   have z38 : h34.size ≤ h38.size := E38.1
   have y38 : @LT.lt Nat instLTNat b38 h38.size := A38.lt
   have C38 := C34.trans (CHr.ext E38 C34.1)
   have F38_line : FqH Z h38 b38 (.int 0) := D38 (Or.inl (wq hw 82 rfl)) (ty := .int) (by decide)
   have F38_column : FqI Z h38 b38 (.int 0) := D38 (Or.inl (wq hw 84 rfl)) (ty := .int) (by decide)
   have F38_source : FqE Z h38 b38 .null := D38 (Or.inr (wq hw 86 rfl)) (ty := (.object "com/example/ceruline/ceruline/source/SourceFile")) (by decide)
   have F38_text : FqF Z h38 b38 .null := D38 (Or.inr (wq hw 93 rfl)) (ty := (.object "java/lang/String")) (by decide)
   have F38_offset : FqG Z h38 b38 (.int 0) := D38 (Or.inl (wq hw 100 rfl)) (ty := .int) (by decide)
   have k39 : AtQ p e below S0 T38 m 219 l36 [(.ref b38), (.ref b38)] := fun tt hq => k38 tt (by
    refine XS.dup X38.here hx rfl (hb hby at_218) rfl rfl ?_
    exact hq)
   obtain ⟨T40, h40, X40, e40, E40, A40, D40, -, st40⟩ := newO X38 hx hZ hown (wq hw 10 rfl) (wq hw 11 rfl) (wq hw 12 rfl) e38 (g := (mkF m 219 l36 [(.ref b38), (.ref b38)])) rfl (hb hby at_219) (by decide) (by decide)
   obtain ⟨b40, g40⟩ : ∃ z, z = h38.size := ⟨_, rfl⟩
   rw [← g40] at A40 D40 st40
   have k40 : AtQ p e below S0 T40 m 222 l36 [(.ref b40), (.ref b38), (.ref b38)] := fun tt hq => k39 tt (st40 tt hq)
   have z40 : h38.size ≤ h40.size := E40.1
   have y40 : @LT.lt Nat instLTNat b40 h40.size := A40.lt
   have C40 := C38.trans (CHr.ext E40 C38.1)
   have F40_name : FqC Z h40 b40 .null := D40 (Or.inr (wq hw 74 rfl)) (ty := (.object "java/lang/String")) (by decide)
   have F40_text : FqD Z h40 b40 .null := D40 (Or.inr (wq hw 76 rfl)) (ty := (.object "java/lang/String")) (by decide)
   have k41 : AtQ p e below S0 T40 m 223 l36 [(.ref b40), (.ref b40), (.ref b38), (.ref b38)] := fun tt hq => k40 tt (by
    refine XS.dup X40.here hx rfl (hb hby at_222) rfl rfl ?_
    exact hq)
   obtain ⟨a42, T42, h42, kk42, b42, c42, X42, e42, E42, hS42, hk42, hZ42a, hown42a, A42, Fc42, Fv42, V42, ya42, yb42, Cq42, -, hne42, st42⟩ := ldcCH X40 hx hZ hown (wq hw 13 rfl) (own_wS hw) e40 hS0 (by omega) (own_EW hw) (List.mem_of_getElem? (i := 0) rfl) C40.1 (vs := [(.int 102)]) (z := (1 : Int32)) ⟨by decide, by decide⟩ (by decide) (by decide) (g := (mkF m 223 l36 [(.ref b40), (.ref b40), (.ref b38), (.ref b38)])) rfl (hb hby at_223) (n := 4) (by decide) (by decide) (by decide) (by decide)
   have k42 : AtQ p e below S0 T42 m 225 l36 [(.ref a42), (.ref b40), (.ref b40), (.ref b38), (.ref b38)] := fun tt hq => k41 tt (st42 tt hq)
   have hZ42 : Z.Warmed39 T42.vm := hZ42a
   have hown42 : T42.vm.findClass "com/example/ceruline/ceruline/parsing/SourceReaderAtEndPinLaw" = some m.cls := hown42a
   have z42 : h40.size ≤ h42.size := E42.1
   have C42 := C40.trans Cq42
   obtain ⟨T43, h43, X43, e43, E43, A43, D43, -, st43⟩ := newO X42 hx hZ42 hown42 (wq hw 21 rfl) (wq hw 15 rfl) (wq hw 14 rfl) e42 (g := (mkF m 225 l36 [(.ref a42), (.ref b40), (.ref b40), (.ref b38), (.ref b38)])) rfl (hb hby at_225) (by decide) (by decide)
   obtain ⟨b43, g43⟩ : ∃ z, z = h42.size := ⟨_, rfl⟩
   rw [← g43] at A43 D43 st43
   have k43 : AtQ p e below S0 T43 m 228 l36 [(.ref b43), (.ref a42), (.ref b40), (.ref b40), (.ref b38), (.ref b38)] := fun tt hq => k42 tt (st43 tt hq)
   have z43 : h42.size ≤ h43.size := E43.1
   have y43 : @LT.lt Nat instLTNat b43 h43.size := A43.lt
   have C43 := C42.trans (CHr.ext E43 C42.1)
   have Sf43 : Safe Z own_EL T42.vm h43 b43 := Safe.ext E43 C42.1 (Safe.new (by omega))
   have F43_value : FqA Z h43 b43 .null := D43 (Or.inr (wq hw 17 rfl)) (ty := (.array .byte)) (by decide)
   have F43_coder : FqB Z h43 b43 (.int 0) := D43 (Or.inr (wq hw 18 rfl)) (ty := .byte) (by decide)
   have k44 : AtQ p e below S0 T43 m 231 l36 [(.ref b34), (.ref b43), (.ref b43), (.ref a42), (.ref b40), (.ref b40), (.ref b38), (.ref b38)] := fun tt hq => k43 tt (by
    refine XS.dup X43.here hx rfl (hb hby at_228) rfl rfl ?_
    refine XS.aload X43.here hx rfl (hb hby at_229) rfl rfl ?_
    exact hq)
   have f45 : Arv Z h43 b34 c34 .char (0 : Int32) [] (.int 0) := ((((V34.ext E38).ext E40).ext E42).ext E43)
   obtain ⟨_, T46, L46, X46, ⟨rfl, Nq46, Kq46, t46, kt46, gt46, P460, P461, P462, P463⟩, k46a, Cq46, hS46, hZ46, hown46⟩ := callCW X43 hx hZ42 (y := yqD) rfl hown42 hS42 (by omega) (wq hw 22 rfl) (wq hw 23 rfl) (wq hw 24 rfl) (by decide) (backOfW (W := 6) (rm_n1_0 l Z a0 hw b43 b34 c34 .null (.int 0) h43 n0 (by omega) A43 F43_value F43_coder f45 (by omega) (by omega)) hZ42 (wq hw 24 rfl) (wq hw 14 rfl) (by decide) (by decide) (own_EW hw) C43.1 (allS ⟨adr_lt (by omega), Sf43⟩ all0)) e43 (argsL := [(.ref b34)]) (rest := [(.ref b43), (.ref a42), (.ref b40), (.ref b40), (.ref b38), (.ref b38)]) rfl rfl pd_10 rfl (by rw [hml]; rfl) (hb hby at_231) (Nat.le_of_eq rfl) (by decide) (by decide) k44
   have k46 : AtQ p e below S0 T46 m 234 l36 [(.ref b43), (.ref a42), (.ref b40), (.ref b40), (.ref b38), (.ref b38)] := k46a
   have N46 := N19.app Nq46
   obtain ⟨h46, e46⟩ : ∃ z, T46.heap = z := ⟨_, rfl⟩
   rw [e46] at Kq46 gt46 P460 P461 P462 P463 Cq46 hS46
   have z46 : h43.size ≤ h46.size := Kq46.1
   have C46 := C43.trans Cq46
   have f47 : Exa Z h46 b40 "com/example/ceruline/ceruline/source/SourceFile" := (((A40.ext E42).ext E43).keep Kq46)
   have ne_b40 : ¬ (@Eq Nat t46 b40) := fun q => (Exa.neArv f47 P463 (wq hw 11 rfl)) q.symm
   have f48 : Exa Z h46 b38 "com/example/ceruline/ceruline/parsing/SourceReader" := ((((A38.ext E40).ext E42).ext E43).keep Kq46)
   have ne_b38 : ¬ (@Eq Nat t46 b38) := fun q => (Exa.neArv f48 P463 (wq hw 8 rfl)) q.symm
   have f49 : FqC Z h46 b40 .null := (((F40_name.ext E42).ext E43).keep Kq46 (nin1 (by omega)))
   have f50 : FqD Z h46 b40 .null := (((F40_text.ext E42).ext E43).keep Kq46 (nin1 (by omega)))
   obtain ⟨_, T51, L51, X51, ⟨rfl, Nq51, Kq51, P510, P511, P512⟩, k51a⟩ := callC' X46 hx hZ46 (y := yqM) rfl hown46 (wq hw 64 rfl) (wq hw 65 rfl) (wq hw 66 rfl) (by decide) (backC (W := 3) (rm_sfi l Z a0 hw b40 a42 b43 h46 n0 (by omega) f47 f49 f50 (by omega)) hZ46 (wq hw 66 rfl) (wq hw 12 rfl) (by decide) (by decide)) e46 (argsL := [(.ref a42), (.ref b43)]) (rest := [(.ref b40), (.ref b38), (.ref b38)]) rfl rfl pd_11 rfl (by rw [hml]; rfl) (hb hby at_234) (Nat.le_of_eq rfl) (by decide) (by decide) k46
   have k51 : AtQ p e below S0 T51 m 237 l36 [(.ref b40), (.ref b38), (.ref b38)] := k51a
   have N51 := N46.app Nq51
   obtain ⟨h51, e51⟩ : ∃ z, T51.heap = z := ⟨_, rfl⟩
   rw [e51] at Kq51 P510 P511 P512
   have z51 : h46.size ≤ h51.size := Kq51.1
   have C51 := C46.trans (CHr.keep Kq51 (sfS (Safe.exa hZ46.alike f47 (by decide) (by decide)) sf0) C46.1)
   have f52 : Exa Z h51 b38 "com/example/ceruline/ceruline/parsing/SourceReader" := (f48.keep Kq51)
   have f53 : FqE Z h51 b38 .null := (((((F38_source.ext E40).ext E42).ext E43).keep Kq46 (nin1 (by omega))).keep Kq51 (nin1 (by omega)))
   have f54 : FqF Z h51 b38 .null := (((((F38_text.ext E40).ext E42).ext E43).keep Kq46 (nin1 (by omega))).keep Kq51 (nin1 (by omega)))
   have f55 : FqG Z h51 b38 (.int 0) := (((((F38_offset.ext E40).ext E42).ext E43).keep Kq46 (nin1 (by omega))).keep Kq51 (nin1 (by omega)))
   have f56 : FqH Z h51 b38 (.int 0) := (((((F38_line.ext E40).ext E42).ext E43).keep Kq46 (nin1 (by omega))).keep Kq51 (nin1 (by omega)))
   have f57 : FqI Z h51 b38 (.int 0) := (((((F38_column.ext E40).ext E42).ext E43).keep Kq46 (nin1 (by omega))).keep Kq51 (nin1 (by omega)))
   obtain ⟨_, T58, L58, X58, ⟨rfl, Nq58, Kq58, P58_0, P58_1, P58_2, P58_3, P58_4, P58_5⟩, k58a⟩ := callC' X51 hx hZ46 (y := yqO) rfl hown46 (wq hw 77 rfl) (wq hw 78 rfl) (wq hw 79 rfl) (by decide) (backC (W := 1) (rm_sri l Z a0 hw b38 b40 b43 h51 n0 (by omega) f52 f53 f54 f55 f56 f57 P510 P512 (by omega) (by omega)) hZ46 (wq hw 79 rfl) (wq hw 9 rfl) (by decide) (by decide)) e51 (argsL := [(.ref b40)]) (rest := [(.ref b38)]) rfl rfl pd_12 rfl (by rw [hml]; rfl) (hb hby at_237) (Nat.le_of_eq rfl) (by decide) (by decide) k51
   have k58 : AtQ p e below S0 T58 m 240 l36 [(.ref b38)] := k58a
   have N58 := N51.app Nq58
   obtain ⟨h58, e58⟩ : ∃ z, T58.heap = z := ⟨_, rfl⟩
   rw [e58] at Kq58 P58_0 P58_1 P58_2 P58_3 P58_4 P58_5
   have z58 : h51.size ≤ h58.size := Kq58.1
   have C58 := C51.trans (CHr.keep Kq58 (sfS (Safe.exa hZ46.alike f52 (by decide) (by decide)) sf0) C51.1)
   let l59 : Array Slot := #[(vi p0), (vi p1), (vi p2), (vi p3), (vi 0), (vi 0), (vi v14), (vi 0), (vi 0), (vi v20), (vi (p2 &&& (255 : Int32))), (vi v27), (vi v31), (vr b34), (vi 0), (vr b38), .unset, .unset]
   have k60 : AtQ p e below S0 T58 m 242 l59 [] := fun tt hq => k58 tt (by
    refine XS.astore X58.here hx rfl (hb hby at_240) rfl rfl (l' := l59) rfl ?_
    exact hq)
   have f61 : Exa Z h58 b43 "java/lang/String" := ((P460.keep Kq51).keep Kq58)
   have f62 : FqA Z h58 b43 (.ref t46) := ((P461.keep Kq51 (nin1 (by omega))).keep Kq58 (nin1 (by omega)))
   have f63 : FqB Z h58 b43 (.int 0) := ((P462.keep Kq51 (nin1 (by omega))).keep Kq58 (nin1 (by omega)))
   have f64 : Arv Z h58 t46 kt46 .byte (0 : Int32) [] (.int 0) := ((P463.keep Kq51 (nin1 (by omega))).keep Kq58 (nin1 (by omega)))
   have f65 : Old Z n0 h58 := ((((((((O0.ext E34).ext E38).ext E40).ext E42).ext E43).keep Kq46 (allS (by omega) all0)).keep Kq51 (allS (by omega) all0)).keep Kq58 (allS (by omega) all0))
   exact sec_m0 (cd := (0 : Int32)) (o0 := (0 : Int32)) hw hx hby hml hret hlk hnm hown46 hZ46 X58 e58 k60 N58 C58 hS46 (by omega) (by omega) (by decide) (by decide) S_c hzc P58_0 P58_1 P58_2 P58_3 P58_4 P58_5 f61 f62 f63 f64 f65 rfl (by decide) (by rw [hv20]; exact own_k0 _) (by omega) (by omega) (by omega) 
  ·
   let l66 : Array Slot := #[(vi p0), (vi p1), (vi p2), (vi p3), (vi 0), (vi 1), .unset, .unset, .unset, .unset, .unset, .unset, .unset, .unset, .unset, .unset, .unset, .unset]
   have k67 : AtQ p e below S0 s₁ m 21 l66 [(.int (p3 &&& (2 : Int32)))] := fun tt hq => k6 tt (by
    refine XS.ifNo X0.here hx rfl (hb hby at_8) rfl ((if0 _ _).trans (feq hc8_7).1) ?_
    refine XS.iconst X0.here hx rfl (hb hby at_11) ?_
    refine XS.goto X0.here hx rfl (pc0 := 12) (pc' := 16) rfl (hb hby at_12) (by decide) (by decide) ?_
    refine XS.istore X0.here hx rfl (hb hby at_16) rfl (l' := l66) rfl ?_
    refine XS.iloadN X0.here hx rfl (hb hby at_18) rfl ?_
    refine XS.iconst X0.here hx rfl (hb hby at_19) ?_
    refine XS.iand X0.here hx rfl (hb hby at_20) rfl ?_
    exact hq)
   by_cases hc21_68 : (p3 &&& (2 : Int32)) = (0 : Int32)
   ·
    let l69 : Array Slot := #[(vi p0), (vi p1), (vi p2), (vi p3), (vi 0), (vi 1), (vi 0), .unset, .unset, .unset, .unset, .unset, .unset, .unset, .unset, .unset, .unset, .unset]
    let l70 : Array Slot := #[(vi p0), (vi p1), (vi p2), (vi p3), (vi 0), (vi 1), (vi 0), (vi 2), .unset, .unset, .unset, .unset, .unset, .unset, .unset, .unset, .unset, .unset]
    let l71 : Array Slot := #[(vi p0), (vi p1), (vi p2), (vi p3), (vi 0), (vi 1), (vi 0), (vi 2), (vi 1), .unset, .unset, .unset, .unset, .unset, .unset, .unset, .unset, .unset]
    have k72 : AtQ p e below S0 s₁ m 67 l71 [(.int 1), (.int (p1 &&& (7 : Int32)))] := fun tt hq => k67 tt (by
     refine XS.ifYes X0.here hx rfl (pc0 := 21) (pc' := 28) rfl (hb hby at_21) rfl ((if0 _ _).trans (teq hc21_68).1) (by decide) (by decide) ?_
     refine XS.iconst X0.here hx rfl (hb hby at_28) ?_
     refine XS.istore X0.here hx rfl (hb hby at_29) rfl (l' := l69) rfl ?_
     refine XS.iload X0.here hx rfl (hb hby at_31) rfl ?_
     refine XS.iload X0.here hx rfl (hb hby at_33) rfl ?_
     refine XS.ifNo X0.here hx rfl (hb hby at_35) rfl ((if0 _ _).trans (feq (by decide)).1) ?_
     refine XS.iconst X0.here hx rfl (hb hby at_38) ?_
     refine XS.goto X0.here hx rfl (pc0 := 39) (pc' := 43) rfl (hb hby at_39) (by decide) (by decide) ?_
     refine XS.iadd X0.here hx rfl (hb hby at_43) rfl ?_
     refine XS.istore X0.here hx rfl (hb hby at_44) rfl (l' := l70) rfl ?_
     refine XS.iload X0.here hx rfl (hb hby at_46) rfl ?_
     refine XS.iload X0.here hx rfl (hb hby at_48) rfl ?_
     refine XS.ifNo X0.here hx rfl (hb hby at_50) rfl ((if0 _ _).trans (feq (by decide)).1) ?_
     refine XS.iconst X0.here hx rfl (hb hby at_53) ?_
     refine XS.goto X0.here hx rfl (pc0 := 54) (pc' := 58) rfl (hb hby at_54) (by decide) (by decide) ?_
     refine XS.iadd X0.here hx rfl (hb hby at_58) rfl ?_
     refine XS.istore X0.here hx rfl (hb hby at_59) rfl (l' := l71) rfl ?_
     refine XS.iloadN X0.here hx rfl (hb hby at_61) rfl ?_
     refine XS.bipush X0.here hx rfl (hb hby at_62) ?_
     refine XS.iand X0.here hx rfl (hb hby at_64) rfl ?_
     refine XS.iload X0.here hx rfl (hb hby at_65) rfl ?_
     exact hq)
    obtain ⟨_, T73, L73, X73, ⟨rfl, Nq73, eq73⟩, k73a⟩ := callS' X0 hx hZ (y := yqK) hown (wq hw 0 rfl) (wq hw 1 rfl) (wq hw 2 rfl) (wq hw 3 rfl) (by decide) (backC (W := 0) (rm_min l Z a0 hw (p1 &&& (7 : Int32)) (1 : Int32) (if (1 : Int32) < (p1 &&& (7 : Int32)) then (1 : Int32) else (p1 &&& (7 : Int32))) h0 n0 (by omega) rfl) hZ (wq hw 3 rfl) (wq hw 2 rfl) (by decide) (by decide)) e0 (argsL := [(.int (p1 &&& (7 : Int32))), (.int 1)]) (rest := []) rfl rfl pd_9 rfl (by rw [hml]; rfl) (hb hby at_67) (Nat.le_of_eq rfl) (by decide) (by decide) k72
    have k73 : AtQ p e below S0 T73 m 70 l71 [(.int (if (1 : Int32) < (p1 &&& (7 : Int32)) then (1 : Int32) else (p1 &&& (7 : Int32))))] := k73a
    have N73 := N0.app Nq73
    have e73 : T73.heap = h0 := eq73
    obtain ⟨v74, hv74⟩ : ∃ z : Int32, z = (if (1 : Int32) < (p1 &&& (7 : Int32)) then (1 : Int32) else (p1 &&& (7 : Int32))) := ⟨_, rfl⟩
    have k74 : AtQ p e below S0 T73 m 70 l71 [(.int v74)] := by rw [hv74]; exact k73
    let l75 : Array Slot := #[(vi p0), (vi p1), (vi p2), (vi p3), (vi 0), (vi 1), (vi 0), (vi 2), (vi 1), (vi v74), .unset, .unset, .unset, .unset, .unset, .unset, .unset, .unset]
    have k76 : AtQ p e below S0 T73 m 78 l75 [(.int ((p2 &&& (255 : Int32)).toUInt32.toUInt16.toUInt32.toInt32))] := fun tt hq => k74 tt (by
     refine XS.istore X73.here hx rfl (hb hby at_70) rfl (l' := l75) rfl ?_
     refine XS.iloadN X73.here hx rfl (hb hby at_72) rfl ?_
     refine XS.sipush X73.here hx rfl (hb hby at_73) ?_
     refine XS.iand X73.here hx rfl (hb hby at_76) rfl ?_
     refine XS.i2c X73.here hx rfl (hb hby at_77) rfl ?_
     exact hq)
    have k77 : AtQ p e below S0 T73 m 78 l75 [(.int (p2 &&& (255 : Int32)))] := by have hq := k76; rw [i2c_mask] at hq; exact hq
    let l78 : Array Slot := #[(vi p0), (vi p1), (vi p2), (vi p3), (vi 0), (vi 1), (vi 0), (vi 2), (vi 1), (vi v74), (vi (p2 &&& (255 : Int32))), .unset, .unset, .unset, .unset, .unset, .unset, .unset]
    have k79 : AtQ p e below S0 T73 m 89 l78 [(.int ((((p2.toUInt32 >>> ((8 : Int32) &&& 31).toUInt32).toInt32) &&& (255 : Int32)).toUInt32.toUInt16.toUInt32.toInt32))] := fun tt hq => k77 tt (by
     refine XS.istore X73.here hx rfl (hb hby at_78) rfl (l' := l78) rfl ?_
     refine XS.iloadN X73.here hx rfl (hb hby at_80) rfl ?_
     refine XS.bipush X73.here hx rfl (hb hby at_81) ?_
     refine XS.iushr X73.here hx rfl (hb hby at_83) rfl ?_
     refine XS.sipush X73.here hx rfl (hb hby at_84) ?_
     refine XS.iand X73.here hx rfl (hb hby at_87) rfl ?_
     refine XS.i2c X73.here hx rfl (hb hby at_88) rfl ?_
     exact hq)
    have k80 : AtQ p e below S0 T73 m 89 l78 [(.int (((p2.toUInt32 >>> ((8 : Int32) &&& 31).toUInt32).toInt32) &&& (255 : Int32)))] := by have hq := k79; rw [i2c_mask] at hq; exact hq
    obtain ⟨v81, hv81⟩ : ∃ z : Int32, z = (((p2.toUInt32 >>> ((8 : Int32) &&& 31).toUInt32).toInt32) &&& (255 : Int32)) := ⟨_, rfl⟩
    have k81 : AtQ p e below S0 T73 m 89 l78 [(.int v81)] := by rw [hv81]; exact k80
    have mv81 : ¬ v81 < (0 : Int32) ∧ ¬ (255 : Int32) < v81 := by rw [hv81]; exact own_m255 _
    let l82 : Array Slot := #[(vi p0), (vi p1), (vi p2), (vi p3), (vi 0), (vi 1), (vi 0), (vi 2), (vi 1), (vi v74), (vi (p2 &&& (255 : Int32))), (vi v81), .unset, .unset, .unset, .unset, .unset, .unset]
    have k83 : AtQ p e below S0 T73 m 100 l82 [(.int ((((p2.toUInt32 >>> ((16 : Int32) &&& 31).toUInt32).toInt32) &&& (255 : Int32)).toUInt32.toUInt16.toUInt32.toInt32))] := fun tt hq => k81 tt (by
     refine XS.istore X73.here hx rfl (hb hby at_89) rfl (l' := l82) rfl ?_
     refine XS.iloadN X73.here hx rfl (hb hby at_91) rfl ?_
     refine XS.bipush X73.here hx rfl (hb hby at_92) ?_
     refine XS.iushr X73.here hx rfl (hb hby at_94) rfl ?_
     refine XS.sipush X73.here hx rfl (hb hby at_95) ?_
     refine XS.iand X73.here hx rfl (hb hby at_98) rfl ?_
     refine XS.i2c X73.here hx rfl (hb hby at_99) rfl ?_
     exact hq)
    have k84 : AtQ p e below S0 T73 m 100 l82 [(.int (((p2.toUInt32 >>> ((16 : Int32) &&& 31).toUInt32).toInt32) &&& (255 : Int32)))] := by have hq := k83; rw [i2c_mask] at hq; exact hq
    obtain ⟨v85, hv85⟩ : ∃ z : Int32, z = (((p2.toUInt32 >>> ((16 : Int32) &&& 31).toUInt32).toInt32) &&& (255 : Int32)) := ⟨_, rfl⟩
    have k85 : AtQ p e below S0 T73 m 100 l82 [(.int v85)] := by rw [hv85]; exact k84
    have mv85 : ¬ v85 < (0 : Int32) ∧ ¬ (255 : Int32) < v85 := by rw [hv85]; exact own_m255 _
    let l86 : Array Slot := #[(vi p0), (vi p1), (vi p2), (vi p3), (vi 0), (vi 1), (vi 0), (vi 2), (vi 1), (vi v74), (vi (p2 &&& (255 : Int32))), (vi v81), (vi v85), .unset, .unset, .unset, .unset, .unset]
    have k87 : AtQ p e below S0 T73 m 104 l86 [(.int 2)] := fun tt hq => k85 tt (by
     refine XS.istore X73.here hx rfl (hb hby at_100) rfl (l' := l86) rfl ?_
     refine XS.iload X73.here hx rfl (hb hby at_102) rfl ?_
     exact hq)
    obtain ⟨T88, h88, c88, X88, e88, E88, A88, st88⟩ := newP X73 hx hZ (wq hw 4 rfl) e73 (g := (mkF m 104 l86 [(.int 2)])) rfl (hb hby at_104) rfl (by decide) (cap := 2) (by decide) (by decide) (by decide) (by decide)
    obtain ⟨b88, g88⟩ : ∃ z, z = h0.size := ⟨_, rfl⟩
    rw [← g88] at A88 st88
    have k88 : AtQ p e below S0 T88 m 106 l86 [(.ref b88)] := fun tt hq => k87 tt (st88 tt hq)
    have z88 : h0.size ≤ h88.size := E88.1
    have C88 := C0.trans (CHr.ext E88 C0.1)
    have V88 : Arv Z h88 b88 c88 .char (2 : Int32) [(.int 0), (.int 0)] (.int 0) := (Arv.new A88 (by decide)).pad (pad_rep [] (.int 0) 2)
    have y88 : @LT.lt Nat instLTNat b88 h88.size := V88.lt
    let l89 : Array Slot := #[(vi p0), (vi p1), (vi p2), (vi p3), (vi 0), (vi 1), (vi 0), (vi 2), (vi 1), (vi v74), (vi (p2 &&& (255 : Int32))), (vi v81), (vi v85), (vr b88), .unset, .unset, .unset, .unset]
    let l90 : Array Slot := #[(vi p0), (vi p1), (vi p2), (vi p3), (vi 0), (vi 1), (vi 0), (vi 2), (vi 1), (vi v74), (vi (p2 &&& (255 : Int32))), (vi v81), (vi v85), (vr b88), (vi 0), .unset, .unset, .unset]
    have k91 : AtQ p e below S0 T88 m 205 l90 [(.int 55357), (.int 0), (.ref b88)] := fun tt hq => k88 tt (by
     refine XS.astore X88.here hx rfl (hb hby at_106) rfl rfl (l' := l89) rfl ?_
     refine XS.iload X88.here hx rfl (hb hby at_108) rfl ?_
     refine XS.ifNo X88.here hx rfl (hb hby at_110) rfl ((if0 _ _).trans (feq (by decide)).1) ?_
     refine XS.iload X88.here hx rfl (hb hby at_113) rfl ?_
     refine XS.ifYes X88.here hx rfl (pc0 := 115) (pc' := 122) rfl (hb hby at_115) rfl ((if0 _ _).trans (teq (by decide)).1) (by decide) (by decide) ?_
     refine XS.iconst X88.here hx rfl (hb hby at_122) ?_
     refine XS.istore X88.here hx rfl (hb hby at_123) rfl (l' := l90) rfl ?_
     refine XS.iload X88.here hx rfl (hb hby at_125) rfl ?_
     refine XS.ifNo X88.here hx rfl (hb hby at_127) rfl ((if0 _ _).trans (feq (by decide)).1) ?_
     refine XS.iload X88.here hx rfl (hb hby at_130) rfl ?_
     refine XS.ifYes X88.here hx rfl (pc0 := 132) (pc' := 147) rfl (hb hby at_132) rfl ((if0 _ _).trans (teq (by decide)).1) (by decide) (by decide) ?_
     refine XS.iload X88.here hx rfl (hb hby at_147) rfl ?_
     refine XS.ifYes X88.here hx rfl (pc0 := 149) (pc' := 159) rfl (hb hby at_149) rfl ((if0 _ _).trans (flt (by decide)).2.2.2) (by decide) (by decide) ?_
     refine XS.iload X88.here hx rfl (hb hby at_159) rfl ?_
     refine XS.iconst X88.here hx rfl (hb hby at_161) ?_
     refine XS.icmpYes X88.here hx rfl (pc0 := 162) (pc' := 174) rfl (hb hby at_162) rfl (flt (by decide)).2.2.2 (by decide) (by decide) ?_
     refine XS.iload X88.here hx rfl (hb hby at_174) rfl ?_
     refine XS.iconst X88.here hx rfl (hb hby at_176) ?_
     refine XS.icmpYes X88.here hx rfl (pc0 := 177) (pc' := 189) rfl (hb hby at_177) rfl (flt (by decide)).2.2.2 (by decide) (by decide) ?_
     refine XS.iload X88.here hx rfl (hb hby at_189) rfl ?_
     refine XS.ifNo X88.here hx rfl (hb hby at_191) rfl ((if0 _ _).trans (feq (by decide)).1) ?_
     refine XS.iload X88.here hx rfl (hb hby at_194) rfl ?_
     refine XS.ifNo X88.here hx rfl (hb hby at_196) rfl ((if0 _ _).trans (teq (by decide)).2) ?_
     refine XS.aload X88.here hx rfl (hb hby at_199) rfl rfl ?_
     refine XS.iload X88.here hx rfl (hb hby at_201) rfl ?_
     refine X88.ldcInt hx hown (mvT hZ (wq hw 5 rfl)) (g := (mkF m 203 l90 [(.int 0), (.ref b88)])) rfl (hb hby at_203) _ ?_
     exact hq)
    obtain ⟨cl92, Ar92, q92, S92, M92, G92, J92⟩ := id V88
    obtain ⟨T92, h92, X92, e92, W92, st92⟩ := stC X88 hx hZ e88 Ar92 (j := (0 : Int32)) (inb_of S92 (⟨by decide, by decide⟩)) (g := (mkF m 205 l90 [(.int 55357), (.int 0), (.ref b88)])) rfl rfl (hb hby at_205)
    have k92 : AtQ p e below S0 T92 m 206 l90 [] := fun tt hq => k91 tt (st92 tt hq)
    have z92 : h92.size = h88.size := W92.size
    have C92 := C88.trans (CHr.wr W92 (Safe.arv hZ.alike V88 (by decide)) C88.1)
    have V92 : Arv Z h92 b88 c88 .char (2 : Int32) [(.int 55357), (.int 0)] (.int 0) := Arv.set Ar92 q92 S92 M92 G92 J92 (fits_nar_char _) W92 0 rfl (Nat.le_of_ble_eq_true rfl)
    have N92 := Fr.snoc X92 N73 (by omega : n0 ≤ b88)
    have k93 : AtQ p e below S0 T92 m 214 l90 [(.int 56832), (.int 1), (.ref b88)] := fun tt hq => k92 tt (by
     refine XS.aload X92.here hx rfl (hb hby at_206) rfl rfl ?_
     refine XS.iload X92.here hx rfl (hb hby at_208) rfl ?_
     refine XS.iconst X92.here hx rfl (hb hby at_210) ?_
     refine XS.iadd X92.here hx rfl (hb hby at_211) rfl ?_
     refine X92.ldcInt hx hown (mvT hZ (wq hw 6 rfl)) (g := (mkF m 212 l90 [(.int 1), (.ref b88)])) rfl (hb hby at_212) _ ?_
     exact hq)
    obtain ⟨cl94, Ar94, q94, S94, M94, G94, J94⟩ := id V92
    obtain ⟨T94, h94, X94, e94, W94, st94⟩ := stC X92 hx hZ e92 Ar94 (j := (1 : Int32)) (inb_of S94 (⟨by decide, by decide⟩)) (g := (mkF m 214 l90 [(.int 56832), (.int 1), (.ref b88)])) rfl rfl (hb hby at_214)
    have k94 : AtQ p e below S0 T94 m 215 l90 [] := fun tt hq => k93 tt (st94 tt hq)
    have z94 : h94.size = h92.size := W94.size
    have C94 := C92.trans (CHr.wr W94 (Safe.arv hZ.alike V92 (by decide)) C92.1)
    have V94 : Arv Z h94 b88 c88 .char (2 : Int32) [(.int 55357), (.int 56832)] (.int 0) := Arv.set Ar94 q94 S94 M94 G94 J94 (fits_nar_char _) W94 1 rfl (Nat.le_of_ble_eq_true rfl)
    have N94 := Fr.snoc X94 N92 (by omega : n0 ≤ b88)
    obtain ⟨T95, h95, X95, e95, E95, A95, D95, -, st95⟩ := newO X94 hx hZ hown (wq hw 7 rfl) (wq hw 8 rfl) (wq hw 9 rfl) e94 (g := (mkF m 215 l90 [])) rfl (hb hby at_215) (by decide) (by decide)
    obtain ⟨b95, g95⟩ : ∃ z, z = h94.size := ⟨_, rfl⟩
    rw [← g95] at A95 D95 st95
    have k95 : AtQ p e below S0 T95 m 218 l90 [(.ref b95)] := fun tt hq => k94 tt (st95 tt hq)
    have z95 : h94.size ≤ h95.size := E95.1
    have y95 : @LT.lt Nat instLTNat b95 h95.size := A95.lt
    have C95 := C94.trans (CHr.ext E95 C94.1)
    have F95_line : FqH Z h95 b95 (.int 0) := D95 (Or.inl (wq hw 82 rfl)) (ty := .int) (by decide)
    have F95_column : FqI Z h95 b95 (.int 0) := D95 (Or.inl (wq hw 84 rfl)) (ty := .int) (by decide)
    have F95_source : FqE Z h95 b95 .null := D95 (Or.inr (wq hw 86 rfl)) (ty := (.object "com/example/ceruline/ceruline/source/SourceFile")) (by decide)
    have F95_text : FqF Z h95 b95 .null := D95 (Or.inr (wq hw 93 rfl)) (ty := (.object "java/lang/String")) (by decide)
    have F95_offset : FqG Z h95 b95 (.int 0) := D95 (Or.inl (wq hw 100 rfl)) (ty := .int) (by decide)
    have k96 : AtQ p e below S0 T95 m 219 l90 [(.ref b95), (.ref b95)] := fun tt hq => k95 tt (by
     refine XS.dup X95.here hx rfl (hb hby at_218) rfl rfl ?_
     exact hq)
    obtain ⟨T97, h97, X97, e97, E97, A97, D97, -, st97⟩ := newO X95 hx hZ hown (wq hw 10 rfl) (wq hw 11 rfl) (wq hw 12 rfl) e95 (g := (mkF m 219 l90 [(.ref b95), (.ref b95)])) rfl (hb hby at_219) (by decide) (by decide)
    obtain ⟨b97, g97⟩ : ∃ z, z = h95.size := ⟨_, rfl⟩
    rw [← g97] at A97 D97 st97
    have k97 : AtQ p e below S0 T97 m 222 l90 [(.ref b97), (.ref b95), (.ref b95)] := fun tt hq => k96 tt (st97 tt hq)
    have z97 : h95.size ≤ h97.size := E97.1
    have y97 : @LT.lt Nat instLTNat b97 h97.size := A97.lt
    have C97 := C95.trans (CHr.ext E97 C95.1)
    have F97_name : FqC Z h97 b97 .null := D97 (Or.inr (wq hw 74 rfl)) (ty := (.object "java/lang/String")) (by decide)
    have F97_text : FqD Z h97 b97 .null := D97 (Or.inr (wq hw 76 rfl)) (ty := (.object "java/lang/String")) (by decide)
    have k98 : AtQ p e below S0 T97 m 223 l90 [(.ref b97), (.ref b97), (.ref b95), (.ref b95)] := fun tt hq => k97 tt (by
     refine XS.dup X97.here hx rfl (hb hby at_222) rfl rfl ?_
     exact hq)
    obtain ⟨a99, T99, h99, kk99, b99, c99, X99, e99, E99, hS99, hk99, hZ99a, hown99a, A99, Fc99, Fv99, V99, ya99, yb99, Cq99, -, hne99, st99⟩ := ldcCH X97 hx hZ hown (wq hw 13 rfl) (own_wS hw) e97 hS0 (by omega) (own_EW hw) (List.mem_of_getElem? (i := 0) rfl) C97.1 (vs := [(.int 102)]) (z := (1 : Int32)) ⟨by decide, by decide⟩ (by decide) (by decide) (g := (mkF m 223 l90 [(.ref b97), (.ref b97), (.ref b95), (.ref b95)])) rfl (hb hby at_223) (n := 4) (by decide) (by decide) (by decide) (by decide)
    have k99 : AtQ p e below S0 T99 m 225 l90 [(.ref a99), (.ref b97), (.ref b97), (.ref b95), (.ref b95)] := fun tt hq => k98 tt (st99 tt hq)
    have hZ99 : Z.Warmed39 T99.vm := hZ99a
    have hown99 : T99.vm.findClass "com/example/ceruline/ceruline/parsing/SourceReaderAtEndPinLaw" = some m.cls := hown99a
    have z99 : h97.size ≤ h99.size := E99.1
    have C99 := C97.trans Cq99
    obtain ⟨T100, h100, X100, e100, E100, A100, D100, -, st100⟩ := newO X99 hx hZ99 hown99 (wq hw 21 rfl) (wq hw 15 rfl) (wq hw 14 rfl) e99 (g := (mkF m 225 l90 [(.ref a99), (.ref b97), (.ref b97), (.ref b95), (.ref b95)])) rfl (hb hby at_225) (by decide) (by decide)
    obtain ⟨b100, g100⟩ : ∃ z, z = h99.size := ⟨_, rfl⟩
    rw [← g100] at A100 D100 st100
    have k100 : AtQ p e below S0 T100 m 228 l90 [(.ref b100), (.ref a99), (.ref b97), (.ref b97), (.ref b95), (.ref b95)] := fun tt hq => k99 tt (st100 tt hq)
    have z100 : h99.size ≤ h100.size := E100.1
    have y100 : @LT.lt Nat instLTNat b100 h100.size := A100.lt
    have C100 := C99.trans (CHr.ext E100 C99.1)
    have Sf100 : Safe Z own_EL T99.vm h100 b100 := Safe.ext E100 C99.1 (Safe.new (by omega))
    have F100_value : FqA Z h100 b100 .null := D100 (Or.inr (wq hw 17 rfl)) (ty := (.array .byte)) (by decide)
    have F100_coder : FqB Z h100 b100 (.int 0) := D100 (Or.inr (wq hw 18 rfl)) (ty := .byte) (by decide)
    have k101 : AtQ p e below S0 T100 m 231 l90 [(.ref b88), (.ref b100), (.ref b100), (.ref a99), (.ref b97), (.ref b97), (.ref b95), (.ref b95)] := fun tt hq => k100 tt (by
     refine XS.dup X100.here hx rfl (hb hby at_228) rfl rfl ?_
     refine XS.aload X100.here hx rfl (hb hby at_229) rfl rfl ?_
     exact hq)
    have f102 : Old Z n0 h100 := (((((((O0.ext E88).wr W92 (by omega)).wr W94 (by omega)).ext E95).ext E97).ext E99).ext E100)
    have f103 : Arv Z h100 b88 c88 .char (2 : Int32) [(.int 55357), (.int 56832)] (.int 0) := ((((V94.ext E95).ext E97).ext E99).ext E100)
    obtain ⟨_, T104, L104, X104, ⟨rfl, Nq104, Kq104, t104, kt104, gt104, P1040, P1041, P1042, P1043⟩, k104a⟩ := callC' X100 hx hZ99 (y := yqD) rfl hown99 (wq hw 22 rfl) (wq hw 23 rfl) (wq hw 24 rfl) (by decide) (backC (W := 6) (rm_n1u1 l Z a0 hw zc b100 b88 (2 : Int32) (4 : Int32) _ .null (.int 0) c88 _ h100 n0 (by omega) S_c hzc f102 A100 F100_value F100_coder (by omega) (by omega) (by decide) (by decide) (rm_c3_2_0 l Z a0 hw b88 c88 (55357 : Int32) (56832 : Int32) h100 n0 (by omega) S_ad S_hi S_lo f102 f103 (by omega) (by decide) (by decide) (by decide)) f103) hZ99 (wq hw 24 rfl) (wq hw 14 rfl) (by decide) (by decide)) e100 (argsL := [(.ref b88)]) (rest := [(.ref b100), (.ref a99), (.ref b97), (.ref b97), (.ref b95), (.ref b95)]) rfl rfl pd_10 rfl (by rw [hml]; rfl) (hb hby at_231) (Nat.le_of_eq rfl) (by decide) (by decide) k101
    have k104 : AtQ p e below S0 T104 m 234 l90 [(.ref b100), (.ref a99), (.ref b97), (.ref b97), (.ref b95), (.ref b95)] := k104a
    have N104 := N94.app Nq104
    obtain ⟨h104, e104⟩ : ∃ z, T104.heap = z := ⟨_, rfl⟩
    rw [e104] at Kq104 P1040 P1041 P1042 P1043
    have z104 : h100.size ≤ h104.size := Kq104.1
    have C104 := C100.trans (CHr.keep Kq104 (sfS Sf100 sf0) C100.1)
    have y104 : @LT.lt Nat instLTNat t104 h104.size := P1043.lt
    have f105 : Exa Z h104 b97 "com/example/ceruline/ceruline/source/SourceFile" := (((A97.ext E99).ext E100).keep Kq104)
    have f106 : FqC Z h104 b97 .null := (((F97_name.ext E99).ext E100).keep Kq104 (nin1 (by omega)))
    have f107 : FqD Z h104 b97 .null := (((F97_text.ext E99).ext E100).keep Kq104 (nin1 (by omega)))
    obtain ⟨_, T108, L108, X108, ⟨rfl, Nq108, Kq108, P1080, P1081, P1082⟩, k108a⟩ := callC' X104 hx hZ99 (y := yqM) rfl hown99 (wq hw 64 rfl) (wq hw 65 rfl) (wq hw 66 rfl) (by decide) (backC (W := 3) (rm_sfi l Z a0 hw b97 a99 b100 h104 n0 (by omega) f105 f106 f107 (by omega)) hZ99 (wq hw 66 rfl) (wq hw 12 rfl) (by decide) (by decide)) e104 (argsL := [(.ref a99), (.ref b100)]) (rest := [(.ref b97), (.ref b95), (.ref b95)]) rfl rfl pd_11 rfl (by rw [hml]; rfl) (hb hby at_234) (Nat.le_of_eq rfl) (by decide) (by decide) k104
    have k108 : AtQ p e below S0 T108 m 237 l90 [(.ref b97), (.ref b95), (.ref b95)] := k108a
    have N108 := N104.app Nq108
    obtain ⟨h108, e108⟩ : ∃ z, T108.heap = z := ⟨_, rfl⟩
    rw [e108] at Kq108 P1080 P1081 P1082
    have z108 : h104.size ≤ h108.size := Kq108.1
    have C108 := C104.trans (CHr.keep Kq108 (sfS (Safe.exa hZ99.alike f105 (by decide) (by decide)) sf0) C104.1)
    have f109 : Exa Z h108 b95 "com/example/ceruline/ceruline/parsing/SourceReader" := (((((A95.ext E97).ext E99).ext E100).keep Kq104).keep Kq108)
    have f110 : FqE Z h108 b95 .null := (((((F95_source.ext E97).ext E99).ext E100).keep Kq104 (nin1 (by omega))).keep Kq108 (nin1 (by omega)))
    have f111 : FqF Z h108 b95 .null := (((((F95_text.ext E97).ext E99).ext E100).keep Kq104 (nin1 (by omega))).keep Kq108 (nin1 (by omega)))
    have f112 : FqG Z h108 b95 (.int 0) := (((((F95_offset.ext E97).ext E99).ext E100).keep Kq104 (nin1 (by omega))).keep Kq108 (nin1 (by omega)))
    have f113 : FqH Z h108 b95 (.int 0) := (((((F95_line.ext E97).ext E99).ext E100).keep Kq104 (nin1 (by omega))).keep Kq108 (nin1 (by omega)))
    have f114 : FqI Z h108 b95 (.int 0) := (((((F95_column.ext E97).ext E99).ext E100).keep Kq104 (nin1 (by omega))).keep Kq108 (nin1 (by omega)))
    obtain ⟨_, T115, L115, X115, ⟨rfl, Nq115, Kq115, P115_0, P115_1, P115_2, P115_3, P115_4, P115_5⟩, k115a⟩ := callC' X108 hx hZ99 (y := yqO) rfl hown99 (wq hw 77 rfl) (wq hw 78 rfl) (wq hw 79 rfl) (by decide) (backC (W := 1) (rm_sri l Z a0 hw b95 b97 b100 h108 n0 (by omega) f109 f110 f111 f112 f113 f114 P1080 P1082 (by omega) (by omega)) hZ99 (wq hw 79 rfl) (wq hw 9 rfl) (by decide) (by decide)) e108 (argsL := [(.ref b97)]) (rest := [(.ref b95)]) rfl rfl pd_12 rfl (by rw [hml]; rfl) (hb hby at_237) (Nat.le_of_eq rfl) (by decide) (by decide) k108
    have k115 : AtQ p e below S0 T115 m 240 l90 [(.ref b95)] := k115a
    have N115 := N108.app Nq115
    obtain ⟨h115, e115⟩ : ∃ z, T115.heap = z := ⟨_, rfl⟩
    rw [e115] at Kq115 P115_0 P115_1 P115_2 P115_3 P115_4 P115_5
    have z115 : h108.size ≤ h115.size := Kq115.1
    have C115 := C108.trans (CHr.keep Kq115 (sfS (Safe.exa hZ99.alike f109 (by decide) (by decide)) sf0) C108.1)
    let l116 : Array Slot := #[(vi p0), (vi p1), (vi p2), (vi p3), (vi 0), (vi 1), (vi 0), (vi 2), (vi 1), (vi v74), (vi (p2 &&& (255 : Int32))), (vi v81), (vi v85), (vr b88), (vi 0), (vr b95), .unset, .unset]
    have k117 : AtQ p e below S0 T115 m 242 l116 [] := fun tt hq => k115 tt (by
     refine XS.astore X115.here hx rfl (hb hby at_240) rfl rfl (l' := l116) rfl ?_
     exact hq)
    have f118 : Exa Z h115 b100 "java/lang/String" := ((P1040.keep Kq108).keep Kq115)
    have f119 : FqA Z h115 b100 (.ref t104) := ((P1041.keep Kq108 (nin1 (by omega))).keep Kq115 (nin1 (by omega)))
    have f120 : FqB Z h115 b100 (.int 1) := ((P1042.keep Kq108 (nin1 (by omega))).keep Kq115 (nin1 (by omega)))
    have f121 : Arv Z h115 t104 kt104 .byte (4 : Int32) [(.int (ulo (55357 : Int32))), (.int (uhi (55357 : Int32))), (.int (ulo (56832 : Int32))), (.int (uhi (56832 : Int32)))] (.int 0) := ((P1043.keep Kq108 (nin1 (by omega))).keep Kq115 (nin1 (by omega)))
    have f122 : Old Z n0 h115 := (((f102.keep Kq104 (allS (by omega) all0)).keep Kq108 (allS (by omega) all0)).keep Kq115 (allS (by omega) all0))
    exact sec_m1 (cd := (1 : Int32)) (o0 := (0 : Int32)) (o1 := (2 : Int32)) hw hx hby hml hret hlk hnm hown99 hZ99 X115 e115 k117 N115 C115 hS99 (by omega) (by omega) (by decide) (by decide) S_c hzc P115_0 P115_1 P115_2 P115_3 P115_4 P115_5 f118 f119 f120 f121 f122 rfl (by decide) (by decide) (by rw [hv74]; exact own_k1 _) (by omega) (by omega) (by omega) (fun H xl xc hn g10 g0 g1 g2 g3 g4 g5 g6 g7 g8 g9 => rm_adv2 l Z a0 hw b95 b97 b100 (0 : Int32) xl xc (128512 : Int32) (2 : Int32) H n0 (by omega) g0 g1 g2 g3 g4 g5 g6 (by omega) (rm_cpu l Z a0 hw zc fm b100 t104 kt104 (4 : Int32) _ (0 : Int32) (2 : Int32) (128512 : Int32) H n0 (by omega) S_c hzc S_f hfm g10 g6 g7 g8 g9 (by decide) (by decide) (by decide) (rm_cp3u l Z a0 hw t104 (0 : Int32) (2 : Int32) (128512 : Int32) H n0 (by omega) (rm_cp4p l Z a0 hw t104 (0 : Int32) (2 : Int32) H n0 (by omega) S_ad g10 (rm_get l Z a0 hw t104 kt104 (4 : Int32) _ (0 : Int32) (0 : Int32) (ulo (55357 : Int32)) (uhi (55357 : Int32)) (55357 : Int32) H n0 (by omega) S_ad S_hi S_lo g10 g9 (by decide) (by decide) (by decide) rfl rfl (own_gc (by decide) (by decide)) (by decide) (by decide)) (rm_get l Z a0 hw t104 kt104 (4 : Int32) _ (1 : Int32) (2 : Int32) (ulo (56832 : Int32)) (uhi (56832 : Int32)) (56832 : Int32) H n0 (by omega) S_ad S_hi S_lo g10 g9 (by decide) (by decide) (by decide) rfl rfl (own_gc (by decide) (by decide)) (by decide) (by decide)) (by decide)))) (by decide) (by decide))
   ·
    let l123 : Array Slot := #[(vi p0), (vi p1), (vi p2), (vi p3), (vi 0), (vi 1), (vi 1), .unset, .unset, .unset, .unset, .unset, .unset, .unset, .unset, .unset, .unset, .unset]
    let l124 : Array Slot := #[(vi p0), (vi p1), (vi p2), (vi p3), (vi 0), (vi 1), (vi 1), (vi 2), .unset, .unset, .unset, .unset, .unset, .unset, .unset, .unset, .unset, .unset]
    let l125 : Array Slot := #[(vi p0), (vi p1), (vi p2), (vi p3), (vi 0), (vi 1), (vi 1), (vi 2), (vi 1), .unset, .unset, .unset, .unset, .unset, .unset, .unset, .unset, .unset]
    have k126 : AtQ p e below S0 s₁ m 67 l125 [(.int 1), (.int (p1 &&& (7 : Int32)))] := fun tt hq => k67 tt (by
     refine XS.ifNo X0.here hx rfl (hb hby at_21) rfl ((if0 _ _).trans (feq hc21_68).1) ?_
     refine XS.iconst X0.here hx rfl (hb hby at_24) ?_
     refine XS.goto X0.here hx rfl (pc0 := 25) (pc' := 29) rfl (hb hby at_25) (by decide) (by decide) ?_
     refine XS.istore X0.here hx rfl (hb hby at_29) rfl (l' := l123) rfl ?_
     refine XS.iload X0.here hx rfl (hb hby at_31) rfl ?_
     refine XS.iload X0.here hx rfl (hb hby at_33) rfl ?_
     refine XS.ifNo X0.here hx rfl (hb hby at_35) rfl ((if0 _ _).trans (feq (by decide)).1) ?_
     refine XS.iconst X0.here hx rfl (hb hby at_38) ?_
     refine XS.goto X0.here hx rfl (pc0 := 39) (pc' := 43) rfl (hb hby at_39) (by decide) (by decide) ?_
     refine XS.iadd X0.here hx rfl (hb hby at_43) rfl ?_
     refine XS.istore X0.here hx rfl (hb hby at_44) rfl (l' := l124) rfl ?_
     refine XS.iload X0.here hx rfl (hb hby at_46) rfl ?_
     refine XS.iload X0.here hx rfl (hb hby at_48) rfl ?_
     refine XS.ifNo X0.here hx rfl (hb hby at_50) rfl ((if0 _ _).trans (feq (by decide)).1) ?_
     refine XS.iconst X0.here hx rfl (hb hby at_53) ?_
     refine XS.goto X0.here hx rfl (pc0 := 54) (pc' := 58) rfl (hb hby at_54) (by decide) (by decide) ?_
     refine XS.iadd X0.here hx rfl (hb hby at_58) rfl ?_
     refine XS.istore X0.here hx rfl (hb hby at_59) rfl (l' := l125) rfl ?_
     refine XS.iloadN X0.here hx rfl (hb hby at_61) rfl ?_
     refine XS.bipush X0.here hx rfl (hb hby at_62) ?_
     refine XS.iand X0.here hx rfl (hb hby at_64) rfl ?_
     refine XS.iload X0.here hx rfl (hb hby at_65) rfl ?_
     exact hq)
    obtain ⟨_, T127, L127, X127, ⟨rfl, Nq127, eq127⟩, k127a⟩ := callS' X0 hx hZ (y := yqK) hown (wq hw 0 rfl) (wq hw 1 rfl) (wq hw 2 rfl) (wq hw 3 rfl) (by decide) (backC (W := 0) (rm_min l Z a0 hw (p1 &&& (7 : Int32)) (1 : Int32) (if (1 : Int32) < (p1 &&& (7 : Int32)) then (1 : Int32) else (p1 &&& (7 : Int32))) h0 n0 (by omega) rfl) hZ (wq hw 3 rfl) (wq hw 2 rfl) (by decide) (by decide)) e0 (argsL := [(.int (p1 &&& (7 : Int32))), (.int 1)]) (rest := []) rfl rfl pd_9 rfl (by rw [hml]; rfl) (hb hby at_67) (Nat.le_of_eq rfl) (by decide) (by decide) k126
    have k127 : AtQ p e below S0 T127 m 70 l125 [(.int (if (1 : Int32) < (p1 &&& (7 : Int32)) then (1 : Int32) else (p1 &&& (7 : Int32))))] := k127a
    have N127 := N0.app Nq127
    have e127 : T127.heap = h0 := eq127
    obtain ⟨v128, hv128⟩ : ∃ z : Int32, z = (if (1 : Int32) < (p1 &&& (7 : Int32)) then (1 : Int32) else (p1 &&& (7 : Int32))) := ⟨_, rfl⟩
    have k128 : AtQ p e below S0 T127 m 70 l125 [(.int v128)] := by rw [hv128]; exact k127
    let l129 : Array Slot := #[(vi p0), (vi p1), (vi p2), (vi p3), (vi 0), (vi 1), (vi 1), (vi 2), (vi 1), (vi v128), .unset, .unset, .unset, .unset, .unset, .unset, .unset, .unset]
    have k130 : AtQ p e below S0 T127 m 78 l129 [(.int ((p2 &&& (255 : Int32)).toUInt32.toUInt16.toUInt32.toInt32))] := fun tt hq => k128 tt (by
     refine XS.istore X127.here hx rfl (hb hby at_70) rfl (l' := l129) rfl ?_
     refine XS.iloadN X127.here hx rfl (hb hby at_72) rfl ?_
     refine XS.sipush X127.here hx rfl (hb hby at_73) ?_
     refine XS.iand X127.here hx rfl (hb hby at_76) rfl ?_
     refine XS.i2c X127.here hx rfl (hb hby at_77) rfl ?_
     exact hq)
    have k131 : AtQ p e below S0 T127 m 78 l129 [(.int (p2 &&& (255 : Int32)))] := by have hq := k130; rw [i2c_mask] at hq; exact hq
    let l132 : Array Slot := #[(vi p0), (vi p1), (vi p2), (vi p3), (vi 0), (vi 1), (vi 1), (vi 2), (vi 1), (vi v128), (vi (p2 &&& (255 : Int32))), .unset, .unset, .unset, .unset, .unset, .unset, .unset]
    have k133 : AtQ p e below S0 T127 m 89 l132 [(.int ((((p2.toUInt32 >>> ((8 : Int32) &&& 31).toUInt32).toInt32) &&& (255 : Int32)).toUInt32.toUInt16.toUInt32.toInt32))] := fun tt hq => k131 tt (by
     refine XS.istore X127.here hx rfl (hb hby at_78) rfl (l' := l132) rfl ?_
     refine XS.iloadN X127.here hx rfl (hb hby at_80) rfl ?_
     refine XS.bipush X127.here hx rfl (hb hby at_81) ?_
     refine XS.iushr X127.here hx rfl (hb hby at_83) rfl ?_
     refine XS.sipush X127.here hx rfl (hb hby at_84) ?_
     refine XS.iand X127.here hx rfl (hb hby at_87) rfl ?_
     refine XS.i2c X127.here hx rfl (hb hby at_88) rfl ?_
     exact hq)
    have k134 : AtQ p e below S0 T127 m 89 l132 [(.int (((p2.toUInt32 >>> ((8 : Int32) &&& 31).toUInt32).toInt32) &&& (255 : Int32)))] := by have hq := k133; rw [i2c_mask] at hq; exact hq
    obtain ⟨v135, hv135⟩ : ∃ z : Int32, z = (((p2.toUInt32 >>> ((8 : Int32) &&& 31).toUInt32).toInt32) &&& (255 : Int32)) := ⟨_, rfl⟩
    have k135 : AtQ p e below S0 T127 m 89 l132 [(.int v135)] := by rw [hv135]; exact k134
    have mv135 : ¬ v135 < (0 : Int32) ∧ ¬ (255 : Int32) < v135 := by rw [hv135]; exact own_m255 _
    let l136 : Array Slot := #[(vi p0), (vi p1), (vi p2), (vi p3), (vi 0), (vi 1), (vi 1), (vi 2), (vi 1), (vi v128), (vi (p2 &&& (255 : Int32))), (vi v135), .unset, .unset, .unset, .unset, .unset, .unset]
    have k137 : AtQ p e below S0 T127 m 100 l136 [(.int ((((p2.toUInt32 >>> ((16 : Int32) &&& 31).toUInt32).toInt32) &&& (255 : Int32)).toUInt32.toUInt16.toUInt32.toInt32))] := fun tt hq => k135 tt (by
     refine XS.istore X127.here hx rfl (hb hby at_89) rfl (l' := l136) rfl ?_
     refine XS.iloadN X127.here hx rfl (hb hby at_91) rfl ?_
     refine XS.bipush X127.here hx rfl (hb hby at_92) ?_
     refine XS.iushr X127.here hx rfl (hb hby at_94) rfl ?_
     refine XS.sipush X127.here hx rfl (hb hby at_95) ?_
     refine XS.iand X127.here hx rfl (hb hby at_98) rfl ?_
     refine XS.i2c X127.here hx rfl (hb hby at_99) rfl ?_
     exact hq)
    have k138 : AtQ p e below S0 T127 m 100 l136 [(.int (((p2.toUInt32 >>> ((16 : Int32) &&& 31).toUInt32).toInt32) &&& (255 : Int32)))] := by have hq := k137; rw [i2c_mask] at hq; exact hq
    obtain ⟨v139, hv139⟩ : ∃ z : Int32, z = (((p2.toUInt32 >>> ((16 : Int32) &&& 31).toUInt32).toInt32) &&& (255 : Int32)) := ⟨_, rfl⟩
    have k139 : AtQ p e below S0 T127 m 100 l136 [(.int v139)] := by rw [hv139]; exact k138
    have mv139 : ¬ v139 < (0 : Int32) ∧ ¬ (255 : Int32) < v139 := by rw [hv139]; exact own_m255 _
    let l140 : Array Slot := #[(vi p0), (vi p1), (vi p2), (vi p3), (vi 0), (vi 1), (vi 1), (vi 2), (vi 1), (vi v128), (vi (p2 &&& (255 : Int32))), (vi v135), (vi v139), .unset, .unset, .unset, .unset, .unset]
    have k141 : AtQ p e below S0 T127 m 104 l140 [(.int 2)] := fun tt hq => k139 tt (by
     refine XS.istore X127.here hx rfl (hb hby at_100) rfl (l' := l140) rfl ?_
     refine XS.iload X127.here hx rfl (hb hby at_102) rfl ?_
     exact hq)
    obtain ⟨T142, h142, c142, X142, e142, E142, A142, st142⟩ := newP X127 hx hZ (wq hw 4 rfl) e127 (g := (mkF m 104 l140 [(.int 2)])) rfl (hb hby at_104) rfl (by decide) (cap := 2) (by decide) (by decide) (by decide) (by decide)
    obtain ⟨b142, g142⟩ : ∃ z, z = h0.size := ⟨_, rfl⟩
    rw [← g142] at A142 st142
    have k142 : AtQ p e below S0 T142 m 106 l140 [(.ref b142)] := fun tt hq => k141 tt (st142 tt hq)
    have z142 : h0.size ≤ h142.size := E142.1
    have C142 := C0.trans (CHr.ext E142 C0.1)
    have V142 : Arv Z h142 b142 c142 .char (2 : Int32) [(.int 0), (.int 0)] (.int 0) := (Arv.new A142 (by decide)).pad (pad_rep [] (.int 0) 2)
    have y142 : @LT.lt Nat instLTNat b142 h142.size := V142.lt
    let l143 : Array Slot := #[(vi p0), (vi p1), (vi p2), (vi p3), (vi 0), (vi 1), (vi 1), (vi 2), (vi 1), (vi v128), (vi (p2 &&& (255 : Int32))), (vi v135), (vi v139), (vr b142), .unset, .unset, .unset, .unset]
    let l144 : Array Slot := #[(vi p0), (vi p1), (vi p2), (vi p3), (vi 0), (vi 1), (vi 1), (vi 2), (vi 1), (vi v128), (vi (p2 &&& (255 : Int32))), (vi v135), (vi v139), (vr b142), (vi 2), .unset, .unset, .unset]
    have k145 : AtQ p e below S0 T142 m 140 l144 [(.int 55357), (.int 0), (.ref b142)] := fun tt hq => k142 tt (by
     refine XS.astore X142.here hx rfl (hb hby at_106) rfl rfl (l' := l143) rfl ?_
     refine XS.iload X142.here hx rfl (hb hby at_108) rfl ?_
     refine XS.ifNo X142.here hx rfl (hb hby at_110) rfl ((if0 _ _).trans (feq (by decide)).1) ?_
     refine XS.iload X142.here hx rfl (hb hby at_113) rfl ?_
     refine XS.ifNo X142.here hx rfl (hb hby at_115) rfl ((if0 _ _).trans (feq (by decide)).1) ?_
     refine XS.iconst X142.here hx rfl (hb hby at_118) ?_
     refine XS.goto X142.here hx rfl (pc0 := 119) (pc' := 123) rfl (hb hby at_119) (by decide) (by decide) ?_
     refine XS.istore X142.here hx rfl (hb hby at_123) rfl (l' := l144) rfl ?_
     refine XS.iload X142.here hx rfl (hb hby at_125) rfl ?_
     refine XS.ifNo X142.here hx rfl (hb hby at_127) rfl ((if0 _ _).trans (feq (by decide)).1) ?_
     refine XS.iload X142.here hx rfl (hb hby at_130) rfl ?_
     refine XS.ifNo X142.here hx rfl (hb hby at_132) rfl ((if0 _ _).trans (feq (by decide)).1) ?_
     refine XS.aload X142.here hx rfl (hb hby at_135) rfl rfl ?_
     refine XS.iconst X142.here hx rfl (hb hby at_137) ?_
     refine X142.ldcInt hx hown (mvT hZ (wq hw 5 rfl)) (g := (mkF m 138 l144 [(.int 0), (.ref b142)])) rfl (hb hby at_138) _ ?_
     exact hq)
    obtain ⟨cl146, Ar146, q146, S146, M146, G146, J146⟩ := id V142
    obtain ⟨T146, h146, X146, e146, W146, st146⟩ := stC X142 hx hZ e142 Ar146 (j := (0 : Int32)) (inb_of S146 (⟨by decide, by decide⟩)) (g := (mkF m 140 l144 [(.int 55357), (.int 0), (.ref b142)])) rfl rfl (hb hby at_140)
    have k146 : AtQ p e below S0 T146 m 141 l144 [] := fun tt hq => k145 tt (st146 tt hq)
    have z146 : h146.size = h142.size := W146.size
    have C146 := C142.trans (CHr.wr W146 (Safe.arv hZ.alike V142 (by decide)) C142.1)
    have V146 : Arv Z h146 b142 c142 .char (2 : Int32) [(.int 55357), (.int 0)] (.int 0) := Arv.set Ar146 q146 S146 M146 G146 J146 (fits_nar_char _) W146 0 rfl (Nat.le_of_ble_eq_true rfl)
    have N146 := Fr.snoc X146 N127 (by omega : n0 ≤ b142)
    have k147 : AtQ p e below S0 T146 m 146 l144 [(.int 56832), (.int 1), (.ref b142)] := fun tt hq => k146 tt (by
     refine XS.aload X146.here hx rfl (hb hby at_141) rfl rfl ?_
     refine XS.iconst X146.here hx rfl (hb hby at_143) ?_
     refine X146.ldcInt hx hown (mvT hZ (wq hw 6 rfl)) (g := (mkF m 144 l144 [(.int 1), (.ref b142)])) rfl (hb hby at_144) _ ?_
     exact hq)
    obtain ⟨cl148, Ar148, q148, S148, M148, G148, J148⟩ := id V146
    obtain ⟨T148, h148, X148, e148, W148, st148⟩ := stC X146 hx hZ e146 Ar148 (j := (1 : Int32)) (inb_of S148 (⟨by decide, by decide⟩)) (g := (mkF m 146 l144 [(.int 56832), (.int 1), (.ref b142)])) rfl rfl (hb hby at_146)
    have k148 : AtQ p e below S0 T148 m 147 l144 [] := fun tt hq => k147 tt (st148 tt hq)
    have z148 : h148.size = h146.size := W148.size
    have C148 := C146.trans (CHr.wr W148 (Safe.arv hZ.alike V146 (by decide)) C146.1)
    have V148 : Arv Z h148 b142 c142 .char (2 : Int32) [(.int 55357), (.int 56832)] (.int 0) := Arv.set Ar148 q148 S148 M148 G148 J148 (fits_nar_char _) W148 1 rfl (Nat.le_of_ble_eq_true rfl)
    have N148 := Fr.snoc X148 N146 (by omega : n0 ≤ b142)
    have k149 : AtQ p e below S0 T148 m 215 l144 [] := fun tt hq => k148 tt (by
     refine XS.iload X148.here hx rfl (hb hby at_147) rfl ?_
     refine XS.ifYes X148.here hx rfl (pc0 := 149) (pc' := 159) rfl (hb hby at_149) rfl ((if0 _ _).trans (flt (by decide)).2.2.2) (by decide) (by decide) ?_
     refine XS.iload X148.here hx rfl (hb hby at_159) rfl ?_
     refine XS.iconst X148.here hx rfl (hb hby at_161) ?_
     refine XS.icmpYes X148.here hx rfl (pc0 := 162) (pc' := 174) rfl (hb hby at_162) rfl (flt (by decide)).2.2.2 (by decide) (by decide) ?_
     refine XS.iload X148.here hx rfl (hb hby at_174) rfl ?_
     refine XS.iconst X148.here hx rfl (hb hby at_176) ?_
     refine XS.icmpYes X148.here hx rfl (pc0 := 177) (pc' := 189) rfl (hb hby at_177) rfl (flt (by decide)).2.2.2 (by decide) (by decide) ?_
     refine XS.iload X148.here hx rfl (hb hby at_189) rfl ?_
     refine XS.ifNo X148.here hx rfl (hb hby at_191) rfl ((if0 _ _).trans (feq (by decide)).1) ?_
     refine XS.iload X148.here hx rfl (hb hby at_194) rfl ?_
     refine XS.ifYes X148.here hx rfl (pc0 := 196) (pc' := 215) rfl (hb hby at_196) rfl ((if0 _ _).trans (feq (by decide)).2) (by decide) (by decide) ?_
     exact hq)
    obtain ⟨T150, h150, X150, e150, E150, A150, D150, -, st150⟩ := newO X148 hx hZ hown (wq hw 7 rfl) (wq hw 8 rfl) (wq hw 9 rfl) e148 (g := (mkF m 215 l144 [])) rfl (hb hby at_215) (by decide) (by decide)
    obtain ⟨b150, g150⟩ : ∃ z, z = h148.size := ⟨_, rfl⟩
    rw [← g150] at A150 D150 st150
    have k150 : AtQ p e below S0 T150 m 218 l144 [(.ref b150)] := fun tt hq => k149 tt (st150 tt hq)
    have z150 : h148.size ≤ h150.size := E150.1
    have y150 : @LT.lt Nat instLTNat b150 h150.size := A150.lt
    have C150 := C148.trans (CHr.ext E150 C148.1)
    have F150_line : FqH Z h150 b150 (.int 0) := D150 (Or.inl (wq hw 82 rfl)) (ty := .int) (by decide)
    have F150_column : FqI Z h150 b150 (.int 0) := D150 (Or.inl (wq hw 84 rfl)) (ty := .int) (by decide)
    have F150_source : FqE Z h150 b150 .null := D150 (Or.inr (wq hw 86 rfl)) (ty := (.object "com/example/ceruline/ceruline/source/SourceFile")) (by decide)
    have F150_text : FqF Z h150 b150 .null := D150 (Or.inr (wq hw 93 rfl)) (ty := (.object "java/lang/String")) (by decide)
    have F150_offset : FqG Z h150 b150 (.int 0) := D150 (Or.inl (wq hw 100 rfl)) (ty := .int) (by decide)
    have k151 : AtQ p e below S0 T150 m 219 l144 [(.ref b150), (.ref b150)] := fun tt hq => k150 tt (by
     refine XS.dup X150.here hx rfl (hb hby at_218) rfl rfl ?_
     exact hq)
    obtain ⟨T152, h152, X152, e152, E152, A152, D152, -, st152⟩ := newO X150 hx hZ hown (wq hw 10 rfl) (wq hw 11 rfl) (wq hw 12 rfl) e150 (g := (mkF m 219 l144 [(.ref b150), (.ref b150)])) rfl (hb hby at_219) (by decide) (by decide)
    obtain ⟨b152, g152⟩ : ∃ z, z = h150.size := ⟨_, rfl⟩
    rw [← g152] at A152 D152 st152
    have k152 : AtQ p e below S0 T152 m 222 l144 [(.ref b152), (.ref b150), (.ref b150)] := fun tt hq => k151 tt (st152 tt hq)
    have z152 : h150.size ≤ h152.size := E152.1
    have y152 : @LT.lt Nat instLTNat b152 h152.size := A152.lt
    have C152 := C150.trans (CHr.ext E152 C150.1)
    have F152_name : FqC Z h152 b152 .null := D152 (Or.inr (wq hw 74 rfl)) (ty := (.object "java/lang/String")) (by decide)
    have F152_text : FqD Z h152 b152 .null := D152 (Or.inr (wq hw 76 rfl)) (ty := (.object "java/lang/String")) (by decide)
    have k153 : AtQ p e below S0 T152 m 223 l144 [(.ref b152), (.ref b152), (.ref b150), (.ref b150)] := fun tt hq => k152 tt (by
     refine XS.dup X152.here hx rfl (hb hby at_222) rfl rfl ?_
     exact hq)
    obtain ⟨a154, T154, h154, kk154, b154, c154, X154, e154, E154, hS154, hk154, hZ154a, hown154a, A154, Fc154, Fv154, V154, ya154, yb154, Cq154, -, hne154, st154⟩ := ldcCH X152 hx hZ hown (wq hw 13 rfl) (own_wS hw) e152 hS0 (by omega) (own_EW hw) (List.mem_of_getElem? (i := 0) rfl) C152.1 (vs := [(.int 102)]) (z := (1 : Int32)) ⟨by decide, by decide⟩ (by decide) (by decide) (g := (mkF m 223 l144 [(.ref b152), (.ref b152), (.ref b150), (.ref b150)])) rfl (hb hby at_223) (n := 4) (by decide) (by decide) (by decide) (by decide)
    have k154 : AtQ p e below S0 T154 m 225 l144 [(.ref a154), (.ref b152), (.ref b152), (.ref b150), (.ref b150)] := fun tt hq => k153 tt (st154 tt hq)
    have hZ154 : Z.Warmed39 T154.vm := hZ154a
    have hown154 : T154.vm.findClass "com/example/ceruline/ceruline/parsing/SourceReaderAtEndPinLaw" = some m.cls := hown154a
    have z154 : h152.size ≤ h154.size := E154.1
    have C154 := C152.trans Cq154
    obtain ⟨T155, h155, X155, e155, E155, A155, D155, -, st155⟩ := newO X154 hx hZ154 hown154 (wq hw 21 rfl) (wq hw 15 rfl) (wq hw 14 rfl) e154 (g := (mkF m 225 l144 [(.ref a154), (.ref b152), (.ref b152), (.ref b150), (.ref b150)])) rfl (hb hby at_225) (by decide) (by decide)
    obtain ⟨b155, g155⟩ : ∃ z, z = h154.size := ⟨_, rfl⟩
    rw [← g155] at A155 D155 st155
    have k155 : AtQ p e below S0 T155 m 228 l144 [(.ref b155), (.ref a154), (.ref b152), (.ref b152), (.ref b150), (.ref b150)] := fun tt hq => k154 tt (st155 tt hq)
    have z155 : h154.size ≤ h155.size := E155.1
    have y155 : @LT.lt Nat instLTNat b155 h155.size := A155.lt
    have C155 := C154.trans (CHr.ext E155 C154.1)
    have Sf155 : Safe Z own_EL T154.vm h155 b155 := Safe.ext E155 C154.1 (Safe.new (by omega))
    have F155_value : FqA Z h155 b155 .null := D155 (Or.inr (wq hw 17 rfl)) (ty := (.array .byte)) (by decide)
    have F155_coder : FqB Z h155 b155 (.int 0) := D155 (Or.inr (wq hw 18 rfl)) (ty := .byte) (by decide)
    have k156 : AtQ p e below S0 T155 m 231 l144 [(.ref b142), (.ref b155), (.ref b155), (.ref a154), (.ref b152), (.ref b152), (.ref b150), (.ref b150)] := fun tt hq => k155 tt (by
     refine XS.dup X155.here hx rfl (hb hby at_228) rfl rfl ?_
     refine XS.aload X155.here hx rfl (hb hby at_229) rfl rfl ?_
     exact hq)
    have f157 : Old Z n0 h155 := (((((((O0.ext E142).wr W146 (by omega)).wr W148 (by omega)).ext E150).ext E152).ext E154).ext E155)
    have f158 : Arv Z h155 b142 c142 .char (2 : Int32) [(.int 55357), (.int 56832)] (.int 0) := ((((V148.ext E150).ext E152).ext E154).ext E155)
    obtain ⟨_, T159, L159, X159, ⟨rfl, Nq159, Kq159, t159, kt159, gt159, P1590, P1591, P1592, P1593⟩, k159a⟩ := callC' X155 hx hZ154 (y := yqD) rfl hown154 (wq hw 22 rfl) (wq hw 23 rfl) (wq hw 24 rfl) (by decide) (backC (W := 6) (rm_n1u1 l Z a0 hw zc b155 b142 (2 : Int32) (4 : Int32) _ .null (.int 0) c142 _ h155 n0 (by omega) S_c hzc f157 A155 F155_value F155_coder (by omega) (by omega) (by decide) (by decide) (rm_c3_2_0 l Z a0 hw b142 c142 (55357 : Int32) (56832 : Int32) h155 n0 (by omega) S_ad S_hi S_lo f157 f158 (by omega) (by decide) (by decide) (by decide)) f158) hZ154 (wq hw 24 rfl) (wq hw 14 rfl) (by decide) (by decide)) e155 (argsL := [(.ref b142)]) (rest := [(.ref b155), (.ref a154), (.ref b152), (.ref b152), (.ref b150), (.ref b150)]) rfl rfl pd_10 rfl (by rw [hml]; rfl) (hb hby at_231) (Nat.le_of_eq rfl) (by decide) (by decide) k156
    have k159 : AtQ p e below S0 T159 m 234 l144 [(.ref b155), (.ref a154), (.ref b152), (.ref b152), (.ref b150), (.ref b150)] := k159a
    have N159 := N148.app Nq159
    obtain ⟨h159, e159⟩ : ∃ z, T159.heap = z := ⟨_, rfl⟩
    rw [e159] at Kq159 P1590 P1591 P1592 P1593
    have z159 : h155.size ≤ h159.size := Kq159.1
    have C159 := C155.trans (CHr.keep Kq159 (sfS Sf155 sf0) C155.1)
    have y159 : @LT.lt Nat instLTNat t159 h159.size := P1593.lt
    have f160 : Exa Z h159 b152 "com/example/ceruline/ceruline/source/SourceFile" := (((A152.ext E154).ext E155).keep Kq159)
    have f161 : FqC Z h159 b152 .null := (((F152_name.ext E154).ext E155).keep Kq159 (nin1 (by omega)))
    have f162 : FqD Z h159 b152 .null := (((F152_text.ext E154).ext E155).keep Kq159 (nin1 (by omega)))
    obtain ⟨_, T163, L163, X163, ⟨rfl, Nq163, Kq163, P1630, P1631, P1632⟩, k163a⟩ := callC' X159 hx hZ154 (y := yqM) rfl hown154 (wq hw 64 rfl) (wq hw 65 rfl) (wq hw 66 rfl) (by decide) (backC (W := 3) (rm_sfi l Z a0 hw b152 a154 b155 h159 n0 (by omega) f160 f161 f162 (by omega)) hZ154 (wq hw 66 rfl) (wq hw 12 rfl) (by decide) (by decide)) e159 (argsL := [(.ref a154), (.ref b155)]) (rest := [(.ref b152), (.ref b150), (.ref b150)]) rfl rfl pd_11 rfl (by rw [hml]; rfl) (hb hby at_234) (Nat.le_of_eq rfl) (by decide) (by decide) k159
    have k163 : AtQ p e below S0 T163 m 237 l144 [(.ref b152), (.ref b150), (.ref b150)] := k163a
    have N163 := N159.app Nq163
    obtain ⟨h163, e163⟩ : ∃ z, T163.heap = z := ⟨_, rfl⟩
    rw [e163] at Kq163 P1630 P1631 P1632
    have z163 : h159.size ≤ h163.size := Kq163.1
    have C163 := C159.trans (CHr.keep Kq163 (sfS (Safe.exa hZ154.alike f160 (by decide) (by decide)) sf0) C159.1)
    have f164 : Exa Z h163 b150 "com/example/ceruline/ceruline/parsing/SourceReader" := (((((A150.ext E152).ext E154).ext E155).keep Kq159).keep Kq163)
    have f165 : FqE Z h163 b150 .null := (((((F150_source.ext E152).ext E154).ext E155).keep Kq159 (nin1 (by omega))).keep Kq163 (nin1 (by omega)))
    have f166 : FqF Z h163 b150 .null := (((((F150_text.ext E152).ext E154).ext E155).keep Kq159 (nin1 (by omega))).keep Kq163 (nin1 (by omega)))
    have f167 : FqG Z h163 b150 (.int 0) := (((((F150_offset.ext E152).ext E154).ext E155).keep Kq159 (nin1 (by omega))).keep Kq163 (nin1 (by omega)))
    have f168 : FqH Z h163 b150 (.int 0) := (((((F150_line.ext E152).ext E154).ext E155).keep Kq159 (nin1 (by omega))).keep Kq163 (nin1 (by omega)))
    have f169 : FqI Z h163 b150 (.int 0) := (((((F150_column.ext E152).ext E154).ext E155).keep Kq159 (nin1 (by omega))).keep Kq163 (nin1 (by omega)))
    obtain ⟨_, T170, L170, X170, ⟨rfl, Nq170, Kq170, P170_0, P170_1, P170_2, P170_3, P170_4, P170_5⟩, k170a⟩ := callC' X163 hx hZ154 (y := yqO) rfl hown154 (wq hw 77 rfl) (wq hw 78 rfl) (wq hw 79 rfl) (by decide) (backC (W := 1) (rm_sri l Z a0 hw b150 b152 b155 h163 n0 (by omega) f164 f165 f166 f167 f168 f169 P1630 P1632 (by omega) (by omega)) hZ154 (wq hw 79 rfl) (wq hw 9 rfl) (by decide) (by decide)) e163 (argsL := [(.ref b152)]) (rest := [(.ref b150)]) rfl rfl pd_12 rfl (by rw [hml]; rfl) (hb hby at_237) (Nat.le_of_eq rfl) (by decide) (by decide) k163
    have k170 : AtQ p e below S0 T170 m 240 l144 [(.ref b150)] := k170a
    have N170 := N163.app Nq170
    obtain ⟨h170, e170⟩ : ∃ z, T170.heap = z := ⟨_, rfl⟩
    rw [e170] at Kq170 P170_0 P170_1 P170_2 P170_3 P170_4 P170_5
    have z170 : h163.size ≤ h170.size := Kq170.1
    have C170 := C163.trans (CHr.keep Kq170 (sfS (Safe.exa hZ154.alike f164 (by decide) (by decide)) sf0) C163.1)
    let l171 : Array Slot := #[(vi p0), (vi p1), (vi p2), (vi p3), (vi 0), (vi 1), (vi 1), (vi 2), (vi 1), (vi v128), (vi (p2 &&& (255 : Int32))), (vi v135), (vi v139), (vr b142), (vi 2), (vr b150), .unset, .unset]
    have k172 : AtQ p e below S0 T170 m 242 l171 [] := fun tt hq => k170 tt (by
     refine XS.astore X170.here hx rfl (hb hby at_240) rfl rfl (l' := l171) rfl ?_
     exact hq)
    have f173 : Exa Z h170 b155 "java/lang/String" := ((P1590.keep Kq163).keep Kq170)
    have f174 : FqA Z h170 b155 (.ref t159) := ((P1591.keep Kq163 (nin1 (by omega))).keep Kq170 (nin1 (by omega)))
    have f175 : FqB Z h170 b155 (.int 1) := ((P1592.keep Kq163 (nin1 (by omega))).keep Kq170 (nin1 (by omega)))
    have f176 : Arv Z h170 t159 kt159 .byte (4 : Int32) [(.int (ulo (55357 : Int32))), (.int (uhi (55357 : Int32))), (.int (ulo (56832 : Int32))), (.int (uhi (56832 : Int32)))] (.int 0) := ((P1593.keep Kq163 (nin1 (by omega))).keep Kq170 (nin1 (by omega)))
    have f177 : Old Z n0 h170 := (((f157.keep Kq159 (allS (by omega) all0)).keep Kq163 (allS (by omega) all0)).keep Kq170 (allS (by omega) all0))
    exact sec_m1 (cd := (1 : Int32)) (o0 := (0 : Int32)) (o1 := (2 : Int32)) hw hx hby hml hret hlk hnm hown154 hZ154 X170 e170 k172 N170 C170 hS154 (by omega) (by omega) (by decide) (by decide) S_c hzc P170_0 P170_1 P170_2 P170_3 P170_4 P170_5 f173 f174 f175 f176 f177 rfl (by decide) (by decide) (by rw [hv128]; exact own_k1 _) (by omega) (by omega) (by omega) (fun H xl xc hn g10 g0 g1 g2 g3 g4 g5 g6 g7 g8 g9 => rm_adv2 l Z a0 hw b150 b152 b155 (0 : Int32) xl xc (128512 : Int32) (2 : Int32) H n0 (by omega) g0 g1 g2 g3 g4 g5 g6 (by omega) (rm_cpu l Z a0 hw zc fm b155 t159 kt159 (4 : Int32) _ (0 : Int32) (2 : Int32) (128512 : Int32) H n0 (by omega) S_c hzc S_f hfm g10 g6 g7 g8 g9 (by decide) (by decide) (by decide) (rm_cp3u l Z a0 hw t159 (0 : Int32) (2 : Int32) (128512 : Int32) H n0 (by omega) (rm_cp4p l Z a0 hw t159 (0 : Int32) (2 : Int32) H n0 (by omega) S_ad g10 (rm_get l Z a0 hw t159 kt159 (4 : Int32) _ (0 : Int32) (0 : Int32) (ulo (55357 : Int32)) (uhi (55357 : Int32)) (55357 : Int32) H n0 (by omega) S_ad S_hi S_lo g10 g9 (by decide) (by decide) (by decide) rfl rfl (own_gc (by decide) (by decide)) (by decide) (by decide)) (rm_get l Z a0 hw t159 kt159 (4 : Int32) _ (1 : Int32) (2 : Int32) (ulo (56832 : Int32)) (uhi (56832 : Int32)) (56832 : Int32) H n0 (by omega) S_ad S_hi S_lo g10 g9 (by decide) (by decide) (by decide) rfl rfl (own_gc (by decide) (by decide)) (by decide) (by decide)) (by decide)))) (by decide) (by decide))
 ·
  have k178 : AtQ p e below S0 s₁ m 3 l1 [(.int 1)] := by have hq := k2; rw [ht3] at hq; exact hq
  let l179 : Array Slot := #[(vi p0), (vi p1), (vi p2), (vi p3), (vi 1), .unset, .unset, .unset, .unset, .unset, .unset, .unset, .unset, .unset, .unset, .unset, .unset, .unset]
  have k180 : AtQ p e below S0 s₁ m 8 l179 [(.int (p3 &&& (1 : Int32)))] := fun tt hq => k178 tt (by
   refine XS.istore X0.here hx rfl (hb hby at_3) rfl (l' := l179) rfl ?_
   refine XS.iloadN X0.here hx rfl (hb hby at_5) rfl ?_
   refine XS.iconst X0.here hx rfl (hb hby at_6) ?_
   refine XS.iand X0.here hx rfl (hb hby at_7) rfl ?_
   exact hq)
  by_cases hc8_181 : (p3 &&& (1 : Int32)) = (0 : Int32)
  ·
   let l182 : Array Slot := #[(vi p0), (vi p1), (vi p2), (vi p3), (vi 1), (vi 0), .unset, .unset, .unset, .unset, .unset, .unset, .unset, .unset, .unset, .unset, .unset, .unset]
   have k183 : AtQ p e below S0 s₁ m 21 l182 [(.int (p3 &&& (2 : Int32)))] := fun tt hq => k180 tt (by
    refine XS.ifYes X0.here hx rfl (pc0 := 8) (pc' := 15) rfl (hb hby at_8) rfl ((if0 _ _).trans (teq hc8_181).1) (by decide) (by decide) ?_
    refine XS.iconst X0.here hx rfl (hb hby at_15) ?_
    refine XS.istore X0.here hx rfl (hb hby at_16) rfl (l' := l182) rfl ?_
    refine XS.iloadN X0.here hx rfl (hb hby at_18) rfl ?_
    refine XS.iconst X0.here hx rfl (hb hby at_19) ?_
    refine XS.iand X0.here hx rfl (hb hby at_20) rfl ?_
    exact hq)
   refine joinT (S0 := S0) X0 e0 (mkF m 29 l182 [(.int (if (p3 &&& (2 : Int32)) = (0 : Int32) then (0 : Int32) else (1 : Int32)))]) (fun kont => ?_) (fun T184 X184 e184 k184 => ?_)
   ·
    by_cases hc21_185 : (p3 &&& (2 : Int32)) = (0 : Int32)
    ·
     have k186 : AtQ p e below S0 s₁ m 29 l182 [(.int 0)] := fun tt hq => k183 tt (by
      refine XS.ifYes X0.here hx rfl (pc0 := 21) (pc' := 28) rfl (hb hby at_21) rfl ((if0 _ _).trans (teq hc21_185).1) (by decide) (by decide) ?_
      refine XS.iconst X0.here hx rfl (hb hby at_28) ?_
      exact hq)
     exact kont s₁ X0 e0 (fun tt hq => k186 tt (by simpa only [if_pos hc21_185, l182] using hq))
    ·
     have k187 : AtQ p e below S0 s₁ m 29 l182 [(.int 1)] := fun tt hq => k183 tt (by
      refine XS.ifNo X0.here hx rfl (hb hby at_21) rfl ((if0 _ _).trans (feq hc21_185).1) ?_
      refine XS.iconst X0.here hx rfl (hb hby at_24) ?_
      refine XS.goto X0.here hx rfl (pc0 := 25) (pc' := 29) rfl (hb hby at_25) (by decide) (by decide) ?_
      exact hq)
     exact kont s₁ X0 e0 (fun tt hq => k187 tt (by simpa only [if_neg hc21_185, l182] using hq))
   obtain ⟨v188, hv188⟩ : ∃ z : Int32, z = (if (p3 &&& (2 : Int32)) = (0 : Int32) then (0 : Int32) else (1 : Int32)) := ⟨_, rfl⟩
   have k188 : AtQ p e below S0 T184 m 29 l182 [(.int v188)] := by rw [hv188]; exact k184
   let l189 : Array Slot := #[(vi p0), (vi p1), (vi p2), (vi p3), (vi 1), (vi 0), (vi v188), .unset, .unset, .unset, .unset, .unset, .unset, .unset, .unset, .unset, .unset, .unset]
   let l190 : Array Slot := #[(vi p0), (vi p1), (vi p2), (vi p3), (vi 1), (vi 0), (vi v188), (vi 1), .unset, .unset, .unset, .unset, .unset, .unset, .unset, .unset, .unset, .unset]
   let l191 : Array Slot := #[(vi p0), (vi p1), (vi p2), (vi p3), (vi 1), (vi 0), (vi v188), (vi 1), (vi 1), .unset, .unset, .unset, .unset, .unset, .unset, .unset, .unset, .unset]
   have k192 : AtQ p e below S0 T184 m 67 l191 [(.int 1), (.int (p1 &&& (7 : Int32)))] := fun tt hq => k188 tt (by
    refine XS.istore X184.here hx rfl (hb hby at_29) rfl (l' := l189) rfl ?_
    refine XS.iload X184.here hx rfl (hb hby at_31) rfl ?_
    refine XS.iload X184.here hx rfl (hb hby at_33) rfl ?_
    refine XS.ifYes X184.here hx rfl (pc0 := 35) (pc' := 42) rfl (hb hby at_35) rfl ((if0 _ _).trans (teq (by decide)).1) (by decide) (by decide) ?_
    refine XS.iconst X184.here hx rfl (hb hby at_42) ?_
    refine XS.iadd X184.here hx rfl (hb hby at_43) rfl ?_
    refine XS.istore X184.here hx rfl (hb hby at_44) rfl (l' := l190) rfl ?_
    refine XS.iload X184.here hx rfl (hb hby at_46) rfl ?_
    refine XS.iload X184.here hx rfl (hb hby at_48) rfl ?_
    refine XS.ifYes X184.here hx rfl (pc0 := 50) (pc' := 57) rfl (hb hby at_50) rfl ((if0 _ _).trans (teq (by decide)).1) (by decide) (by decide) ?_
    refine XS.iconst X184.here hx rfl (hb hby at_57) ?_
    refine XS.iadd X184.here hx rfl (hb hby at_58) rfl ?_
    refine XS.istore X184.here hx rfl (hb hby at_59) rfl (l' := l191) rfl ?_
    refine XS.iloadN X184.here hx rfl (hb hby at_61) rfl ?_
    refine XS.bipush X184.here hx rfl (hb hby at_62) ?_
    refine XS.iand X184.here hx rfl (hb hby at_64) rfl ?_
    refine XS.iload X184.here hx rfl (hb hby at_65) rfl ?_
    exact hq)
   obtain ⟨_, T193, L193, X193, ⟨rfl, Nq193, eq193⟩, k193a⟩ := callS' X184 hx hZ (y := yqK) hown (wq hw 0 rfl) (wq hw 1 rfl) (wq hw 2 rfl) (wq hw 3 rfl) (by decide) (backC (W := 0) (rm_min l Z a0 hw (p1 &&& (7 : Int32)) (1 : Int32) (if (1 : Int32) < (p1 &&& (7 : Int32)) then (1 : Int32) else (p1 &&& (7 : Int32))) h0 n0 (by omega) rfl) hZ (wq hw 3 rfl) (wq hw 2 rfl) (by decide) (by decide)) e184 (argsL := [(.int (p1 &&& (7 : Int32))), (.int 1)]) (rest := []) rfl rfl pd_9 rfl (by rw [hml]; rfl) (hb hby at_67) (Nat.le_of_eq rfl) (by decide) (by decide) k192
   have k193 : AtQ p e below S0 T193 m 70 l191 [(.int (if (1 : Int32) < (p1 &&& (7 : Int32)) then (1 : Int32) else (p1 &&& (7 : Int32))))] := k193a
   have N193 := N0.app Nq193
   have e193 : T193.heap = h0 := eq193
   obtain ⟨v194, hv194⟩ : ∃ z : Int32, z = (if (1 : Int32) < (p1 &&& (7 : Int32)) then (1 : Int32) else (p1 &&& (7 : Int32))) := ⟨_, rfl⟩
   have k194 : AtQ p e below S0 T193 m 70 l191 [(.int v194)] := by rw [hv194]; exact k193
   let l195 : Array Slot := #[(vi p0), (vi p1), (vi p2), (vi p3), (vi 1), (vi 0), (vi v188), (vi 1), (vi 1), (vi v194), .unset, .unset, .unset, .unset, .unset, .unset, .unset, .unset]
   have k196 : AtQ p e below S0 T193 m 78 l195 [(.int ((p2 &&& (255 : Int32)).toUInt32.toUInt16.toUInt32.toInt32))] := fun tt hq => k194 tt (by
    refine XS.istore X193.here hx rfl (hb hby at_70) rfl (l' := l195) rfl ?_
    refine XS.iloadN X193.here hx rfl (hb hby at_72) rfl ?_
    refine XS.sipush X193.here hx rfl (hb hby at_73) ?_
    refine XS.iand X193.here hx rfl (hb hby at_76) rfl ?_
    refine XS.i2c X193.here hx rfl (hb hby at_77) rfl ?_
    exact hq)
   have k197 : AtQ p e below S0 T193 m 78 l195 [(.int (p2 &&& (255 : Int32)))] := by have hq := k196; rw [i2c_mask] at hq; exact hq
   let l198 : Array Slot := #[(vi p0), (vi p1), (vi p2), (vi p3), (vi 1), (vi 0), (vi v188), (vi 1), (vi 1), (vi v194), (vi (p2 &&& (255 : Int32))), .unset, .unset, .unset, .unset, .unset, .unset, .unset]
   have k199 : AtQ p e below S0 T193 m 89 l198 [(.int ((((p2.toUInt32 >>> ((8 : Int32) &&& 31).toUInt32).toInt32) &&& (255 : Int32)).toUInt32.toUInt16.toUInt32.toInt32))] := fun tt hq => k197 tt (by
    refine XS.istore X193.here hx rfl (hb hby at_78) rfl (l' := l198) rfl ?_
    refine XS.iloadN X193.here hx rfl (hb hby at_80) rfl ?_
    refine XS.bipush X193.here hx rfl (hb hby at_81) ?_
    refine XS.iushr X193.here hx rfl (hb hby at_83) rfl ?_
    refine XS.sipush X193.here hx rfl (hb hby at_84) ?_
    refine XS.iand X193.here hx rfl (hb hby at_87) rfl ?_
    refine XS.i2c X193.here hx rfl (hb hby at_88) rfl ?_
    exact hq)
   have k200 : AtQ p e below S0 T193 m 89 l198 [(.int (((p2.toUInt32 >>> ((8 : Int32) &&& 31).toUInt32).toInt32) &&& (255 : Int32)))] := by have hq := k199; rw [i2c_mask] at hq; exact hq
   obtain ⟨v201, hv201⟩ : ∃ z : Int32, z = (((p2.toUInt32 >>> ((8 : Int32) &&& 31).toUInt32).toInt32) &&& (255 : Int32)) := ⟨_, rfl⟩
   have k201 : AtQ p e below S0 T193 m 89 l198 [(.int v201)] := by rw [hv201]; exact k200
   have mv201 : ¬ v201 < (0 : Int32) ∧ ¬ (255 : Int32) < v201 := by rw [hv201]; exact own_m255 _
   let l202 : Array Slot := #[(vi p0), (vi p1), (vi p2), (vi p3), (vi 1), (vi 0), (vi v188), (vi 1), (vi 1), (vi v194), (vi (p2 &&& (255 : Int32))), (vi v201), .unset, .unset, .unset, .unset, .unset, .unset]
   have k203 : AtQ p e below S0 T193 m 100 l202 [(.int ((((p2.toUInt32 >>> ((16 : Int32) &&& 31).toUInt32).toInt32) &&& (255 : Int32)).toUInt32.toUInt16.toUInt32.toInt32))] := fun tt hq => k201 tt (by
    refine XS.istore X193.here hx rfl (hb hby at_89) rfl (l' := l202) rfl ?_
    refine XS.iloadN X193.here hx rfl (hb hby at_91) rfl ?_
    refine XS.bipush X193.here hx rfl (hb hby at_92) ?_
    refine XS.iushr X193.here hx rfl (hb hby at_94) rfl ?_
    refine XS.sipush X193.here hx rfl (hb hby at_95) ?_
    refine XS.iand X193.here hx rfl (hb hby at_98) rfl ?_
    refine XS.i2c X193.here hx rfl (hb hby at_99) rfl ?_
    exact hq)
   have k204 : AtQ p e below S0 T193 m 100 l202 [(.int (((p2.toUInt32 >>> ((16 : Int32) &&& 31).toUInt32).toInt32) &&& (255 : Int32)))] := by have hq := k203; rw [i2c_mask] at hq; exact hq
   obtain ⟨v205, hv205⟩ : ∃ z : Int32, z = (((p2.toUInt32 >>> ((16 : Int32) &&& 31).toUInt32).toInt32) &&& (255 : Int32)) := ⟨_, rfl⟩
   have k205 : AtQ p e below S0 T193 m 100 l202 [(.int v205)] := by rw [hv205]; exact k204
   have mv205 : ¬ v205 < (0 : Int32) ∧ ¬ (255 : Int32) < v205 := by rw [hv205]; exact own_m255 _
   let l206 : Array Slot := #[(vi p0), (vi p1), (vi p2), (vi p3), (vi 1), (vi 0), (vi v188), (vi 1), (vi 1), (vi v194), (vi (p2 &&& (255 : Int32))), (vi v201), (vi v205), .unset, .unset, .unset, .unset, .unset]
   have k207 : AtQ p e below S0 T193 m 104 l206 [(.int 1)] := fun tt hq => k205 tt (by
    refine XS.istore X193.here hx rfl (hb hby at_100) rfl (l' := l206) rfl ?_
    refine XS.iload X193.here hx rfl (hb hby at_102) rfl ?_
    exact hq)
   obtain ⟨T208, h208, c208, X208, e208, E208, A208, st208⟩ := newP X193 hx hZ (wq hw 4 rfl) e193 (g := (mkF m 104 l206 [(.int 1)])) rfl (hb hby at_104) rfl (by decide) (cap := 1) (by decide) (by decide) (by decide) (by decide)
   obtain ⟨b208, g208⟩ : ∃ z, z = h0.size := ⟨_, rfl⟩
   rw [← g208] at A208 st208
   have k208 : AtQ p e below S0 T208 m 106 l206 [(.ref b208)] := fun tt hq => k207 tt (st208 tt hq)
   have z208 : h0.size ≤ h208.size := E208.1
   have C208 := C0.trans (CHr.ext E208 C0.1)
   have V208 : Arv Z h208 b208 c208 .char (1 : Int32) [(.int 0)] (.int 0) := (Arv.new A208 (by decide)).pad (pad_rep [] (.int 0) 1)
   have y208 : @LT.lt Nat instLTNat b208 h208.size := V208.lt
   let l209 : Array Slot := #[(vi p0), (vi p1), (vi p2), (vi p3), (vi 1), (vi 0), (vi v188), (vi 1), (vi 1), (vi v194), (vi (p2 &&& (255 : Int32))), (vi v201), (vi v205), (vr b208), .unset, .unset, .unset, .unset]
   let l210 : Array Slot := #[(vi p0), (vi p1), (vi p2), (vi p3), (vi 1), (vi 0), (vi v188), (vi 1), (vi 1), (vi v194), (vi (p2 &&& (255 : Int32))), (vi v201), (vi v205), (vr b208), (vi 0), .unset, .unset, .unset]
   have k211 : AtQ p e below S0 T208 m 158 l210 [(.int (p2 &&& (255 : Int32))), (.int 0), (.ref b208)] := fun tt hq => k208 tt (by
    refine XS.astore X208.here hx rfl (hb hby at_106) rfl rfl (l' := l209) rfl ?_
    refine XS.iload X208.here hx rfl (hb hby at_108) rfl ?_
    refine XS.ifYes X208.here hx rfl (pc0 := 110) (pc' := 122) rfl (hb hby at_110) rfl ((if0 _ _).trans (teq (by decide)).1) (by decide) (by decide) ?_
    refine XS.iconst X208.here hx rfl (hb hby at_122) ?_
    refine XS.istore X208.here hx rfl (hb hby at_123) rfl (l' := l210) rfl ?_
    refine XS.iload X208.here hx rfl (hb hby at_125) rfl ?_
    refine XS.ifYes X208.here hx rfl (pc0 := 127) (pc' := 147) rfl (hb hby at_127) rfl ((if0 _ _).trans (teq (by decide)).1) (by decide) (by decide) ?_
    refine XS.iload X208.here hx rfl (hb hby at_147) rfl ?_
    refine XS.ifNo X208.here hx rfl (hb hby at_149) rfl ((if0 _ _).trans (tlt (by decide)).2.2.2) ?_
    refine XS.aload X208.here hx rfl (hb hby at_152) rfl rfl ?_
    refine XS.iload X208.here hx rfl (hb hby at_154) rfl ?_
    refine XS.iload X208.here hx rfl (hb hby at_156) rfl ?_
    exact hq)
   obtain ⟨cl212, Ar212, q212, S212, M212, G212, J212⟩ := id V208
   obtain ⟨T212, h212, X212, e212, W212, st212⟩ := stC X208 hx hZ e208 Ar212 (j := (0 : Int32)) (inb_of S212 (⟨by decide, by decide⟩)) (g := (mkF m 158 l210 [(.int (p2 &&& (255 : Int32))), (.int 0), (.ref b208)])) rfl rfl (hb hby at_158)
   have k212 : AtQ p e below S0 T212 m 159 l210 [] := fun tt hq => k211 tt (st212 tt hq)
   have z212 : h212.size = h208.size := W212.size
   have C212 := C208.trans (CHr.wr W212 (Safe.arv hZ.alike V208 (by decide)) C208.1)
   rw [own_narc (own_m255 _)] at W212
   have V212 : Arv Z h212 b208 c208 .char (1 : Int32) [(.int (p2 &&& (255 : Int32)))] (.int 0) := Arv.set Ar212 q212 S212 M212 G212 J212 (own_fitc (own_m255 _)) W212 0 rfl (Nat.le_of_ble_eq_true rfl)
   have N212 := Fr.snoc X212 N193 (by omega : n0 ≤ b208)
   have k213 : AtQ p e below S0 T212 m 215 l210 [] := fun tt hq => k212 tt (by
    refine XS.iload X212.here hx rfl (hb hby at_159) rfl ?_
    refine XS.iconst X212.here hx rfl (hb hby at_161) ?_
    refine XS.icmpYes X212.here hx rfl (pc0 := 162) (pc' := 174) rfl (hb hby at_162) rfl (flt (by decide)).2.2.2 (by decide) (by decide) ?_
    refine XS.iload X212.here hx rfl (hb hby at_174) rfl ?_
    refine XS.iconst X212.here hx rfl (hb hby at_176) ?_
    refine XS.icmpYes X212.here hx rfl (pc0 := 177) (pc' := 189) rfl (hb hby at_177) rfl (flt (by decide)).2.2.2 (by decide) (by decide) ?_
    refine XS.iload X212.here hx rfl (hb hby at_189) rfl ?_
    refine XS.ifYes X212.here hx rfl (pc0 := 191) (pc' := 215) rfl (hb hby at_191) rfl ((if0 _ _).trans (teq (by decide)).1) (by decide) (by decide) ?_
    exact hq)
   obtain ⟨T214, h214, X214, e214, E214, A214, D214, -, st214⟩ := newO X212 hx hZ hown (wq hw 7 rfl) (wq hw 8 rfl) (wq hw 9 rfl) e212 (g := (mkF m 215 l210 [])) rfl (hb hby at_215) (by decide) (by decide)
   obtain ⟨b214, g214⟩ : ∃ z, z = h212.size := ⟨_, rfl⟩
   rw [← g214] at A214 D214 st214
   have k214 : AtQ p e below S0 T214 m 218 l210 [(.ref b214)] := fun tt hq => k213 tt (st214 tt hq)
   have z214 : h212.size ≤ h214.size := E214.1
   have y214 : @LT.lt Nat instLTNat b214 h214.size := A214.lt
   have C214 := C212.trans (CHr.ext E214 C212.1)
   have F214_line : FqH Z h214 b214 (.int 0) := D214 (Or.inl (wq hw 82 rfl)) (ty := .int) (by decide)
   have F214_column : FqI Z h214 b214 (.int 0) := D214 (Or.inl (wq hw 84 rfl)) (ty := .int) (by decide)
   have F214_source : FqE Z h214 b214 .null := D214 (Or.inr (wq hw 86 rfl)) (ty := (.object "com/example/ceruline/ceruline/source/SourceFile")) (by decide)
   have F214_text : FqF Z h214 b214 .null := D214 (Or.inr (wq hw 93 rfl)) (ty := (.object "java/lang/String")) (by decide)
   have F214_offset : FqG Z h214 b214 (.int 0) := D214 (Or.inl (wq hw 100 rfl)) (ty := .int) (by decide)
   have k215 : AtQ p e below S0 T214 m 219 l210 [(.ref b214), (.ref b214)] := fun tt hq => k214 tt (by
    refine XS.dup X214.here hx rfl (hb hby at_218) rfl rfl ?_
    exact hq)
   obtain ⟨T216, h216, X216, e216, E216, A216, D216, -, st216⟩ := newO X214 hx hZ hown (wq hw 10 rfl) (wq hw 11 rfl) (wq hw 12 rfl) e214 (g := (mkF m 219 l210 [(.ref b214), (.ref b214)])) rfl (hb hby at_219) (by decide) (by decide)
   obtain ⟨b216, g216⟩ : ∃ z, z = h214.size := ⟨_, rfl⟩
   rw [← g216] at A216 D216 st216
   have k216 : AtQ p e below S0 T216 m 222 l210 [(.ref b216), (.ref b214), (.ref b214)] := fun tt hq => k215 tt (st216 tt hq)
   have z216 : h214.size ≤ h216.size := E216.1
   have y216 : @LT.lt Nat instLTNat b216 h216.size := A216.lt
   have C216 := C214.trans (CHr.ext E216 C214.1)
   have F216_name : FqC Z h216 b216 .null := D216 (Or.inr (wq hw 74 rfl)) (ty := (.object "java/lang/String")) (by decide)
   have F216_text : FqD Z h216 b216 .null := D216 (Or.inr (wq hw 76 rfl)) (ty := (.object "java/lang/String")) (by decide)
   have k217 : AtQ p e below S0 T216 m 223 l210 [(.ref b216), (.ref b216), (.ref b214), (.ref b214)] := fun tt hq => k216 tt (by
    refine XS.dup X216.here hx rfl (hb hby at_222) rfl rfl ?_
    exact hq)
   obtain ⟨a218, T218, h218, kk218, b218, c218, X218, e218, E218, hS218, hk218, hZ218a, hown218a, A218, Fc218, Fv218, V218, ya218, yb218, Cq218, -, hne218, st218⟩ := ldcCH X216 hx hZ hown (wq hw 13 rfl) (own_wS hw) e216 hS0 (by omega) (own_EW hw) (List.mem_of_getElem? (i := 0) rfl) C216.1 (vs := [(.int 102)]) (z := (1 : Int32)) ⟨by decide, by decide⟩ (by decide) (by decide) (g := (mkF m 223 l210 [(.ref b216), (.ref b216), (.ref b214), (.ref b214)])) rfl (hb hby at_223) (n := 4) (by decide) (by decide) (by decide) (by decide)
   have k218 : AtQ p e below S0 T218 m 225 l210 [(.ref a218), (.ref b216), (.ref b216), (.ref b214), (.ref b214)] := fun tt hq => k217 tt (st218 tt hq)
   have hZ218 : Z.Warmed39 T218.vm := hZ218a
   have hown218 : T218.vm.findClass "com/example/ceruline/ceruline/parsing/SourceReaderAtEndPinLaw" = some m.cls := hown218a
   have z218 : h216.size ≤ h218.size := E218.1
   have C218 := C216.trans Cq218
   obtain ⟨T219, h219, X219, e219, E219, A219, D219, -, st219⟩ := newO X218 hx hZ218 hown218 (wq hw 21 rfl) (wq hw 15 rfl) (wq hw 14 rfl) e218 (g := (mkF m 225 l210 [(.ref a218), (.ref b216), (.ref b216), (.ref b214), (.ref b214)])) rfl (hb hby at_225) (by decide) (by decide)
   obtain ⟨b219, g219⟩ : ∃ z, z = h218.size := ⟨_, rfl⟩
   rw [← g219] at A219 D219 st219
   have k219 : AtQ p e below S0 T219 m 228 l210 [(.ref b219), (.ref a218), (.ref b216), (.ref b216), (.ref b214), (.ref b214)] := fun tt hq => k218 tt (st219 tt hq)
   have z219 : h218.size ≤ h219.size := E219.1
   have y219 : @LT.lt Nat instLTNat b219 h219.size := A219.lt
   have C219 := C218.trans (CHr.ext E219 C218.1)
   have Sf219 : Safe Z own_EL T218.vm h219 b219 := Safe.ext E219 C218.1 (Safe.new (by omega))
   have F219_value : FqA Z h219 b219 .null := D219 (Or.inr (wq hw 17 rfl)) (ty := (.array .byte)) (by decide)
   have F219_coder : FqB Z h219 b219 (.int 0) := D219 (Or.inr (wq hw 18 rfl)) (ty := .byte) (by decide)
   have k220 : AtQ p e below S0 T219 m 231 l210 [(.ref b208), (.ref b219), (.ref b219), (.ref a218), (.ref b216), (.ref b216), (.ref b214), (.ref b214)] := fun tt hq => k219 tt (by
    refine XS.dup X219.here hx rfl (hb hby at_228) rfl rfl ?_
    refine XS.aload X219.here hx rfl (hb hby at_229) rfl rfl ?_
    exact hq)
   have f221 : Arv Z h219 b208 c208 .char (1 : Int32) [(.int (p2 &&& (255 : Int32)))] (.int 0) := ((((V212.ext E214).ext E216).ext E218).ext E219)
   have f222 : Old Z n0 h219 := ((((((O0.ext E208).wr W212 (by omega)).ext E214).ext E216).ext E218).ext E219)
   obtain ⟨_, T223, L223, X223, ⟨rfl, Nq223, Kq223, t223, kt223, gt223, P2230, P2231, P2232, P2233⟩, k223a⟩ := callC' X219 hx hZ218 (y := yqD) rfl hown218 (wq hw 22 rfl) (wq hw 23 rfl) (wq hw 24 rfl) (by decide) (backC (W := 6) (rm_n1u0 l Z a0 hw zc b219 b208 (1 : Int32) (1 : Int32) _ .null (.int 0) c208 _ h219 n0 (by omega) S_c hzc f222 A219 F219_value F219_coder (by omega) (by omega) (by decide) (by decide) (rm_c3_1 l Z a0 hw b208 c208 (p2 &&& (255 : Int32)) h219 n0 (by omega) f221 (by omega) (own_m255 _)) f221) hZ218 (wq hw 24 rfl) (wq hw 14 rfl) (by decide) (by decide)) e219 (argsL := [(.ref b208)]) (rest := [(.ref b219), (.ref a218), (.ref b216), (.ref b216), (.ref b214), (.ref b214)]) rfl rfl pd_10 rfl (by rw [hml]; rfl) (hb hby at_231) (Nat.le_of_eq rfl) (by decide) (by decide) k220
   have k223 : AtQ p e below S0 T223 m 234 l210 [(.ref b219), (.ref a218), (.ref b216), (.ref b216), (.ref b214), (.ref b214)] := k223a
   have N223 := N212.app Nq223
   obtain ⟨h223, e223⟩ : ∃ z, T223.heap = z := ⟨_, rfl⟩
   rw [e223] at Kq223 P2230 P2231 P2232 P2233
   have z223 : h219.size ≤ h223.size := Kq223.1
   have C223 := C219.trans (CHr.keep Kq223 (sfS Sf219 sf0) C219.1)
   have y223 : @LT.lt Nat instLTNat t223 h223.size := P2233.lt
   have f224 : Exa Z h223 b216 "com/example/ceruline/ceruline/source/SourceFile" := (((A216.ext E218).ext E219).keep Kq223)
   have f225 : FqC Z h223 b216 .null := (((F216_name.ext E218).ext E219).keep Kq223 (nin1 (by omega)))
   have f226 : FqD Z h223 b216 .null := (((F216_text.ext E218).ext E219).keep Kq223 (nin1 (by omega)))
   obtain ⟨_, T227, L227, X227, ⟨rfl, Nq227, Kq227, P2270, P2271, P2272⟩, k227a⟩ := callC' X223 hx hZ218 (y := yqM) rfl hown218 (wq hw 64 rfl) (wq hw 65 rfl) (wq hw 66 rfl) (by decide) (backC (W := 3) (rm_sfi l Z a0 hw b216 a218 b219 h223 n0 (by omega) f224 f225 f226 (by omega)) hZ218 (wq hw 66 rfl) (wq hw 12 rfl) (by decide) (by decide)) e223 (argsL := [(.ref a218), (.ref b219)]) (rest := [(.ref b216), (.ref b214), (.ref b214)]) rfl rfl pd_11 rfl (by rw [hml]; rfl) (hb hby at_234) (Nat.le_of_eq rfl) (by decide) (by decide) k223
   have k227 : AtQ p e below S0 T227 m 237 l210 [(.ref b216), (.ref b214), (.ref b214)] := k227a
   have N227 := N223.app Nq227
   obtain ⟨h227, e227⟩ : ∃ z, T227.heap = z := ⟨_, rfl⟩
   rw [e227] at Kq227 P2270 P2271 P2272
   have z227 : h223.size ≤ h227.size := Kq227.1
   have C227 := C223.trans (CHr.keep Kq227 (sfS (Safe.exa hZ218.alike f224 (by decide) (by decide)) sf0) C223.1)
   have f228 : Exa Z h227 b214 "com/example/ceruline/ceruline/parsing/SourceReader" := (((((A214.ext E216).ext E218).ext E219).keep Kq223).keep Kq227)
   have f229 : FqE Z h227 b214 .null := (((((F214_source.ext E216).ext E218).ext E219).keep Kq223 (nin1 (by omega))).keep Kq227 (nin1 (by omega)))
   have f230 : FqF Z h227 b214 .null := (((((F214_text.ext E216).ext E218).ext E219).keep Kq223 (nin1 (by omega))).keep Kq227 (nin1 (by omega)))
   have f231 : FqG Z h227 b214 (.int 0) := (((((F214_offset.ext E216).ext E218).ext E219).keep Kq223 (nin1 (by omega))).keep Kq227 (nin1 (by omega)))
   have f232 : FqH Z h227 b214 (.int 0) := (((((F214_line.ext E216).ext E218).ext E219).keep Kq223 (nin1 (by omega))).keep Kq227 (nin1 (by omega)))
   have f233 : FqI Z h227 b214 (.int 0) := (((((F214_column.ext E216).ext E218).ext E219).keep Kq223 (nin1 (by omega))).keep Kq227 (nin1 (by omega)))
   obtain ⟨_, T234, L234, X234, ⟨rfl, Nq234, Kq234, P234_0, P234_1, P234_2, P234_3, P234_4, P234_5⟩, k234a⟩ := callC' X227 hx hZ218 (y := yqO) rfl hown218 (wq hw 77 rfl) (wq hw 78 rfl) (wq hw 79 rfl) (by decide) (backC (W := 1) (rm_sri l Z a0 hw b214 b216 b219 h227 n0 (by omega) f228 f229 f230 f231 f232 f233 P2270 P2272 (by omega) (by omega)) hZ218 (wq hw 79 rfl) (wq hw 9 rfl) (by decide) (by decide)) e227 (argsL := [(.ref b216)]) (rest := [(.ref b214)]) rfl rfl pd_12 rfl (by rw [hml]; rfl) (hb hby at_237) (Nat.le_of_eq rfl) (by decide) (by decide) k227
   have k234 : AtQ p e below S0 T234 m 240 l210 [(.ref b214)] := k234a
   have N234 := N227.app Nq234
   obtain ⟨h234, e234⟩ : ∃ z, T234.heap = z := ⟨_, rfl⟩
   rw [e234] at Kq234 P234_0 P234_1 P234_2 P234_3 P234_4 P234_5
   have z234 : h227.size ≤ h234.size := Kq234.1
   have C234 := C227.trans (CHr.keep Kq234 (sfS (Safe.exa hZ218.alike f228 (by decide) (by decide)) sf0) C227.1)
   let l235 : Array Slot := #[(vi p0), (vi p1), (vi p2), (vi p3), (vi 1), (vi 0), (vi v188), (vi 1), (vi 1), (vi v194), (vi (p2 &&& (255 : Int32))), (vi v201), (vi v205), (vr b208), (vi 0), (vr b214), .unset, .unset]
   have k236 : AtQ p e below S0 T234 m 242 l235 [] := fun tt hq => k234 tt (by
    refine XS.astore X234.here hx rfl (hb hby at_240) rfl rfl (l' := l235) rfl ?_
    exact hq)
   have f237 : Exa Z h234 b219 "java/lang/String" := ((P2230.keep Kq227).keep Kq234)
   have f238 : FqA Z h234 b219 (.ref t223) := ((P2231.keep Kq227 (nin1 (by omega))).keep Kq234 (nin1 (by omega)))
   have f239 : FqB Z h234 b219 (.int 0) := ((P2232.keep Kq227 (nin1 (by omega))).keep Kq234 (nin1 (by omega)))
   have f240 : Arv Z h234 t223 kt223 .byte (1 : Int32) [(.int (nar .byte ((p2 &&& (255 : Int32)).toInt8.toInt32)))] (.int 0) := ((P2233.keep Kq227 (nin1 (by omega))).keep Kq234 (nin1 (by omega)))
   have f241 : Old Z n0 h234 := (((f222.keep Kq223 (allS (by omega) all0)).keep Kq227 (allS (by omega) all0)).keep Kq234 (allS (by omega) all0))
   exact sec_m1 (cd := (0 : Int32)) (o0 := (0 : Int32)) (o1 := (1 : Int32)) hw hx hby hml hret hlk hnm hown218 hZ218 X234 e234 k236 N234 C234 hS218 (by omega) (by omega) (by decide) (by decide) S_c hzc P234_0 P234_1 P234_2 P234_3 P234_4 P234_5 f237 f238 f239 f240 f241 rfl (by decide) (by decide) (by rw [hv194]; exact own_k1 _) (by omega) (by omega) (by omega) (fun H xl xc hn g10 g0 g1 g2 g3 g4 g5 g6 g7 g8 g9 => rm_adv1 l Z a0 hw b214 b216 b219 (0 : Int32) xl xc ((nar .byte ((p2 &&& (255 : Int32)).toInt8.toInt32)) &&& (255 : Int32)) (1 : Int32) H n0 (by omega) g0 g1 g2 g3 g4 g5 g6 (by omega) (rm_cp1_0 l Z a0 hw zc fm b219 t223 kt223 (nar .byte ((p2 &&& (255 : Int32)).toInt8.toInt32)) H n0 (by omega) S_c hzc S_f hfm g10 g6 g7 g8 g9) (own_small _) (by decide))
  ·
   let l242 : Array Slot := #[(vi p0), (vi p1), (vi p2), (vi p3), (vi 1), (vi 1), .unset, .unset, .unset, .unset, .unset, .unset, .unset, .unset, .unset, .unset, .unset, .unset]
   have k243 : AtQ p e below S0 s₁ m 21 l242 [(.int (p3 &&& (2 : Int32)))] := fun tt hq => k180 tt (by
    refine XS.ifNo X0.here hx rfl (hb hby at_8) rfl ((if0 _ _).trans (feq hc8_181).1) ?_
    refine XS.iconst X0.here hx rfl (hb hby at_11) ?_
    refine XS.goto X0.here hx rfl (pc0 := 12) (pc' := 16) rfl (hb hby at_12) (by decide) (by decide) ?_
    refine XS.istore X0.here hx rfl (hb hby at_16) rfl (l' := l242) rfl ?_
    refine XS.iloadN X0.here hx rfl (hb hby at_18) rfl ?_
    refine XS.iconst X0.here hx rfl (hb hby at_19) ?_
    refine XS.iand X0.here hx rfl (hb hby at_20) rfl ?_
    exact hq)
   by_cases hc21_244 : (p3 &&& (2 : Int32)) = (0 : Int32)
   ·
    let l245 : Array Slot := #[(vi p0), (vi p1), (vi p2), (vi p3), (vi 1), (vi 1), (vi 0), .unset, .unset, .unset, .unset, .unset, .unset, .unset, .unset, .unset, .unset, .unset]
    let l246 : Array Slot := #[(vi p0), (vi p1), (vi p2), (vi p3), (vi 1), (vi 1), (vi 0), (vi 3), .unset, .unset, .unset, .unset, .unset, .unset, .unset, .unset, .unset, .unset]
    let l247 : Array Slot := #[(vi p0), (vi p1), (vi p2), (vi p3), (vi 1), (vi 1), (vi 0), (vi 3), (vi 2), .unset, .unset, .unset, .unset, .unset, .unset, .unset, .unset, .unset]
    have k248 : AtQ p e below S0 s₁ m 67 l247 [(.int 2), (.int (p1 &&& (7 : Int32)))] := fun tt hq => k243 tt (by
     refine XS.ifYes X0.here hx rfl (pc0 := 21) (pc' := 28) rfl (hb hby at_21) rfl ((if0 _ _).trans (teq hc21_244).1) (by decide) (by decide) ?_
     refine XS.iconst X0.here hx rfl (hb hby at_28) ?_
     refine XS.istore X0.here hx rfl (hb hby at_29) rfl (l' := l245) rfl ?_
     refine XS.iload X0.here hx rfl (hb hby at_31) rfl ?_
     refine XS.iload X0.here hx rfl (hb hby at_33) rfl ?_
     refine XS.ifNo X0.here hx rfl (hb hby at_35) rfl ((if0 _ _).trans (feq (by decide)).1) ?_
     refine XS.iconst X0.here hx rfl (hb hby at_38) ?_
     refine XS.goto X0.here hx rfl (pc0 := 39) (pc' := 43) rfl (hb hby at_39) (by decide) (by decide) ?_
     refine XS.iadd X0.here hx rfl (hb hby at_43) rfl ?_
     refine XS.istore X0.here hx rfl (hb hby at_44) rfl (l' := l246) rfl ?_
     refine XS.iload X0.here hx rfl (hb hby at_46) rfl ?_
     refine XS.iload X0.here hx rfl (hb hby at_48) rfl ?_
     refine XS.ifNo X0.here hx rfl (hb hby at_50) rfl ((if0 _ _).trans (feq (by decide)).1) ?_
     refine XS.iconst X0.here hx rfl (hb hby at_53) ?_
     refine XS.goto X0.here hx rfl (pc0 := 54) (pc' := 58) rfl (hb hby at_54) (by decide) (by decide) ?_
     refine XS.iadd X0.here hx rfl (hb hby at_58) rfl ?_
     refine XS.istore X0.here hx rfl (hb hby at_59) rfl (l' := l247) rfl ?_
     refine XS.iloadN X0.here hx rfl (hb hby at_61) rfl ?_
     refine XS.bipush X0.here hx rfl (hb hby at_62) ?_
     refine XS.iand X0.here hx rfl (hb hby at_64) rfl ?_
     refine XS.iload X0.here hx rfl (hb hby at_65) rfl ?_
     exact hq)
    obtain ⟨_, T249, L249, X249, ⟨rfl, Nq249, eq249⟩, k249a⟩ := callS' X0 hx hZ (y := yqK) hown (wq hw 0 rfl) (wq hw 1 rfl) (wq hw 2 rfl) (wq hw 3 rfl) (by decide) (backC (W := 0) (rm_min l Z a0 hw (p1 &&& (7 : Int32)) (2 : Int32) (if (2 : Int32) < (p1 &&& (7 : Int32)) then (2 : Int32) else (p1 &&& (7 : Int32))) h0 n0 (by omega) rfl) hZ (wq hw 3 rfl) (wq hw 2 rfl) (by decide) (by decide)) e0 (argsL := [(.int (p1 &&& (7 : Int32))), (.int 2)]) (rest := []) rfl rfl pd_9 rfl (by rw [hml]; rfl) (hb hby at_67) (Nat.le_of_eq rfl) (by decide) (by decide) k248
    have k249 : AtQ p e below S0 T249 m 70 l247 [(.int (if (2 : Int32) < (p1 &&& (7 : Int32)) then (2 : Int32) else (p1 &&& (7 : Int32))))] := k249a
    have N249 := N0.app Nq249
    have e249 : T249.heap = h0 := eq249
    obtain ⟨v250, hv250⟩ : ∃ z : Int32, z = (if (2 : Int32) < (p1 &&& (7 : Int32)) then (2 : Int32) else (p1 &&& (7 : Int32))) := ⟨_, rfl⟩
    have k250 : AtQ p e below S0 T249 m 70 l247 [(.int v250)] := by rw [hv250]; exact k249
    let l251 : Array Slot := #[(vi p0), (vi p1), (vi p2), (vi p3), (vi 1), (vi 1), (vi 0), (vi 3), (vi 2), (vi v250), .unset, .unset, .unset, .unset, .unset, .unset, .unset, .unset]
    have k252 : AtQ p e below S0 T249 m 78 l251 [(.int ((p2 &&& (255 : Int32)).toUInt32.toUInt16.toUInt32.toInt32))] := fun tt hq => k250 tt (by
     refine XS.istore X249.here hx rfl (hb hby at_70) rfl (l' := l251) rfl ?_
     refine XS.iloadN X249.here hx rfl (hb hby at_72) rfl ?_
     refine XS.sipush X249.here hx rfl (hb hby at_73) ?_
     refine XS.iand X249.here hx rfl (hb hby at_76) rfl ?_
     refine XS.i2c X249.here hx rfl (hb hby at_77) rfl ?_
     exact hq)
    have k253 : AtQ p e below S0 T249 m 78 l251 [(.int (p2 &&& (255 : Int32)))] := by have hq := k252; rw [i2c_mask] at hq; exact hq
    let l254 : Array Slot := #[(vi p0), (vi p1), (vi p2), (vi p3), (vi 1), (vi 1), (vi 0), (vi 3), (vi 2), (vi v250), (vi (p2 &&& (255 : Int32))), .unset, .unset, .unset, .unset, .unset, .unset, .unset]
    have k255 : AtQ p e below S0 T249 m 89 l254 [(.int ((((p2.toUInt32 >>> ((8 : Int32) &&& 31).toUInt32).toInt32) &&& (255 : Int32)).toUInt32.toUInt16.toUInt32.toInt32))] := fun tt hq => k253 tt (by
     refine XS.istore X249.here hx rfl (hb hby at_78) rfl (l' := l254) rfl ?_
     refine XS.iloadN X249.here hx rfl (hb hby at_80) rfl ?_
     refine XS.bipush X249.here hx rfl (hb hby at_81) ?_
     refine XS.iushr X249.here hx rfl (hb hby at_83) rfl ?_
     refine XS.sipush X249.here hx rfl (hb hby at_84) ?_
     refine XS.iand X249.here hx rfl (hb hby at_87) rfl ?_
     refine XS.i2c X249.here hx rfl (hb hby at_88) rfl ?_
     exact hq)
    have k256 : AtQ p e below S0 T249 m 89 l254 [(.int (((p2.toUInt32 >>> ((8 : Int32) &&& 31).toUInt32).toInt32) &&& (255 : Int32)))] := by have hq := k255; rw [i2c_mask] at hq; exact hq
    obtain ⟨v257, hv257⟩ : ∃ z : Int32, z = (((p2.toUInt32 >>> ((8 : Int32) &&& 31).toUInt32).toInt32) &&& (255 : Int32)) := ⟨_, rfl⟩
    have k257 : AtQ p e below S0 T249 m 89 l254 [(.int v257)] := by rw [hv257]; exact k256
    have mv257 : ¬ v257 < (0 : Int32) ∧ ¬ (255 : Int32) < v257 := by rw [hv257]; exact own_m255 _
    let l258 : Array Slot := #[(vi p0), (vi p1), (vi p2), (vi p3), (vi 1), (vi 1), (vi 0), (vi 3), (vi 2), (vi v250), (vi (p2 &&& (255 : Int32))), (vi v257), .unset, .unset, .unset, .unset, .unset, .unset]
    have k259 : AtQ p e below S0 T249 m 100 l258 [(.int ((((p2.toUInt32 >>> ((16 : Int32) &&& 31).toUInt32).toInt32) &&& (255 : Int32)).toUInt32.toUInt16.toUInt32.toInt32))] := fun tt hq => k257 tt (by
     refine XS.istore X249.here hx rfl (hb hby at_89) rfl (l' := l258) rfl ?_
     refine XS.iloadN X249.here hx rfl (hb hby at_91) rfl ?_
     refine XS.bipush X249.here hx rfl (hb hby at_92) ?_
     refine XS.iushr X249.here hx rfl (hb hby at_94) rfl ?_
     refine XS.sipush X249.here hx rfl (hb hby at_95) ?_
     refine XS.iand X249.here hx rfl (hb hby at_98) rfl ?_
     refine XS.i2c X249.here hx rfl (hb hby at_99) rfl ?_
     exact hq)
    have k260 : AtQ p e below S0 T249 m 100 l258 [(.int (((p2.toUInt32 >>> ((16 : Int32) &&& 31).toUInt32).toInt32) &&& (255 : Int32)))] := by have hq := k259; rw [i2c_mask] at hq; exact hq
    obtain ⟨v261, hv261⟩ : ∃ z : Int32, z = (((p2.toUInt32 >>> ((16 : Int32) &&& 31).toUInt32).toInt32) &&& (255 : Int32)) := ⟨_, rfl⟩
    have k261 : AtQ p e below S0 T249 m 100 l258 [(.int v261)] := by rw [hv261]; exact k260
    have mv261 : ¬ v261 < (0 : Int32) ∧ ¬ (255 : Int32) < v261 := by rw [hv261]; exact own_m255 _
    let l262 : Array Slot := #[(vi p0), (vi p1), (vi p2), (vi p3), (vi 1), (vi 1), (vi 0), (vi 3), (vi 2), (vi v250), (vi (p2 &&& (255 : Int32))), (vi v257), (vi v261), .unset, .unset, .unset, .unset, .unset]
    have k263 : AtQ p e below S0 T249 m 104 l262 [(.int 3)] := fun tt hq => k261 tt (by
     refine XS.istore X249.here hx rfl (hb hby at_100) rfl (l' := l262) rfl ?_
     refine XS.iload X249.here hx rfl (hb hby at_102) rfl ?_
     exact hq)
    obtain ⟨T264, h264, c264, X264, e264, E264, A264, st264⟩ := newP X249 hx hZ (wq hw 4 rfl) e249 (g := (mkF m 104 l262 [(.int 3)])) rfl (hb hby at_104) rfl (by decide) (cap := 3) (by decide) (by decide) (by decide) (by decide)
    obtain ⟨b264, g264⟩ : ∃ z, z = h0.size := ⟨_, rfl⟩
    rw [← g264] at A264 st264
    have k264 : AtQ p e below S0 T264 m 106 l262 [(.ref b264)] := fun tt hq => k263 tt (st264 tt hq)
    have z264 : h0.size ≤ h264.size := E264.1
    have C264 := C0.trans (CHr.ext E264 C0.1)
    have V264 : Arv Z h264 b264 c264 .char (3 : Int32) [(.int 0), (.int 0), (.int 0)] (.int 0) := (Arv.new A264 (by decide)).pad (pad_rep [] (.int 0) 3)
    have y264 : @LT.lt Nat instLTNat b264 h264.size := V264.lt
    let l265 : Array Slot := #[(vi p0), (vi p1), (vi p2), (vi p3), (vi 1), (vi 1), (vi 0), (vi 3), (vi 2), (vi v250), (vi (p2 &&& (255 : Int32))), (vi v257), (vi v261), (vr b264), .unset, .unset, .unset, .unset]
    let l266 : Array Slot := #[(vi p0), (vi p1), (vi p2), (vi p3), (vi 1), (vi 1), (vi 0), (vi 3), (vi 2), (vi v250), (vi (p2 &&& (255 : Int32))), (vi v257), (vi v261), (vr b264), (vi 0), .unset, .unset, .unset]
    have k267 : AtQ p e below S0 T264 m 158 l266 [(.int (p2 &&& (255 : Int32))), (.int 0), (.ref b264)] := fun tt hq => k264 tt (by
     refine XS.astore X264.here hx rfl (hb hby at_106) rfl rfl (l' := l265) rfl ?_
     refine XS.iload X264.here hx rfl (hb hby at_108) rfl ?_
     refine XS.ifNo X264.here hx rfl (hb hby at_110) rfl ((if0 _ _).trans (feq (by decide)).1) ?_
     refine XS.iload X264.here hx rfl (hb hby at_113) rfl ?_
     refine XS.ifYes X264.here hx rfl (pc0 := 115) (pc' := 122) rfl (hb hby at_115) rfl ((if0 _ _).trans (teq (by decide)).1) (by decide) (by decide) ?_
     refine XS.iconst X264.here hx rfl (hb hby at_122) ?_
     refine XS.istore X264.here hx rfl (hb hby at_123) rfl (l' := l266) rfl ?_
     refine XS.iload X264.here hx rfl (hb hby at_125) rfl ?_
     refine XS.ifNo X264.here hx rfl (hb hby at_127) rfl ((if0 _ _).trans (feq (by decide)).1) ?_
     refine XS.iload X264.here hx rfl (hb hby at_130) rfl ?_
     refine XS.ifYes X264.here hx rfl (pc0 := 132) (pc' := 147) rfl (hb hby at_132) rfl ((if0 _ _).trans (teq (by decide)).1) (by decide) (by decide) ?_
     refine XS.iload X264.here hx rfl (hb hby at_147) rfl ?_
     refine XS.ifNo X264.here hx rfl (hb hby at_149) rfl ((if0 _ _).trans (tlt (by decide)).2.2.2) ?_
     refine XS.aload X264.here hx rfl (hb hby at_152) rfl rfl ?_
     refine XS.iload X264.here hx rfl (hb hby at_154) rfl ?_
     refine XS.iload X264.here hx rfl (hb hby at_156) rfl ?_
     exact hq)
    obtain ⟨cl268, Ar268, q268, S268, M268, G268, J268⟩ := id V264
    obtain ⟨T268, h268, X268, e268, W268, st268⟩ := stC X264 hx hZ e264 Ar268 (j := (0 : Int32)) (inb_of S268 (⟨by decide, by decide⟩)) (g := (mkF m 158 l266 [(.int (p2 &&& (255 : Int32))), (.int 0), (.ref b264)])) rfl rfl (hb hby at_158)
    have k268 : AtQ p e below S0 T268 m 159 l266 [] := fun tt hq => k267 tt (st268 tt hq)
    have z268 : h268.size = h264.size := W268.size
    have C268 := C264.trans (CHr.wr W268 (Safe.arv hZ.alike V264 (by decide)) C264.1)
    rw [own_narc (own_m255 _)] at W268
    have V268 : Arv Z h268 b264 c264 .char (3 : Int32) [(.int (p2 &&& (255 : Int32))), (.int 0), (.int 0)] (.int 0) := Arv.set Ar268 q268 S268 M268 G268 J268 (own_fitc (own_m255 _)) W268 0 rfl (Nat.le_of_ble_eq_true rfl)
    have N268 := Fr.snoc X268 N249 (by omega : n0 ≤ b264)
    have k269 : AtQ p e below S0 T268 m 205 l266 [(.int 55357), (.int 1), (.ref b264)] := fun tt hq => k268 tt (by
     refine XS.iload X268.here hx rfl (hb hby at_159) rfl ?_
     refine XS.iconst X268.here hx rfl (hb hby at_161) ?_
     refine XS.icmpYes X268.here hx rfl (pc0 := 162) (pc' := 174) rfl (hb hby at_162) rfl (flt (by decide)).2.2.2 (by decide) (by decide) ?_
     refine XS.iload X268.here hx rfl (hb hby at_174) rfl ?_
     refine XS.iconst X268.here hx rfl (hb hby at_176) ?_
     refine XS.icmpYes X268.here hx rfl (pc0 := 177) (pc' := 189) rfl (hb hby at_177) rfl (flt (by decide)).2.2.2 (by decide) (by decide) ?_
     refine XS.iload X268.here hx rfl (hb hby at_189) rfl ?_
     refine XS.ifNo X268.here hx rfl (hb hby at_191) rfl ((if0 _ _).trans (feq (by decide)).1) ?_
     refine XS.iload X268.here hx rfl (hb hby at_194) rfl ?_
     refine XS.ifNo X268.here hx rfl (hb hby at_196) rfl ((if0 _ _).trans (teq (by decide)).2) ?_
     refine XS.aload X268.here hx rfl (hb hby at_199) rfl rfl ?_
     refine XS.iload X268.here hx rfl (hb hby at_201) rfl ?_
     refine X268.ldcInt hx hown (mvT hZ (wq hw 5 rfl)) (g := (mkF m 203 l266 [(.int 1), (.ref b264)])) rfl (hb hby at_203) _ ?_
     exact hq)
    obtain ⟨cl270, Ar270, q270, S270, M270, G270, J270⟩ := id V268
    obtain ⟨T270, h270, X270, e270, W270, st270⟩ := stC X268 hx hZ e268 Ar270 (j := (1 : Int32)) (inb_of S270 (⟨by decide, by decide⟩)) (g := (mkF m 205 l266 [(.int 55357), (.int 1), (.ref b264)])) rfl rfl (hb hby at_205)
    have k270 : AtQ p e below S0 T270 m 206 l266 [] := fun tt hq => k269 tt (st270 tt hq)
    have z270 : h270.size = h268.size := W270.size
    have C270 := C268.trans (CHr.wr W270 (Safe.arv hZ.alike V268 (by decide)) C268.1)
    have V270 : Arv Z h270 b264 c264 .char (3 : Int32) [(.int (p2 &&& (255 : Int32))), (.int 55357), (.int 0)] (.int 0) := Arv.set Ar270 q270 S270 M270 G270 J270 (fits_nar_char _) W270 1 rfl (Nat.le_of_ble_eq_true rfl)
    have N270 := Fr.snoc X270 N268 (by omega : n0 ≤ b264)
    have k271 : AtQ p e below S0 T270 m 214 l266 [(.int 56832), (.int 2), (.ref b264)] := fun tt hq => k270 tt (by
     refine XS.aload X270.here hx rfl (hb hby at_206) rfl rfl ?_
     refine XS.iload X270.here hx rfl (hb hby at_208) rfl ?_
     refine XS.iconst X270.here hx rfl (hb hby at_210) ?_
     refine XS.iadd X270.here hx rfl (hb hby at_211) rfl ?_
     refine X270.ldcInt hx hown (mvT hZ (wq hw 6 rfl)) (g := (mkF m 212 l266 [(.int 2), (.ref b264)])) rfl (hb hby at_212) _ ?_
     exact hq)
    obtain ⟨cl272, Ar272, q272, S272, M272, G272, J272⟩ := id V270
    obtain ⟨T272, h272, X272, e272, W272, st272⟩ := stC X270 hx hZ e270 Ar272 (j := (2 : Int32)) (inb_of S272 (⟨by decide, by decide⟩)) (g := (mkF m 214 l266 [(.int 56832), (.int 2), (.ref b264)])) rfl rfl (hb hby at_214)
    have k272 : AtQ p e below S0 T272 m 215 l266 [] := fun tt hq => k271 tt (st272 tt hq)
    have z272 : h272.size = h270.size := W272.size
    have C272 := C270.trans (CHr.wr W272 (Safe.arv hZ.alike V270 (by decide)) C270.1)
    have V272 : Arv Z h272 b264 c264 .char (3 : Int32) [(.int (p2 &&& (255 : Int32))), (.int 55357), (.int 56832)] (.int 0) := Arv.set Ar272 q272 S272 M272 G272 J272 (fits_nar_char _) W272 2 rfl (Nat.le_of_ble_eq_true rfl)
    have N272 := Fr.snoc X272 N270 (by omega : n0 ≤ b264)
    obtain ⟨T273, h273, X273, e273, E273, A273, D273, -, st273⟩ := newO X272 hx hZ hown (wq hw 7 rfl) (wq hw 8 rfl) (wq hw 9 rfl) e272 (g := (mkF m 215 l266 [])) rfl (hb hby at_215) (by decide) (by decide)
    obtain ⟨b273, g273⟩ : ∃ z, z = h272.size := ⟨_, rfl⟩
    rw [← g273] at A273 D273 st273
    have k273 : AtQ p e below S0 T273 m 218 l266 [(.ref b273)] := fun tt hq => k272 tt (st273 tt hq)
    have z273 : h272.size ≤ h273.size := E273.1
    have y273 : @LT.lt Nat instLTNat b273 h273.size := A273.lt
    have C273 := C272.trans (CHr.ext E273 C272.1)
    have F273_line : FqH Z h273 b273 (.int 0) := D273 (Or.inl (wq hw 82 rfl)) (ty := .int) (by decide)
    have F273_column : FqI Z h273 b273 (.int 0) := D273 (Or.inl (wq hw 84 rfl)) (ty := .int) (by decide)
    have F273_source : FqE Z h273 b273 .null := D273 (Or.inr (wq hw 86 rfl)) (ty := (.object "com/example/ceruline/ceruline/source/SourceFile")) (by decide)
    have F273_text : FqF Z h273 b273 .null := D273 (Or.inr (wq hw 93 rfl)) (ty := (.object "java/lang/String")) (by decide)
    have F273_offset : FqG Z h273 b273 (.int 0) := D273 (Or.inl (wq hw 100 rfl)) (ty := .int) (by decide)
    have k274 : AtQ p e below S0 T273 m 219 l266 [(.ref b273), (.ref b273)] := fun tt hq => k273 tt (by
     refine XS.dup X273.here hx rfl (hb hby at_218) rfl rfl ?_
     exact hq)
    obtain ⟨T275, h275, X275, e275, E275, A275, D275, -, st275⟩ := newO X273 hx hZ hown (wq hw 10 rfl) (wq hw 11 rfl) (wq hw 12 rfl) e273 (g := (mkF m 219 l266 [(.ref b273), (.ref b273)])) rfl (hb hby at_219) (by decide) (by decide)
    obtain ⟨b275, g275⟩ : ∃ z, z = h273.size := ⟨_, rfl⟩
    rw [← g275] at A275 D275 st275
    have k275 : AtQ p e below S0 T275 m 222 l266 [(.ref b275), (.ref b273), (.ref b273)] := fun tt hq => k274 tt (st275 tt hq)
    have z275 : h273.size ≤ h275.size := E275.1
    have y275 : @LT.lt Nat instLTNat b275 h275.size := A275.lt
    have C275 := C273.trans (CHr.ext E275 C273.1)
    have F275_name : FqC Z h275 b275 .null := D275 (Or.inr (wq hw 74 rfl)) (ty := (.object "java/lang/String")) (by decide)
    have F275_text : FqD Z h275 b275 .null := D275 (Or.inr (wq hw 76 rfl)) (ty := (.object "java/lang/String")) (by decide)
    have k276 : AtQ p e below S0 T275 m 223 l266 [(.ref b275), (.ref b275), (.ref b273), (.ref b273)] := fun tt hq => k275 tt (by
     refine XS.dup X275.here hx rfl (hb hby at_222) rfl rfl ?_
     exact hq)
    obtain ⟨a277, T277, h277, kk277, b277, c277, X277, e277, E277, hS277, hk277, hZ277a, hown277a, A277, Fc277, Fv277, V277, ya277, yb277, Cq277, -, hne277, st277⟩ := ldcCH X275 hx hZ hown (wq hw 13 rfl) (own_wS hw) e275 hS0 (by omega) (own_EW hw) (List.mem_of_getElem? (i := 0) rfl) C275.1 (vs := [(.int 102)]) (z := (1 : Int32)) ⟨by decide, by decide⟩ (by decide) (by decide) (g := (mkF m 223 l266 [(.ref b275), (.ref b275), (.ref b273), (.ref b273)])) rfl (hb hby at_223) (n := 4) (by decide) (by decide) (by decide) (by decide)
    have k277 : AtQ p e below S0 T277 m 225 l266 [(.ref a277), (.ref b275), (.ref b275), (.ref b273), (.ref b273)] := fun tt hq => k276 tt (st277 tt hq)
    have hZ277 : Z.Warmed39 T277.vm := hZ277a
    have hown277 : T277.vm.findClass "com/example/ceruline/ceruline/parsing/SourceReaderAtEndPinLaw" = some m.cls := hown277a
    have z277 : h275.size ≤ h277.size := E277.1
    have C277 := C275.trans Cq277
    obtain ⟨T278, h278, X278, e278, E278, A278, D278, -, st278⟩ := newO X277 hx hZ277 hown277 (wq hw 21 rfl) (wq hw 15 rfl) (wq hw 14 rfl) e277 (g := (mkF m 225 l266 [(.ref a277), (.ref b275), (.ref b275), (.ref b273), (.ref b273)])) rfl (hb hby at_225) (by decide) (by decide)
    obtain ⟨b278, g278⟩ : ∃ z, z = h277.size := ⟨_, rfl⟩
    rw [← g278] at A278 D278 st278
    have k278 : AtQ p e below S0 T278 m 228 l266 [(.ref b278), (.ref a277), (.ref b275), (.ref b275), (.ref b273), (.ref b273)] := fun tt hq => k277 tt (st278 tt hq)
    have z278 : h277.size ≤ h278.size := E278.1
    have y278 : @LT.lt Nat instLTNat b278 h278.size := A278.lt
    have C278 := C277.trans (CHr.ext E278 C277.1)
    have Sf278 : Safe Z own_EL T277.vm h278 b278 := Safe.ext E278 C277.1 (Safe.new (by omega))
    have F278_value : FqA Z h278 b278 .null := D278 (Or.inr (wq hw 17 rfl)) (ty := (.array .byte)) (by decide)
    have F278_coder : FqB Z h278 b278 (.int 0) := D278 (Or.inr (wq hw 18 rfl)) (ty := .byte) (by decide)
    have k279 : AtQ p e below S0 T278 m 231 l266 [(.ref b264), (.ref b278), (.ref b278), (.ref a277), (.ref b275), (.ref b275), (.ref b273), (.ref b273)] := fun tt hq => k278 tt (by
     refine XS.dup X278.here hx rfl (hb hby at_228) rfl rfl ?_
     refine XS.aload X278.here hx rfl (hb hby at_229) rfl rfl ?_
     exact hq)
    have f280 : Old Z n0 h278 := ((((((((O0.ext E264).wr W268 (by omega)).wr W270 (by omega)).wr W272 (by omega)).ext E273).ext E275).ext E277).ext E278)
    have f281 : Arv Z h278 b264 c264 .char (3 : Int32) [(.int (p2 &&& (255 : Int32))), (.int 55357), (.int 56832)] (.int 0) := ((((V272.ext E273).ext E275).ext E277).ext E278)
    obtain ⟨_, T282, L282, X282, ⟨rfl, Nq282, Kq282, t282, kt282, gt282, P2820, P2821, P2822, P2823⟩, k282a⟩ := callC' X278 hx hZ277 (y := yqD) rfl hown277 (wq hw 22 rfl) (wq hw 23 rfl) (wq hw 24 rfl) (by decide) (backC (W := 6) (rm_n1u1 l Z a0 hw zc b278 b264 (3 : Int32) (6 : Int32) _ .null (.int 0) c264 _ h278 n0 (by omega) S_c hzc f280 A278 F278_value F278_coder (by omega) (by omega) (by decide) (by decide) (rm_c3_3_1 l Z a0 hw b264 c264 (p2 &&& (255 : Int32)) (55357 : Int32) (56832 : Int32) h278 n0 (by omega) S_ad S_hi S_lo f280 f281 (by omega) (own_m255 _).2 (by decide) (by decide) (by decide)) f281) hZ277 (wq hw 24 rfl) (wq hw 14 rfl) (by decide) (by decide)) e278 (argsL := [(.ref b264)]) (rest := [(.ref b278), (.ref a277), (.ref b275), (.ref b275), (.ref b273), (.ref b273)]) rfl rfl pd_10 rfl (by rw [hml]; rfl) (hb hby at_231) (Nat.le_of_eq rfl) (by decide) (by decide) k279
    have k282 : AtQ p e below S0 T282 m 234 l266 [(.ref b278), (.ref a277), (.ref b275), (.ref b275), (.ref b273), (.ref b273)] := k282a
    have N282 := N272.app Nq282
    obtain ⟨h282, e282⟩ : ∃ z, T282.heap = z := ⟨_, rfl⟩
    rw [e282] at Kq282 P2820 P2821 P2822 P2823
    have z282 : h278.size ≤ h282.size := Kq282.1
    have C282 := C278.trans (CHr.keep Kq282 (sfS Sf278 sf0) C278.1)
    have y282 : @LT.lt Nat instLTNat t282 h282.size := P2823.lt
    have f283 : Exa Z h282 b275 "com/example/ceruline/ceruline/source/SourceFile" := (((A275.ext E277).ext E278).keep Kq282)
    have f284 : FqC Z h282 b275 .null := (((F275_name.ext E277).ext E278).keep Kq282 (nin1 (by omega)))
    have f285 : FqD Z h282 b275 .null := (((F275_text.ext E277).ext E278).keep Kq282 (nin1 (by omega)))
    obtain ⟨_, T286, L286, X286, ⟨rfl, Nq286, Kq286, P2860, P2861, P2862⟩, k286a⟩ := callC' X282 hx hZ277 (y := yqM) rfl hown277 (wq hw 64 rfl) (wq hw 65 rfl) (wq hw 66 rfl) (by decide) (backC (W := 3) (rm_sfi l Z a0 hw b275 a277 b278 h282 n0 (by omega) f283 f284 f285 (by omega)) hZ277 (wq hw 66 rfl) (wq hw 12 rfl) (by decide) (by decide)) e282 (argsL := [(.ref a277), (.ref b278)]) (rest := [(.ref b275), (.ref b273), (.ref b273)]) rfl rfl pd_11 rfl (by rw [hml]; rfl) (hb hby at_234) (Nat.le_of_eq rfl) (by decide) (by decide) k282
    have k286 : AtQ p e below S0 T286 m 237 l266 [(.ref b275), (.ref b273), (.ref b273)] := k286a
    have N286 := N282.app Nq286
    obtain ⟨h286, e286⟩ : ∃ z, T286.heap = z := ⟨_, rfl⟩
    rw [e286] at Kq286 P2860 P2861 P2862
    have z286 : h282.size ≤ h286.size := Kq286.1
    have C286 := C282.trans (CHr.keep Kq286 (sfS (Safe.exa hZ277.alike f283 (by decide) (by decide)) sf0) C282.1)
    have f287 : Exa Z h286 b273 "com/example/ceruline/ceruline/parsing/SourceReader" := (((((A273.ext E275).ext E277).ext E278).keep Kq282).keep Kq286)
    have f288 : FqE Z h286 b273 .null := (((((F273_source.ext E275).ext E277).ext E278).keep Kq282 (nin1 (by omega))).keep Kq286 (nin1 (by omega)))
    have f289 : FqF Z h286 b273 .null := (((((F273_text.ext E275).ext E277).ext E278).keep Kq282 (nin1 (by omega))).keep Kq286 (nin1 (by omega)))
    have f290 : FqG Z h286 b273 (.int 0) := (((((F273_offset.ext E275).ext E277).ext E278).keep Kq282 (nin1 (by omega))).keep Kq286 (nin1 (by omega)))
    have f291 : FqH Z h286 b273 (.int 0) := (((((F273_line.ext E275).ext E277).ext E278).keep Kq282 (nin1 (by omega))).keep Kq286 (nin1 (by omega)))
    have f292 : FqI Z h286 b273 (.int 0) := (((((F273_column.ext E275).ext E277).ext E278).keep Kq282 (nin1 (by omega))).keep Kq286 (nin1 (by omega)))
    obtain ⟨_, T293, L293, X293, ⟨rfl, Nq293, Kq293, P293_0, P293_1, P293_2, P293_3, P293_4, P293_5⟩, k293a⟩ := callC' X286 hx hZ277 (y := yqO) rfl hown277 (wq hw 77 rfl) (wq hw 78 rfl) (wq hw 79 rfl) (by decide) (backC (W := 1) (rm_sri l Z a0 hw b273 b275 b278 h286 n0 (by omega) f287 f288 f289 f290 f291 f292 P2860 P2862 (by omega) (by omega)) hZ277 (wq hw 79 rfl) (wq hw 9 rfl) (by decide) (by decide)) e286 (argsL := [(.ref b275)]) (rest := [(.ref b273)]) rfl rfl pd_12 rfl (by rw [hml]; rfl) (hb hby at_237) (Nat.le_of_eq rfl) (by decide) (by decide) k286
    have k293 : AtQ p e below S0 T293 m 240 l266 [(.ref b273)] := k293a
    have N293 := N286.app Nq293
    obtain ⟨h293, e293⟩ : ∃ z, T293.heap = z := ⟨_, rfl⟩
    rw [e293] at Kq293 P293_0 P293_1 P293_2 P293_3 P293_4 P293_5
    have z293 : h286.size ≤ h293.size := Kq293.1
    have C293 := C286.trans (CHr.keep Kq293 (sfS (Safe.exa hZ277.alike f287 (by decide) (by decide)) sf0) C286.1)
    let l294 : Array Slot := #[(vi p0), (vi p1), (vi p2), (vi p3), (vi 1), (vi 1), (vi 0), (vi 3), (vi 2), (vi v250), (vi (p2 &&& (255 : Int32))), (vi v257), (vi v261), (vr b264), (vi 0), (vr b273), .unset, .unset]
    have k295 : AtQ p e below S0 T293 m 242 l294 [] := fun tt hq => k293 tt (by
     refine XS.astore X293.here hx rfl (hb hby at_240) rfl rfl (l' := l294) rfl ?_
     exact hq)
    have f296 : Exa Z h293 b278 "java/lang/String" := ((P2820.keep Kq286).keep Kq293)
    have f297 : FqA Z h293 b278 (.ref t282) := ((P2821.keep Kq286 (nin1 (by omega))).keep Kq293 (nin1 (by omega)))
    have f298 : FqB Z h293 b278 (.int 1) := ((P2822.keep Kq286 (nin1 (by omega))).keep Kq293 (nin1 (by omega)))
    have f299 : Arv Z h293 t282 kt282 .byte (6 : Int32) [(.int (ulo (p2 &&& (255 : Int32)))), (.int (uhi (p2 &&& (255 : Int32)))), (.int (ulo (55357 : Int32))), (.int (uhi (55357 : Int32))), (.int (ulo (56832 : Int32))), (.int (uhi (56832 : Int32)))] (.int 0) := ((P2823.keep Kq286 (nin1 (by omega))).keep Kq293 (nin1 (by omega)))
    have f300 : Old Z n0 h293 := (((f280.keep Kq282 (allS (by omega) all0)).keep Kq286 (allS (by omega) all0)).keep Kq293 (allS (by omega) all0))
    exact sec_m2 (cd := (1 : Int32)) (o0 := (0 : Int32)) (o1 := (1 : Int32)) (o2 := (3 : Int32)) hw hx hby hml hret hlk hnm hown277 hZ277 X293 e293 k295 N293 C293 hS277 (by omega) (by omega) (by decide) (by decide) S_c hzc P293_0 P293_1 P293_2 P293_3 P293_4 P293_5 f296 f297 f298 f299 f300 rfl (by decide) (by decide) (by decide) (by rw [hv250]; exact own_k2 _) (by omega) (by omega) (by omega) (fun H xl xc hn g10 g0 g1 g2 g3 g4 g5 g6 g7 g8 g9 => rm_adv1 l Z a0 hw b273 b275 b278 (0 : Int32) xl xc (p2 &&& (255 : Int32)) (1 : Int32) H n0 (by omega) g0 g1 g2 g3 g4 g5 g6 (by omega) (rm_cpu l Z a0 hw zc fm b278 t282 kt282 (6 : Int32) _ (0 : Int32) (3 : Int32) (p2 &&& (255 : Int32)) H n0 (by omega) S_c hzc S_f hfm g10 g6 g7 g8 g9 (by decide) (by decide) (by decide) (rm_cp3u l Z a0 hw t282 (0 : Int32) (3 : Int32) (p2 &&& (255 : Int32)) H n0 (by omega) (rm_cp4s l Z a0 hw t282 (0 : Int32) (3 : Int32) (p2 &&& (255 : Int32)) H n0 (by omega) S_ad g10 (rm_get l Z a0 hw t282 kt282 (6 : Int32) _ (0 : Int32) (0 : Int32) (ulo (p2 &&& (255 : Int32))) (uhi (p2 &&& (255 : Int32))) (p2 &&& (255 : Int32)) H n0 (by omega) S_ad S_hi S_lo g10 g9 (by decide) (by decide) (by decide) rfl rfl (own_gc (own_m255 _).1 (own_lt16 (own_m255 _))) (own_m255 _).1 (own_lt16 (own_m255 _))) (own_lt55 (own_m255 _))))) (own_lt16 (own_m255 _)) (by decide)) (fun H xl xc hn g10 g0 g1 g2 g3 g4 g5 g6 g7 g8 g9 => rm_adv2 l Z a0 hw b273 b275 b278 (1 : Int32) xl xc (128512 : Int32) (3 : Int32) H n0 (by omega) g0 g1 g2 g3 g4 g5 g6 (by omega) (rm_cpu l Z a0 hw zc fm b278 t282 kt282 (6 : Int32) _ (1 : Int32) (3 : Int32) (128512 : Int32) H n0 (by omega) S_c hzc S_f hfm g10 g6 g7 g8 g9 (by decide) (by decide) (by decide) (rm_cp3u l Z a0 hw t282 (1 : Int32) (3 : Int32) (128512 : Int32) H n0 (by omega) (rm_cp4p l Z a0 hw t282 (1 : Int32) (3 : Int32) H n0 (by omega) S_ad g10 (rm_get l Z a0 hw t282 kt282 (6 : Int32) _ (1 : Int32) (2 : Int32) (ulo (55357 : Int32)) (uhi (55357 : Int32)) (55357 : Int32) H n0 (by omega) S_ad S_hi S_lo g10 g9 (by decide) (by decide) (by decide) rfl rfl (own_gc (by decide) (by decide)) (by decide) (by decide)) (rm_get l Z a0 hw t282 kt282 (6 : Int32) _ (2 : Int32) (4 : Int32) (ulo (56832 : Int32)) (uhi (56832 : Int32)) (56832 : Int32) H n0 (by omega) S_ad S_hi S_lo g10 g9 (by decide) (by decide) (by decide) rfl rfl (own_gc (by decide) (by decide)) (by decide) (by decide)) (by decide)))) (by decide) (by decide))
   ·
    let l301 : Array Slot := #[(vi p0), (vi p1), (vi p2), (vi p3), (vi 1), (vi 1), (vi 1), .unset, .unset, .unset, .unset, .unset, .unset, .unset, .unset, .unset, .unset, .unset]
    let l302 : Array Slot := #[(vi p0), (vi p1), (vi p2), (vi p3), (vi 1), (vi 1), (vi 1), (vi 3), .unset, .unset, .unset, .unset, .unset, .unset, .unset, .unset, .unset, .unset]
    let l303 : Array Slot := #[(vi p0), (vi p1), (vi p2), (vi p3), (vi 1), (vi 1), (vi 1), (vi 3), (vi 2), .unset, .unset, .unset, .unset, .unset, .unset, .unset, .unset, .unset]
    have k304 : AtQ p e below S0 s₁ m 67 l303 [(.int 2), (.int (p1 &&& (7 : Int32)))] := fun tt hq => k243 tt (by
     refine XS.ifNo X0.here hx rfl (hb hby at_21) rfl ((if0 _ _).trans (feq hc21_244).1) ?_
     refine XS.iconst X0.here hx rfl (hb hby at_24) ?_
     refine XS.goto X0.here hx rfl (pc0 := 25) (pc' := 29) rfl (hb hby at_25) (by decide) (by decide) ?_
     refine XS.istore X0.here hx rfl (hb hby at_29) rfl (l' := l301) rfl ?_
     refine XS.iload X0.here hx rfl (hb hby at_31) rfl ?_
     refine XS.iload X0.here hx rfl (hb hby at_33) rfl ?_
     refine XS.ifNo X0.here hx rfl (hb hby at_35) rfl ((if0 _ _).trans (feq (by decide)).1) ?_
     refine XS.iconst X0.here hx rfl (hb hby at_38) ?_
     refine XS.goto X0.here hx rfl (pc0 := 39) (pc' := 43) rfl (hb hby at_39) (by decide) (by decide) ?_
     refine XS.iadd X0.here hx rfl (hb hby at_43) rfl ?_
     refine XS.istore X0.here hx rfl (hb hby at_44) rfl (l' := l302) rfl ?_
     refine XS.iload X0.here hx rfl (hb hby at_46) rfl ?_
     refine XS.iload X0.here hx rfl (hb hby at_48) rfl ?_
     refine XS.ifNo X0.here hx rfl (hb hby at_50) rfl ((if0 _ _).trans (feq (by decide)).1) ?_
     refine XS.iconst X0.here hx rfl (hb hby at_53) ?_
     refine XS.goto X0.here hx rfl (pc0 := 54) (pc' := 58) rfl (hb hby at_54) (by decide) (by decide) ?_
     refine XS.iadd X0.here hx rfl (hb hby at_58) rfl ?_
     refine XS.istore X0.here hx rfl (hb hby at_59) rfl (l' := l303) rfl ?_
     refine XS.iloadN X0.here hx rfl (hb hby at_61) rfl ?_
     refine XS.bipush X0.here hx rfl (hb hby at_62) ?_
     refine XS.iand X0.here hx rfl (hb hby at_64) rfl ?_
     refine XS.iload X0.here hx rfl (hb hby at_65) rfl ?_
     exact hq)
    obtain ⟨_, T305, L305, X305, ⟨rfl, Nq305, eq305⟩, k305a⟩ := callS' X0 hx hZ (y := yqK) hown (wq hw 0 rfl) (wq hw 1 rfl) (wq hw 2 rfl) (wq hw 3 rfl) (by decide) (backC (W := 0) (rm_min l Z a0 hw (p1 &&& (7 : Int32)) (2 : Int32) (if (2 : Int32) < (p1 &&& (7 : Int32)) then (2 : Int32) else (p1 &&& (7 : Int32))) h0 n0 (by omega) rfl) hZ (wq hw 3 rfl) (wq hw 2 rfl) (by decide) (by decide)) e0 (argsL := [(.int (p1 &&& (7 : Int32))), (.int 2)]) (rest := []) rfl rfl pd_9 rfl (by rw [hml]; rfl) (hb hby at_67) (Nat.le_of_eq rfl) (by decide) (by decide) k304
    have k305 : AtQ p e below S0 T305 m 70 l303 [(.int (if (2 : Int32) < (p1 &&& (7 : Int32)) then (2 : Int32) else (p1 &&& (7 : Int32))))] := k305a
    have N305 := N0.app Nq305
    have e305 : T305.heap = h0 := eq305
    obtain ⟨v306, hv306⟩ : ∃ z : Int32, z = (if (2 : Int32) < (p1 &&& (7 : Int32)) then (2 : Int32) else (p1 &&& (7 : Int32))) := ⟨_, rfl⟩
    have k306 : AtQ p e below S0 T305 m 70 l303 [(.int v306)] := by rw [hv306]; exact k305
    let l307 : Array Slot := #[(vi p0), (vi p1), (vi p2), (vi p3), (vi 1), (vi 1), (vi 1), (vi 3), (vi 2), (vi v306), .unset, .unset, .unset, .unset, .unset, .unset, .unset, .unset]
    have k308 : AtQ p e below S0 T305 m 78 l307 [(.int ((p2 &&& (255 : Int32)).toUInt32.toUInt16.toUInt32.toInt32))] := fun tt hq => k306 tt (by
     refine XS.istore X305.here hx rfl (hb hby at_70) rfl (l' := l307) rfl ?_
     refine XS.iloadN X305.here hx rfl (hb hby at_72) rfl ?_
     refine XS.sipush X305.here hx rfl (hb hby at_73) ?_
     refine XS.iand X305.here hx rfl (hb hby at_76) rfl ?_
     refine XS.i2c X305.here hx rfl (hb hby at_77) rfl ?_
     exact hq)
    have k309 : AtQ p e below S0 T305 m 78 l307 [(.int (p2 &&& (255 : Int32)))] := by have hq := k308; rw [i2c_mask] at hq; exact hq
    let l310 : Array Slot := #[(vi p0), (vi p1), (vi p2), (vi p3), (vi 1), (vi 1), (vi 1), (vi 3), (vi 2), (vi v306), (vi (p2 &&& (255 : Int32))), .unset, .unset, .unset, .unset, .unset, .unset, .unset]
    have k311 : AtQ p e below S0 T305 m 89 l310 [(.int ((((p2.toUInt32 >>> ((8 : Int32) &&& 31).toUInt32).toInt32) &&& (255 : Int32)).toUInt32.toUInt16.toUInt32.toInt32))] := fun tt hq => k309 tt (by
     refine XS.istore X305.here hx rfl (hb hby at_78) rfl (l' := l310) rfl ?_
     refine XS.iloadN X305.here hx rfl (hb hby at_80) rfl ?_
     refine XS.bipush X305.here hx rfl (hb hby at_81) ?_
     refine XS.iushr X305.here hx rfl (hb hby at_83) rfl ?_
     refine XS.sipush X305.here hx rfl (hb hby at_84) ?_
     refine XS.iand X305.here hx rfl (hb hby at_87) rfl ?_
     refine XS.i2c X305.here hx rfl (hb hby at_88) rfl ?_
     exact hq)
    have k312 : AtQ p e below S0 T305 m 89 l310 [(.int (((p2.toUInt32 >>> ((8 : Int32) &&& 31).toUInt32).toInt32) &&& (255 : Int32)))] := by have hq := k311; rw [i2c_mask] at hq; exact hq
    obtain ⟨v313, hv313⟩ : ∃ z : Int32, z = (((p2.toUInt32 >>> ((8 : Int32) &&& 31).toUInt32).toInt32) &&& (255 : Int32)) := ⟨_, rfl⟩
    have k313 : AtQ p e below S0 T305 m 89 l310 [(.int v313)] := by rw [hv313]; exact k312
    have mv313 : ¬ v313 < (0 : Int32) ∧ ¬ (255 : Int32) < v313 := by rw [hv313]; exact own_m255 _
    let l314 : Array Slot := #[(vi p0), (vi p1), (vi p2), (vi p3), (vi 1), (vi 1), (vi 1), (vi 3), (vi 2), (vi v306), (vi (p2 &&& (255 : Int32))), (vi v313), .unset, .unset, .unset, .unset, .unset, .unset]
    have k315 : AtQ p e below S0 T305 m 100 l314 [(.int ((((p2.toUInt32 >>> ((16 : Int32) &&& 31).toUInt32).toInt32) &&& (255 : Int32)).toUInt32.toUInt16.toUInt32.toInt32))] := fun tt hq => k313 tt (by
     refine XS.istore X305.here hx rfl (hb hby at_89) rfl (l' := l314) rfl ?_
     refine XS.iloadN X305.here hx rfl (hb hby at_91) rfl ?_
     refine XS.bipush X305.here hx rfl (hb hby at_92) ?_
     refine XS.iushr X305.here hx rfl (hb hby at_94) rfl ?_
     refine XS.sipush X305.here hx rfl (hb hby at_95) ?_
     refine XS.iand X305.here hx rfl (hb hby at_98) rfl ?_
     refine XS.i2c X305.here hx rfl (hb hby at_99) rfl ?_
     exact hq)
    have k316 : AtQ p e below S0 T305 m 100 l314 [(.int (((p2.toUInt32 >>> ((16 : Int32) &&& 31).toUInt32).toInt32) &&& (255 : Int32)))] := by have hq := k315; rw [i2c_mask] at hq; exact hq
    obtain ⟨v317, hv317⟩ : ∃ z : Int32, z = (((p2.toUInt32 >>> ((16 : Int32) &&& 31).toUInt32).toInt32) &&& (255 : Int32)) := ⟨_, rfl⟩
    have k317 : AtQ p e below S0 T305 m 100 l314 [(.int v317)] := by rw [hv317]; exact k316
    have mv317 : ¬ v317 < (0 : Int32) ∧ ¬ (255 : Int32) < v317 := by rw [hv317]; exact own_m255 _
    let l318 : Array Slot := #[(vi p0), (vi p1), (vi p2), (vi p3), (vi 1), (vi 1), (vi 1), (vi 3), (vi 2), (vi v306), (vi (p2 &&& (255 : Int32))), (vi v313), (vi v317), .unset, .unset, .unset, .unset, .unset]
    have k319 : AtQ p e below S0 T305 m 104 l318 [(.int 3)] := fun tt hq => k317 tt (by
     refine XS.istore X305.here hx rfl (hb hby at_100) rfl (l' := l318) rfl ?_
     refine XS.iload X305.here hx rfl (hb hby at_102) rfl ?_
     exact hq)
    obtain ⟨T320, h320, c320, X320, e320, E320, A320, st320⟩ := newP X305 hx hZ (wq hw 4 rfl) e305 (g := (mkF m 104 l318 [(.int 3)])) rfl (hb hby at_104) rfl (by decide) (cap := 3) (by decide) (by decide) (by decide) (by decide)
    obtain ⟨b320, g320⟩ : ∃ z, z = h0.size := ⟨_, rfl⟩
    rw [← g320] at A320 st320
    have k320 : AtQ p e below S0 T320 m 106 l318 [(.ref b320)] := fun tt hq => k319 tt (st320 tt hq)
    have z320 : h0.size ≤ h320.size := E320.1
    have C320 := C0.trans (CHr.ext E320 C0.1)
    have V320 : Arv Z h320 b320 c320 .char (3 : Int32) [(.int 0), (.int 0), (.int 0)] (.int 0) := (Arv.new A320 (by decide)).pad (pad_rep [] (.int 0) 3)
    have y320 : @LT.lt Nat instLTNat b320 h320.size := V320.lt
    let l321 : Array Slot := #[(vi p0), (vi p1), (vi p2), (vi p3), (vi 1), (vi 1), (vi 1), (vi 3), (vi 2), (vi v306), (vi (p2 &&& (255 : Int32))), (vi v313), (vi v317), (vr b320), .unset, .unset, .unset, .unset]
    let l322 : Array Slot := #[(vi p0), (vi p1), (vi p2), (vi p3), (vi 1), (vi 1), (vi 1), (vi 3), (vi 2), (vi v306), (vi (p2 &&& (255 : Int32))), (vi v313), (vi v317), (vr b320), (vi 2), .unset, .unset, .unset]
    have k323 : AtQ p e below S0 T320 m 140 l322 [(.int 55357), (.int 0), (.ref b320)] := fun tt hq => k320 tt (by
     refine XS.astore X320.here hx rfl (hb hby at_106) rfl rfl (l' := l321) rfl ?_
     refine XS.iload X320.here hx rfl (hb hby at_108) rfl ?_
     refine XS.ifNo X320.here hx rfl (hb hby at_110) rfl ((if0 _ _).trans (feq (by decide)).1) ?_
     refine XS.iload X320.here hx rfl (hb hby at_113) rfl ?_
     refine XS.ifNo X320.here hx rfl (hb hby at_115) rfl ((if0 _ _).trans (feq (by decide)).1) ?_
     refine XS.iconst X320.here hx rfl (hb hby at_118) ?_
     refine XS.goto X320.here hx rfl (pc0 := 119) (pc' := 123) rfl (hb hby at_119) (by decide) (by decide) ?_
     refine XS.istore X320.here hx rfl (hb hby at_123) rfl (l' := l322) rfl ?_
     refine XS.iload X320.here hx rfl (hb hby at_125) rfl ?_
     refine XS.ifNo X320.here hx rfl (hb hby at_127) rfl ((if0 _ _).trans (feq (by decide)).1) ?_
     refine XS.iload X320.here hx rfl (hb hby at_130) rfl ?_
     refine XS.ifNo X320.here hx rfl (hb hby at_132) rfl ((if0 _ _).trans (feq (by decide)).1) ?_
     refine XS.aload X320.here hx rfl (hb hby at_135) rfl rfl ?_
     refine XS.iconst X320.here hx rfl (hb hby at_137) ?_
     refine X320.ldcInt hx hown (mvT hZ (wq hw 5 rfl)) (g := (mkF m 138 l322 [(.int 0), (.ref b320)])) rfl (hb hby at_138) _ ?_
     exact hq)
    obtain ⟨cl324, Ar324, q324, S324, M324, G324, J324⟩ := id V320
    obtain ⟨T324, h324, X324, e324, W324, st324⟩ := stC X320 hx hZ e320 Ar324 (j := (0 : Int32)) (inb_of S324 (⟨by decide, by decide⟩)) (g := (mkF m 140 l322 [(.int 55357), (.int 0), (.ref b320)])) rfl rfl (hb hby at_140)
    have k324 : AtQ p e below S0 T324 m 141 l322 [] := fun tt hq => k323 tt (st324 tt hq)
    have z324 : h324.size = h320.size := W324.size
    have C324 := C320.trans (CHr.wr W324 (Safe.arv hZ.alike V320 (by decide)) C320.1)
    have V324 : Arv Z h324 b320 c320 .char (3 : Int32) [(.int 55357), (.int 0), (.int 0)] (.int 0) := Arv.set Ar324 q324 S324 M324 G324 J324 (fits_nar_char _) W324 0 rfl (Nat.le_of_ble_eq_true rfl)
    have N324 := Fr.snoc X324 N305 (by omega : n0 ≤ b320)
    have k325 : AtQ p e below S0 T324 m 146 l322 [(.int 56832), (.int 1), (.ref b320)] := fun tt hq => k324 tt (by
     refine XS.aload X324.here hx rfl (hb hby at_141) rfl rfl ?_
     refine XS.iconst X324.here hx rfl (hb hby at_143) ?_
     refine X324.ldcInt hx hown (mvT hZ (wq hw 6 rfl)) (g := (mkF m 144 l322 [(.int 1), (.ref b320)])) rfl (hb hby at_144) _ ?_
     exact hq)
    obtain ⟨cl326, Ar326, q326, S326, M326, G326, J326⟩ := id V324
    obtain ⟨T326, h326, X326, e326, W326, st326⟩ := stC X324 hx hZ e324 Ar326 (j := (1 : Int32)) (inb_of S326 (⟨by decide, by decide⟩)) (g := (mkF m 146 l322 [(.int 56832), (.int 1), (.ref b320)])) rfl rfl (hb hby at_146)
    have k326 : AtQ p e below S0 T326 m 147 l322 [] := fun tt hq => k325 tt (st326 tt hq)
    have z326 : h326.size = h324.size := W326.size
    have C326 := C324.trans (CHr.wr W326 (Safe.arv hZ.alike V324 (by decide)) C324.1)
    have V326 : Arv Z h326 b320 c320 .char (3 : Int32) [(.int 55357), (.int 56832), (.int 0)] (.int 0) := Arv.set Ar326 q326 S326 M326 G326 J326 (fits_nar_char _) W326 1 rfl (Nat.le_of_ble_eq_true rfl)
    have N326 := Fr.snoc X326 N324 (by omega : n0 ≤ b320)
    have k327 : AtQ p e below S0 T326 m 158 l322 [(.int (p2 &&& (255 : Int32))), (.int 2), (.ref b320)] := fun tt hq => k326 tt (by
     refine XS.iload X326.here hx rfl (hb hby at_147) rfl ?_
     refine XS.ifNo X326.here hx rfl (hb hby at_149) rfl ((if0 _ _).trans (tlt (by decide)).2.2.2) ?_
     refine XS.aload X326.here hx rfl (hb hby at_152) rfl rfl ?_
     refine XS.iload X326.here hx rfl (hb hby at_154) rfl ?_
     refine XS.iload X326.here hx rfl (hb hby at_156) rfl ?_
     exact hq)
    obtain ⟨cl328, Ar328, q328, S328, M328, G328, J328⟩ := id V326
    obtain ⟨T328, h328, X328, e328, W328, st328⟩ := stC X326 hx hZ e326 Ar328 (j := (2 : Int32)) (inb_of S328 (⟨by decide, by decide⟩)) (g := (mkF m 158 l322 [(.int (p2 &&& (255 : Int32))), (.int 2), (.ref b320)])) rfl rfl (hb hby at_158)
    have k328 : AtQ p e below S0 T328 m 159 l322 [] := fun tt hq => k327 tt (st328 tt hq)
    have z328 : h328.size = h326.size := W328.size
    have C328 := C326.trans (CHr.wr W328 (Safe.arv hZ.alike V326 (by decide)) C326.1)
    rw [own_narc (own_m255 _)] at W328
    have V328 : Arv Z h328 b320 c320 .char (3 : Int32) [(.int 55357), (.int 56832), (.int (p2 &&& (255 : Int32)))] (.int 0) := Arv.set Ar328 q328 S328 M328 G328 J328 (own_fitc (own_m255 _)) W328 2 rfl (Nat.le_of_ble_eq_true rfl)
    have N328 := Fr.snoc X328 N326 (by omega : n0 ≤ b320)
    have k329 : AtQ p e below S0 T328 m 215 l322 [] := fun tt hq => k328 tt (by
     refine XS.iload X328.here hx rfl (hb hby at_159) rfl ?_
     refine XS.iconst X328.here hx rfl (hb hby at_161) ?_
     refine XS.icmpYes X328.here hx rfl (pc0 := 162) (pc' := 174) rfl (hb hby at_162) rfl (flt (by decide)).2.2.2 (by decide) (by decide) ?_
     refine XS.iload X328.here hx rfl (hb hby at_174) rfl ?_
     refine XS.iconst X328.here hx rfl (hb hby at_176) ?_
     refine XS.icmpYes X328.here hx rfl (pc0 := 177) (pc' := 189) rfl (hb hby at_177) rfl (flt (by decide)).2.2.2 (by decide) (by decide) ?_
     refine XS.iload X328.here hx rfl (hb hby at_189) rfl ?_
     refine XS.ifNo X328.here hx rfl (hb hby at_191) rfl ((if0 _ _).trans (feq (by decide)).1) ?_
     refine XS.iload X328.here hx rfl (hb hby at_194) rfl ?_
     refine XS.ifYes X328.here hx rfl (pc0 := 196) (pc' := 215) rfl (hb hby at_196) rfl ((if0 _ _).trans (feq (by decide)).2) (by decide) (by decide) ?_
     exact hq)
    obtain ⟨T330, h330, X330, e330, E330, A330, D330, -, st330⟩ := newO X328 hx hZ hown (wq hw 7 rfl) (wq hw 8 rfl) (wq hw 9 rfl) e328 (g := (mkF m 215 l322 [])) rfl (hb hby at_215) (by decide) (by decide)
    obtain ⟨b330, g330⟩ : ∃ z, z = h328.size := ⟨_, rfl⟩
    rw [← g330] at A330 D330 st330
    have k330 : AtQ p e below S0 T330 m 218 l322 [(.ref b330)] := fun tt hq => k329 tt (st330 tt hq)
    have z330 : h328.size ≤ h330.size := E330.1
    have y330 : @LT.lt Nat instLTNat b330 h330.size := A330.lt
    have C330 := C328.trans (CHr.ext E330 C328.1)
    have F330_line : FqH Z h330 b330 (.int 0) := D330 (Or.inl (wq hw 82 rfl)) (ty := .int) (by decide)
    have F330_column : FqI Z h330 b330 (.int 0) := D330 (Or.inl (wq hw 84 rfl)) (ty := .int) (by decide)
    have F330_source : FqE Z h330 b330 .null := D330 (Or.inr (wq hw 86 rfl)) (ty := (.object "com/example/ceruline/ceruline/source/SourceFile")) (by decide)
    have F330_text : FqF Z h330 b330 .null := D330 (Or.inr (wq hw 93 rfl)) (ty := (.object "java/lang/String")) (by decide)
    have F330_offset : FqG Z h330 b330 (.int 0) := D330 (Or.inl (wq hw 100 rfl)) (ty := .int) (by decide)
    have k331 : AtQ p e below S0 T330 m 219 l322 [(.ref b330), (.ref b330)] := fun tt hq => k330 tt (by
     refine XS.dup X330.here hx rfl (hb hby at_218) rfl rfl ?_
     exact hq)
    obtain ⟨T332, h332, X332, e332, E332, A332, D332, -, st332⟩ := newO X330 hx hZ hown (wq hw 10 rfl) (wq hw 11 rfl) (wq hw 12 rfl) e330 (g := (mkF m 219 l322 [(.ref b330), (.ref b330)])) rfl (hb hby at_219) (by decide) (by decide)
    obtain ⟨b332, g332⟩ : ∃ z, z = h330.size := ⟨_, rfl⟩
    rw [← g332] at A332 D332 st332
    have k332 : AtQ p e below S0 T332 m 222 l322 [(.ref b332), (.ref b330), (.ref b330)] := fun tt hq => k331 tt (st332 tt hq)
    have z332 : h330.size ≤ h332.size := E332.1
    have y332 : @LT.lt Nat instLTNat b332 h332.size := A332.lt
    have C332 := C330.trans (CHr.ext E332 C330.1)
    have F332_name : FqC Z h332 b332 .null := D332 (Or.inr (wq hw 74 rfl)) (ty := (.object "java/lang/String")) (by decide)
    have F332_text : FqD Z h332 b332 .null := D332 (Or.inr (wq hw 76 rfl)) (ty := (.object "java/lang/String")) (by decide)
    have k333 : AtQ p e below S0 T332 m 223 l322 [(.ref b332), (.ref b332), (.ref b330), (.ref b330)] := fun tt hq => k332 tt (by
     refine XS.dup X332.here hx rfl (hb hby at_222) rfl rfl ?_
     exact hq)
    obtain ⟨a334, T334, h334, kk334, b334, c334, X334, e334, E334, hS334, hk334, hZ334a, hown334a, A334, Fc334, Fv334, V334, ya334, yb334, Cq334, -, hne334, st334⟩ := ldcCH X332 hx hZ hown (wq hw 13 rfl) (own_wS hw) e332 hS0 (by omega) (own_EW hw) (List.mem_of_getElem? (i := 0) rfl) C332.1 (vs := [(.int 102)]) (z := (1 : Int32)) ⟨by decide, by decide⟩ (by decide) (by decide) (g := (mkF m 223 l322 [(.ref b332), (.ref b332), (.ref b330), (.ref b330)])) rfl (hb hby at_223) (n := 4) (by decide) (by decide) (by decide) (by decide)
    have k334 : AtQ p e below S0 T334 m 225 l322 [(.ref a334), (.ref b332), (.ref b332), (.ref b330), (.ref b330)] := fun tt hq => k333 tt (st334 tt hq)
    have hZ334 : Z.Warmed39 T334.vm := hZ334a
    have hown334 : T334.vm.findClass "com/example/ceruline/ceruline/parsing/SourceReaderAtEndPinLaw" = some m.cls := hown334a
    have z334 : h332.size ≤ h334.size := E334.1
    have C334 := C332.trans Cq334
    obtain ⟨T335, h335, X335, e335, E335, A335, D335, -, st335⟩ := newO X334 hx hZ334 hown334 (wq hw 21 rfl) (wq hw 15 rfl) (wq hw 14 rfl) e334 (g := (mkF m 225 l322 [(.ref a334), (.ref b332), (.ref b332), (.ref b330), (.ref b330)])) rfl (hb hby at_225) (by decide) (by decide)
    obtain ⟨b335, g335⟩ : ∃ z, z = h334.size := ⟨_, rfl⟩
    rw [← g335] at A335 D335 st335
    have k335 : AtQ p e below S0 T335 m 228 l322 [(.ref b335), (.ref a334), (.ref b332), (.ref b332), (.ref b330), (.ref b330)] := fun tt hq => k334 tt (st335 tt hq)
    have z335 : h334.size ≤ h335.size := E335.1
    have y335 : @LT.lt Nat instLTNat b335 h335.size := A335.lt
    have C335 := C334.trans (CHr.ext E335 C334.1)
    have Sf335 : Safe Z own_EL T334.vm h335 b335 := Safe.ext E335 C334.1 (Safe.new (by omega))
    have F335_value : FqA Z h335 b335 .null := D335 (Or.inr (wq hw 17 rfl)) (ty := (.array .byte)) (by decide)
    have F335_coder : FqB Z h335 b335 (.int 0) := D335 (Or.inr (wq hw 18 rfl)) (ty := .byte) (by decide)
    have k336 : AtQ p e below S0 T335 m 231 l322 [(.ref b320), (.ref b335), (.ref b335), (.ref a334), (.ref b332), (.ref b332), (.ref b330), (.ref b330)] := fun tt hq => k335 tt (by
     refine XS.dup X335.here hx rfl (hb hby at_228) rfl rfl ?_
     refine XS.aload X335.here hx rfl (hb hby at_229) rfl rfl ?_
     exact hq)
    have f337 : Old Z n0 h335 := ((((((((O0.ext E320).wr W324 (by omega)).wr W326 (by omega)).wr W328 (by omega)).ext E330).ext E332).ext E334).ext E335)
    have f338 : Arv Z h335 b320 c320 .char (3 : Int32) [(.int 55357), (.int 56832), (.int (p2 &&& (255 : Int32)))] (.int 0) := ((((V328.ext E330).ext E332).ext E334).ext E335)
    obtain ⟨_, T339, L339, X339, ⟨rfl, Nq339, Kq339, t339, kt339, gt339, P3390, P3391, P3392, P3393⟩, k339a⟩ := callC' X335 hx hZ334 (y := yqD) rfl hown334 (wq hw 22 rfl) (wq hw 23 rfl) (wq hw 24 rfl) (by decide) (backC (W := 6) (rm_n1u1 l Z a0 hw zc b335 b320 (3 : Int32) (6 : Int32) _ .null (.int 0) c320 _ h335 n0 (by omega) S_c hzc f337 A335 F335_value F335_coder (by omega) (by omega) (by decide) (by decide) (rm_c3_3_0 l Z a0 hw b320 c320 (55357 : Int32) (56832 : Int32) (p2 &&& (255 : Int32)) h335 n0 (by omega) S_ad S_hi S_lo f337 f338 (by omega) (by decide) (by decide) (by decide)) f338) hZ334 (wq hw 24 rfl) (wq hw 14 rfl) (by decide) (by decide)) e335 (argsL := [(.ref b320)]) (rest := [(.ref b335), (.ref a334), (.ref b332), (.ref b332), (.ref b330), (.ref b330)]) rfl rfl pd_10 rfl (by rw [hml]; rfl) (hb hby at_231) (Nat.le_of_eq rfl) (by decide) (by decide) k336
    have k339 : AtQ p e below S0 T339 m 234 l322 [(.ref b335), (.ref a334), (.ref b332), (.ref b332), (.ref b330), (.ref b330)] := k339a
    have N339 := N328.app Nq339
    obtain ⟨h339, e339⟩ : ∃ z, T339.heap = z := ⟨_, rfl⟩
    rw [e339] at Kq339 P3390 P3391 P3392 P3393
    have z339 : h335.size ≤ h339.size := Kq339.1
    have C339 := C335.trans (CHr.keep Kq339 (sfS Sf335 sf0) C335.1)
    have y339 : @LT.lt Nat instLTNat t339 h339.size := P3393.lt
    have f340 : Exa Z h339 b332 "com/example/ceruline/ceruline/source/SourceFile" := (((A332.ext E334).ext E335).keep Kq339)
    have f341 : FqC Z h339 b332 .null := (((F332_name.ext E334).ext E335).keep Kq339 (nin1 (by omega)))
    have f342 : FqD Z h339 b332 .null := (((F332_text.ext E334).ext E335).keep Kq339 (nin1 (by omega)))
    obtain ⟨_, T343, L343, X343, ⟨rfl, Nq343, Kq343, P3430, P3431, P3432⟩, k343a⟩ := callC' X339 hx hZ334 (y := yqM) rfl hown334 (wq hw 64 rfl) (wq hw 65 rfl) (wq hw 66 rfl) (by decide) (backC (W := 3) (rm_sfi l Z a0 hw b332 a334 b335 h339 n0 (by omega) f340 f341 f342 (by omega)) hZ334 (wq hw 66 rfl) (wq hw 12 rfl) (by decide) (by decide)) e339 (argsL := [(.ref a334), (.ref b335)]) (rest := [(.ref b332), (.ref b330), (.ref b330)]) rfl rfl pd_11 rfl (by rw [hml]; rfl) (hb hby at_234) (Nat.le_of_eq rfl) (by decide) (by decide) k339
    have k343 : AtQ p e below S0 T343 m 237 l322 [(.ref b332), (.ref b330), (.ref b330)] := k343a
    have N343 := N339.app Nq343
    obtain ⟨h343, e343⟩ : ∃ z, T343.heap = z := ⟨_, rfl⟩
    rw [e343] at Kq343 P3430 P3431 P3432
    have z343 : h339.size ≤ h343.size := Kq343.1
    have C343 := C339.trans (CHr.keep Kq343 (sfS (Safe.exa hZ334.alike f340 (by decide) (by decide)) sf0) C339.1)
    have f344 : Exa Z h343 b330 "com/example/ceruline/ceruline/parsing/SourceReader" := (((((A330.ext E332).ext E334).ext E335).keep Kq339).keep Kq343)
    have f345 : FqE Z h343 b330 .null := (((((F330_source.ext E332).ext E334).ext E335).keep Kq339 (nin1 (by omega))).keep Kq343 (nin1 (by omega)))
    have f346 : FqF Z h343 b330 .null := (((((F330_text.ext E332).ext E334).ext E335).keep Kq339 (nin1 (by omega))).keep Kq343 (nin1 (by omega)))
    have f347 : FqG Z h343 b330 (.int 0) := (((((F330_offset.ext E332).ext E334).ext E335).keep Kq339 (nin1 (by omega))).keep Kq343 (nin1 (by omega)))
    have f348 : FqH Z h343 b330 (.int 0) := (((((F330_line.ext E332).ext E334).ext E335).keep Kq339 (nin1 (by omega))).keep Kq343 (nin1 (by omega)))
    have f349 : FqI Z h343 b330 (.int 0) := (((((F330_column.ext E332).ext E334).ext E335).keep Kq339 (nin1 (by omega))).keep Kq343 (nin1 (by omega)))
    obtain ⟨_, T350, L350, X350, ⟨rfl, Nq350, Kq350, P350_0, P350_1, P350_2, P350_3, P350_4, P350_5⟩, k350a⟩ := callC' X343 hx hZ334 (y := yqO) rfl hown334 (wq hw 77 rfl) (wq hw 78 rfl) (wq hw 79 rfl) (by decide) (backC (W := 1) (rm_sri l Z a0 hw b330 b332 b335 h343 n0 (by omega) f344 f345 f346 f347 f348 f349 P3430 P3432 (by omega) (by omega)) hZ334 (wq hw 79 rfl) (wq hw 9 rfl) (by decide) (by decide)) e343 (argsL := [(.ref b332)]) (rest := [(.ref b330)]) rfl rfl pd_12 rfl (by rw [hml]; rfl) (hb hby at_237) (Nat.le_of_eq rfl) (by decide) (by decide) k343
    have k350 : AtQ p e below S0 T350 m 240 l322 [(.ref b330)] := k350a
    have N350 := N343.app Nq350
    obtain ⟨h350, e350⟩ : ∃ z, T350.heap = z := ⟨_, rfl⟩
    rw [e350] at Kq350 P350_0 P350_1 P350_2 P350_3 P350_4 P350_5
    have z350 : h343.size ≤ h350.size := Kq350.1
    have C350 := C343.trans (CHr.keep Kq350 (sfS (Safe.exa hZ334.alike f344 (by decide) (by decide)) sf0) C343.1)
    let l351 : Array Slot := #[(vi p0), (vi p1), (vi p2), (vi p3), (vi 1), (vi 1), (vi 1), (vi 3), (vi 2), (vi v306), (vi (p2 &&& (255 : Int32))), (vi v313), (vi v317), (vr b320), (vi 2), (vr b330), .unset, .unset]
    have k352 : AtQ p e below S0 T350 m 242 l351 [] := fun tt hq => k350 tt (by
     refine XS.astore X350.here hx rfl (hb hby at_240) rfl rfl (l' := l351) rfl ?_
     exact hq)
    have f353 : Exa Z h350 b335 "java/lang/String" := ((P3390.keep Kq343).keep Kq350)
    have f354 : FqA Z h350 b335 (.ref t339) := ((P3391.keep Kq343 (nin1 (by omega))).keep Kq350 (nin1 (by omega)))
    have f355 : FqB Z h350 b335 (.int 1) := ((P3392.keep Kq343 (nin1 (by omega))).keep Kq350 (nin1 (by omega)))
    have f356 : Arv Z h350 t339 kt339 .byte (6 : Int32) [(.int (ulo (55357 : Int32))), (.int (uhi (55357 : Int32))), (.int (ulo (56832 : Int32))), (.int (uhi (56832 : Int32))), (.int (ulo (p2 &&& (255 : Int32)))), (.int (uhi (p2 &&& (255 : Int32))))] (.int 0) := ((P3393.keep Kq343 (nin1 (by omega))).keep Kq350 (nin1 (by omega)))
    have f357 : Old Z n0 h350 := (((f337.keep Kq339 (allS (by omega) all0)).keep Kq343 (allS (by omega) all0)).keep Kq350 (allS (by omega) all0))
    exact sec_m2 (cd := (1 : Int32)) (o0 := (0 : Int32)) (o1 := (2 : Int32)) (o2 := (3 : Int32)) hw hx hby hml hret hlk hnm hown334 hZ334 X350 e350 k352 N350 C350 hS334 (by omega) (by omega) (by decide) (by decide) S_c hzc P350_0 P350_1 P350_2 P350_3 P350_4 P350_5 f353 f354 f355 f356 f357 rfl (by decide) (by decide) (by decide) (by rw [hv306]; exact own_k2 _) (by omega) (by omega) (by omega) (fun H xl xc hn g10 g0 g1 g2 g3 g4 g5 g6 g7 g8 g9 => rm_adv2 l Z a0 hw b330 b332 b335 (0 : Int32) xl xc (128512 : Int32) (2 : Int32) H n0 (by omega) g0 g1 g2 g3 g4 g5 g6 (by omega) (rm_cpu l Z a0 hw zc fm b335 t339 kt339 (6 : Int32) _ (0 : Int32) (3 : Int32) (128512 : Int32) H n0 (by omega) S_c hzc S_f hfm g10 g6 g7 g8 g9 (by decide) (by decide) (by decide) (rm_cp3u l Z a0 hw t339 (0 : Int32) (3 : Int32) (128512 : Int32) H n0 (by omega) (rm_cp4p l Z a0 hw t339 (0 : Int32) (3 : Int32) H n0 (by omega) S_ad g10 (rm_get l Z a0 hw t339 kt339 (6 : Int32) _ (0 : Int32) (0 : Int32) (ulo (55357 : Int32)) (uhi (55357 : Int32)) (55357 : Int32) H n0 (by omega) S_ad S_hi S_lo g10 g9 (by decide) (by decide) (by decide) rfl rfl (own_gc (by decide) (by decide)) (by decide) (by decide)) (rm_get l Z a0 hw t339 kt339 (6 : Int32) _ (1 : Int32) (2 : Int32) (ulo (56832 : Int32)) (uhi (56832 : Int32)) (56832 : Int32) H n0 (by omega) S_ad S_hi S_lo g10 g9 (by decide) (by decide) (by decide) rfl rfl (own_gc (by decide) (by decide)) (by decide) (by decide)) (by decide)))) (by decide) (by decide)) (fun H xl xc hn g10 g0 g1 g2 g3 g4 g5 g6 g7 g8 g9 => rm_adv1 l Z a0 hw b330 b332 b335 (2 : Int32) xl xc (p2 &&& (255 : Int32)) (3 : Int32) H n0 (by omega) g0 g1 g2 g3 g4 g5 g6 (by omega) (rm_cpu l Z a0 hw zc fm b335 t339 kt339 (6 : Int32) _ (2 : Int32) (3 : Int32) (p2 &&& (255 : Int32)) H n0 (by omega) S_c hzc S_f hfm g10 g6 g7 g8 g9 (by decide) (by decide) (by decide) (rm_cp3u l Z a0 hw t339 (2 : Int32) (3 : Int32) (p2 &&& (255 : Int32)) H n0 (by omega) (rm_cp4s l Z a0 hw t339 (2 : Int32) (3 : Int32) (p2 &&& (255 : Int32)) H n0 (by omega) S_ad g10 (rm_get l Z a0 hw t339 kt339 (6 : Int32) _ (2 : Int32) (4 : Int32) (ulo (p2 &&& (255 : Int32))) (uhi (p2 &&& (255 : Int32))) (p2 &&& (255 : Int32)) H n0 (by omega) S_ad S_hi S_lo g10 g9 (by decide) (by decide) (by decide) rfl rfl (own_gc (own_m255 _).1 (own_lt16 (own_m255 _))) (own_m255 _).1 (own_lt16 (own_m255 _))) (own_lt55 (own_m255 _))))) (own_lt16 (own_m255 _)) (by decide))
 ·
  have k358 : AtQ p e below S0 s₁ m 3 l1 [(.int 2)] := by have hq := k2; rw [ht3] at hq; exact hq
  let l359 : Array Slot := #[(vi p0), (vi p1), (vi p2), (vi p3), (vi 2), .unset, .unset, .unset, .unset, .unset, .unset, .unset, .unset, .unset, .unset, .unset, .unset, .unset]
  have k360 : AtQ p e below S0 s₁ m 8 l359 [(.int (p3 &&& (1 : Int32)))] := fun tt hq => k358 tt (by
   refine XS.istore X0.here hx rfl (hb hby at_3) rfl (l' := l359) rfl ?_
   refine XS.iloadN X0.here hx rfl (hb hby at_5) rfl ?_
   refine XS.iconst X0.here hx rfl (hb hby at_6) ?_
   refine XS.iand X0.here hx rfl (hb hby at_7) rfl ?_
   exact hq)
  by_cases hc8_361 : (p3 &&& (1 : Int32)) = (0 : Int32)
  ·
   let l362 : Array Slot := #[(vi p0), (vi p1), (vi p2), (vi p3), (vi 2), (vi 0), .unset, .unset, .unset, .unset, .unset, .unset, .unset, .unset, .unset, .unset, .unset, .unset]
   have k363 : AtQ p e below S0 s₁ m 21 l362 [(.int (p3 &&& (2 : Int32)))] := fun tt hq => k360 tt (by
    refine XS.ifYes X0.here hx rfl (pc0 := 8) (pc' := 15) rfl (hb hby at_8) rfl ((if0 _ _).trans (teq hc8_361).1) (by decide) (by decide) ?_
    refine XS.iconst X0.here hx rfl (hb hby at_15) ?_
    refine XS.istore X0.here hx rfl (hb hby at_16) rfl (l' := l362) rfl ?_
    refine XS.iloadN X0.here hx rfl (hb hby at_18) rfl ?_
    refine XS.iconst X0.here hx rfl (hb hby at_19) ?_
    refine XS.iand X0.here hx rfl (hb hby at_20) rfl ?_
    exact hq)
   refine joinT (S0 := S0) X0 e0 (mkF m 29 l362 [(.int (if (p3 &&& (2 : Int32)) = (0 : Int32) then (0 : Int32) else (1 : Int32)))]) (fun kont => ?_) (fun T364 X364 e364 k364 => ?_)
   ·
    by_cases hc21_365 : (p3 &&& (2 : Int32)) = (0 : Int32)
    ·
     have k366 : AtQ p e below S0 s₁ m 29 l362 [(.int 0)] := fun tt hq => k363 tt (by
      refine XS.ifYes X0.here hx rfl (pc0 := 21) (pc' := 28) rfl (hb hby at_21) rfl ((if0 _ _).trans (teq hc21_365).1) (by decide) (by decide) ?_
      refine XS.iconst X0.here hx rfl (hb hby at_28) ?_
      exact hq)
     exact kont s₁ X0 e0 (fun tt hq => k366 tt (by simpa only [if_pos hc21_365, l362] using hq))
    ·
     have k367 : AtQ p e below S0 s₁ m 29 l362 [(.int 1)] := fun tt hq => k363 tt (by
      refine XS.ifNo X0.here hx rfl (hb hby at_21) rfl ((if0 _ _).trans (feq hc21_365).1) ?_
      refine XS.iconst X0.here hx rfl (hb hby at_24) ?_
      refine XS.goto X0.here hx rfl (pc0 := 25) (pc' := 29) rfl (hb hby at_25) (by decide) (by decide) ?_
      exact hq)
     exact kont s₁ X0 e0 (fun tt hq => k367 tt (by simpa only [if_neg hc21_365, l362] using hq))
   obtain ⟨v368, hv368⟩ : ∃ z : Int32, z = (if (p3 &&& (2 : Int32)) = (0 : Int32) then (0 : Int32) else (1 : Int32)) := ⟨_, rfl⟩
   have k368 : AtQ p e below S0 T364 m 29 l362 [(.int v368)] := by rw [hv368]; exact k364
   let l369 : Array Slot := #[(vi p0), (vi p1), (vi p2), (vi p3), (vi 2), (vi 0), (vi v368), .unset, .unset, .unset, .unset, .unset, .unset, .unset, .unset, .unset, .unset, .unset]
   let l370 : Array Slot := #[(vi p0), (vi p1), (vi p2), (vi p3), (vi 2), (vi 0), (vi v368), (vi 2), .unset, .unset, .unset, .unset, .unset, .unset, .unset, .unset, .unset, .unset]
   let l371 : Array Slot := #[(vi p0), (vi p1), (vi p2), (vi p3), (vi 2), (vi 0), (vi v368), (vi 2), (vi 2), .unset, .unset, .unset, .unset, .unset, .unset, .unset, .unset, .unset]
   have k372 : AtQ p e below S0 T364 m 67 l371 [(.int 2), (.int (p1 &&& (7 : Int32)))] := fun tt hq => k368 tt (by
    refine XS.istore X364.here hx rfl (hb hby at_29) rfl (l' := l369) rfl ?_
    refine XS.iload X364.here hx rfl (hb hby at_31) rfl ?_
    refine XS.iload X364.here hx rfl (hb hby at_33) rfl ?_
    refine XS.ifYes X364.here hx rfl (pc0 := 35) (pc' := 42) rfl (hb hby at_35) rfl ((if0 _ _).trans (teq (by decide)).1) (by decide) (by decide) ?_
    refine XS.iconst X364.here hx rfl (hb hby at_42) ?_
    refine XS.iadd X364.here hx rfl (hb hby at_43) rfl ?_
    refine XS.istore X364.here hx rfl (hb hby at_44) rfl (l' := l370) rfl ?_
    refine XS.iload X364.here hx rfl (hb hby at_46) rfl ?_
    refine XS.iload X364.here hx rfl (hb hby at_48) rfl ?_
    refine XS.ifYes X364.here hx rfl (pc0 := 50) (pc' := 57) rfl (hb hby at_50) rfl ((if0 _ _).trans (teq (by decide)).1) (by decide) (by decide) ?_
    refine XS.iconst X364.here hx rfl (hb hby at_57) ?_
    refine XS.iadd X364.here hx rfl (hb hby at_58) rfl ?_
    refine XS.istore X364.here hx rfl (hb hby at_59) rfl (l' := l371) rfl ?_
    refine XS.iloadN X364.here hx rfl (hb hby at_61) rfl ?_
    refine XS.bipush X364.here hx rfl (hb hby at_62) ?_
    refine XS.iand X364.here hx rfl (hb hby at_64) rfl ?_
    refine XS.iload X364.here hx rfl (hb hby at_65) rfl ?_
    exact hq)
   obtain ⟨_, T373, L373, X373, ⟨rfl, Nq373, eq373⟩, k373a⟩ := callS' X364 hx hZ (y := yqK) hown (wq hw 0 rfl) (wq hw 1 rfl) (wq hw 2 rfl) (wq hw 3 rfl) (by decide) (backC (W := 0) (rm_min l Z a0 hw (p1 &&& (7 : Int32)) (2 : Int32) (if (2 : Int32) < (p1 &&& (7 : Int32)) then (2 : Int32) else (p1 &&& (7 : Int32))) h0 n0 (by omega) rfl) hZ (wq hw 3 rfl) (wq hw 2 rfl) (by decide) (by decide)) e364 (argsL := [(.int (p1 &&& (7 : Int32))), (.int 2)]) (rest := []) rfl rfl pd_9 rfl (by rw [hml]; rfl) (hb hby at_67) (Nat.le_of_eq rfl) (by decide) (by decide) k372
   have k373 : AtQ p e below S0 T373 m 70 l371 [(.int (if (2 : Int32) < (p1 &&& (7 : Int32)) then (2 : Int32) else (p1 &&& (7 : Int32))))] := k373a
   have N373 := N0.app Nq373
   have e373 : T373.heap = h0 := eq373
   obtain ⟨v374, hv374⟩ : ∃ z : Int32, z = (if (2 : Int32) < (p1 &&& (7 : Int32)) then (2 : Int32) else (p1 &&& (7 : Int32))) := ⟨_, rfl⟩
   have k374 : AtQ p e below S0 T373 m 70 l371 [(.int v374)] := by rw [hv374]; exact k373
   let l375 : Array Slot := #[(vi p0), (vi p1), (vi p2), (vi p3), (vi 2), (vi 0), (vi v368), (vi 2), (vi 2), (vi v374), .unset, .unset, .unset, .unset, .unset, .unset, .unset, .unset]
   have k376 : AtQ p e below S0 T373 m 78 l375 [(.int ((p2 &&& (255 : Int32)).toUInt32.toUInt16.toUInt32.toInt32))] := fun tt hq => k374 tt (by
    refine XS.istore X373.here hx rfl (hb hby at_70) rfl (l' := l375) rfl ?_
    refine XS.iloadN X373.here hx rfl (hb hby at_72) rfl ?_
    refine XS.sipush X373.here hx rfl (hb hby at_73) ?_
    refine XS.iand X373.here hx rfl (hb hby at_76) rfl ?_
    refine XS.i2c X373.here hx rfl (hb hby at_77) rfl ?_
    exact hq)
   have k377 : AtQ p e below S0 T373 m 78 l375 [(.int (p2 &&& (255 : Int32)))] := by have hq := k376; rw [i2c_mask] at hq; exact hq
   let l378 : Array Slot := #[(vi p0), (vi p1), (vi p2), (vi p3), (vi 2), (vi 0), (vi v368), (vi 2), (vi 2), (vi v374), (vi (p2 &&& (255 : Int32))), .unset, .unset, .unset, .unset, .unset, .unset, .unset]
   have k379 : AtQ p e below S0 T373 m 89 l378 [(.int ((((p2.toUInt32 >>> ((8 : Int32) &&& 31).toUInt32).toInt32) &&& (255 : Int32)).toUInt32.toUInt16.toUInt32.toInt32))] := fun tt hq => k377 tt (by
    refine XS.istore X373.here hx rfl (hb hby at_78) rfl (l' := l378) rfl ?_
    refine XS.iloadN X373.here hx rfl (hb hby at_80) rfl ?_
    refine XS.bipush X373.here hx rfl (hb hby at_81) ?_
    refine XS.iushr X373.here hx rfl (hb hby at_83) rfl ?_
    refine XS.sipush X373.here hx rfl (hb hby at_84) ?_
    refine XS.iand X373.here hx rfl (hb hby at_87) rfl ?_
    refine XS.i2c X373.here hx rfl (hb hby at_88) rfl ?_
    exact hq)
   have k380 : AtQ p e below S0 T373 m 89 l378 [(.int (((p2.toUInt32 >>> ((8 : Int32) &&& 31).toUInt32).toInt32) &&& (255 : Int32)))] := by have hq := k379; rw [i2c_mask] at hq; exact hq
   obtain ⟨v381, hv381⟩ : ∃ z : Int32, z = (((p2.toUInt32 >>> ((8 : Int32) &&& 31).toUInt32).toInt32) &&& (255 : Int32)) := ⟨_, rfl⟩
   have k381 : AtQ p e below S0 T373 m 89 l378 [(.int v381)] := by rw [hv381]; exact k380
   have mv381 : ¬ v381 < (0 : Int32) ∧ ¬ (255 : Int32) < v381 := by rw [hv381]; exact own_m255 _
   let l382 : Array Slot := #[(vi p0), (vi p1), (vi p2), (vi p3), (vi 2), (vi 0), (vi v368), (vi 2), (vi 2), (vi v374), (vi (p2 &&& (255 : Int32))), (vi v381), .unset, .unset, .unset, .unset, .unset, .unset]
   have k383 : AtQ p e below S0 T373 m 100 l382 [(.int ((((p2.toUInt32 >>> ((16 : Int32) &&& 31).toUInt32).toInt32) &&& (255 : Int32)).toUInt32.toUInt16.toUInt32.toInt32))] := fun tt hq => k381 tt (by
    refine XS.istore X373.here hx rfl (hb hby at_89) rfl (l' := l382) rfl ?_
    refine XS.iloadN X373.here hx rfl (hb hby at_91) rfl ?_
    refine XS.bipush X373.here hx rfl (hb hby at_92) ?_
    refine XS.iushr X373.here hx rfl (hb hby at_94) rfl ?_
    refine XS.sipush X373.here hx rfl (hb hby at_95) ?_
    refine XS.iand X373.here hx rfl (hb hby at_98) rfl ?_
    refine XS.i2c X373.here hx rfl (hb hby at_99) rfl ?_
    exact hq)
   have k384 : AtQ p e below S0 T373 m 100 l382 [(.int (((p2.toUInt32 >>> ((16 : Int32) &&& 31).toUInt32).toInt32) &&& (255 : Int32)))] := by have hq := k383; rw [i2c_mask] at hq; exact hq
   obtain ⟨v385, hv385⟩ : ∃ z : Int32, z = (((p2.toUInt32 >>> ((16 : Int32) &&& 31).toUInt32).toInt32) &&& (255 : Int32)) := ⟨_, rfl⟩
   have k385 : AtQ p e below S0 T373 m 100 l382 [(.int v385)] := by rw [hv385]; exact k384
   have mv385 : ¬ v385 < (0 : Int32) ∧ ¬ (255 : Int32) < v385 := by rw [hv385]; exact own_m255 _
   let l386 : Array Slot := #[(vi p0), (vi p1), (vi p2), (vi p3), (vi 2), (vi 0), (vi v368), (vi 2), (vi 2), (vi v374), (vi (p2 &&& (255 : Int32))), (vi v381), (vi v385), .unset, .unset, .unset, .unset, .unset]
   have k387 : AtQ p e below S0 T373 m 104 l386 [(.int 2)] := fun tt hq => k385 tt (by
    refine XS.istore X373.here hx rfl (hb hby at_100) rfl (l' := l386) rfl ?_
    refine XS.iload X373.here hx rfl (hb hby at_102) rfl ?_
    exact hq)
   obtain ⟨T388, h388, c388, X388, e388, E388, A388, st388⟩ := newP X373 hx hZ (wq hw 4 rfl) e373 (g := (mkF m 104 l386 [(.int 2)])) rfl (hb hby at_104) rfl (by decide) (cap := 2) (by decide) (by decide) (by decide) (by decide)
   obtain ⟨b388, g388⟩ : ∃ z, z = h0.size := ⟨_, rfl⟩
   rw [← g388] at A388 st388
   have k388 : AtQ p e below S0 T388 m 106 l386 [(.ref b388)] := fun tt hq => k387 tt (st388 tt hq)
   have z388 : h0.size ≤ h388.size := E388.1
   have C388 := C0.trans (CHr.ext E388 C0.1)
   have V388 : Arv Z h388 b388 c388 .char (2 : Int32) [(.int 0), (.int 0)] (.int 0) := (Arv.new A388 (by decide)).pad (pad_rep [] (.int 0) 2)
   have y388 : @LT.lt Nat instLTNat b388 h388.size := V388.lt
   let l389 : Array Slot := #[(vi p0), (vi p1), (vi p2), (vi p3), (vi 2), (vi 0), (vi v368), (vi 2), (vi 2), (vi v374), (vi (p2 &&& (255 : Int32))), (vi v381), (vi v385), (vr b388), .unset, .unset, .unset, .unset]
   let l390 : Array Slot := #[(vi p0), (vi p1), (vi p2), (vi p3), (vi 2), (vi 0), (vi v368), (vi 2), (vi 2), (vi v374), (vi (p2 &&& (255 : Int32))), (vi v381), (vi v385), (vr b388), (vi 0), .unset, .unset, .unset]
   have k391 : AtQ p e below S0 T388 m 158 l390 [(.int (p2 &&& (255 : Int32))), (.int 0), (.ref b388)] := fun tt hq => k388 tt (by
    refine XS.astore X388.here hx rfl (hb hby at_106) rfl rfl (l' := l389) rfl ?_
    refine XS.iload X388.here hx rfl (hb hby at_108) rfl ?_
    refine XS.ifYes X388.here hx rfl (pc0 := 110) (pc' := 122) rfl (hb hby at_110) rfl ((if0 _ _).trans (teq (by decide)).1) (by decide) (by decide) ?_
    refine XS.iconst X388.here hx rfl (hb hby at_122) ?_
    refine XS.istore X388.here hx rfl (hb hby at_123) rfl (l' := l390) rfl ?_
    refine XS.iload X388.here hx rfl (hb hby at_125) rfl ?_
    refine XS.ifYes X388.here hx rfl (pc0 := 127) (pc' := 147) rfl (hb hby at_127) rfl ((if0 _ _).trans (teq (by decide)).1) (by decide) (by decide) ?_
    refine XS.iload X388.here hx rfl (hb hby at_147) rfl ?_
    refine XS.ifNo X388.here hx rfl (hb hby at_149) rfl ((if0 _ _).trans (tlt (by decide)).2.2.2) ?_
    refine XS.aload X388.here hx rfl (hb hby at_152) rfl rfl ?_
    refine XS.iload X388.here hx rfl (hb hby at_154) rfl ?_
    refine XS.iload X388.here hx rfl (hb hby at_156) rfl ?_
    exact hq)
   obtain ⟨cl392, Ar392, q392, S392, M392, G392, J392⟩ := id V388
   obtain ⟨T392, h392, X392, e392, W392, st392⟩ := stC X388 hx hZ e388 Ar392 (j := (0 : Int32)) (inb_of S392 (⟨by decide, by decide⟩)) (g := (mkF m 158 l390 [(.int (p2 &&& (255 : Int32))), (.int 0), (.ref b388)])) rfl rfl (hb hby at_158)
   have k392 : AtQ p e below S0 T392 m 159 l390 [] := fun tt hq => k391 tt (st392 tt hq)
   have z392 : h392.size = h388.size := W392.size
   have C392 := C388.trans (CHr.wr W392 (Safe.arv hZ.alike V388 (by decide)) C388.1)
   rw [own_narc (own_m255 _)] at W392
   have V392 : Arv Z h392 b388 c388 .char (2 : Int32) [(.int (p2 &&& (255 : Int32))), (.int 0)] (.int 0) := Arv.set Ar392 q392 S392 M392 G392 J392 (own_fitc (own_m255 _)) W392 0 rfl (Nat.le_of_ble_eq_true rfl)
   have N392 := Fr.snoc X392 N373 (by omega : n0 ≤ b388)
   have k393 : AtQ p e below S0 T392 m 173 l390 [(.int v381), (.int 1), (.ref b388)] := fun tt hq => k392 tt (by
    refine XS.iload X392.here hx rfl (hb hby at_159) rfl ?_
    refine XS.iconst X392.here hx rfl (hb hby at_161) ?_
    refine XS.icmpNo X392.here hx rfl (hb hby at_162) rfl (tlt (by decide)).2.2.2 ?_
    refine XS.aload X392.here hx rfl (hb hby at_165) rfl rfl ?_
    refine XS.iload X392.here hx rfl (hb hby at_167) rfl ?_
    refine XS.iconst X392.here hx rfl (hb hby at_169) ?_
    refine XS.iadd X392.here hx rfl (hb hby at_170) rfl ?_
    refine XS.iload X392.here hx rfl (hb hby at_171) rfl ?_
    exact hq)
   obtain ⟨cl394, Ar394, q394, S394, M394, G394, J394⟩ := id V392
   obtain ⟨T394, h394, X394, e394, W394, st394⟩ := stC X392 hx hZ e392 Ar394 (j := (1 : Int32)) (inb_of S394 (⟨by decide, by decide⟩)) (g := (mkF m 173 l390 [(.int v381), (.int 1), (.ref b388)])) rfl rfl (hb hby at_173)
   have k394 : AtQ p e below S0 T394 m 174 l390 [] := fun tt hq => k393 tt (st394 tt hq)
   have z394 : h394.size = h392.size := W394.size
   have C394 := C392.trans (CHr.wr W394 (Safe.arv hZ.alike V392 (by decide)) C392.1)
   rw [own_narc mv381] at W394
   have V394 : Arv Z h394 b388 c388 .char (2 : Int32) [(.int (p2 &&& (255 : Int32))), (.int v381)] (.int 0) := Arv.set Ar394 q394 S394 M394 G394 J394 (own_fitc mv381) W394 1 rfl (Nat.le_of_ble_eq_true rfl)
   have N394 := Fr.snoc X394 N392 (by omega : n0 ≤ b388)
   have k395 : AtQ p e below S0 T394 m 215 l390 [] := fun tt hq => k394 tt (by
    refine XS.iload X394.here hx rfl (hb hby at_174) rfl ?_
    refine XS.iconst X394.here hx rfl (hb hby at_176) ?_
    refine XS.icmpYes X394.here hx rfl (pc0 := 177) (pc' := 189) rfl (hb hby at_177) rfl (flt (by decide)).2.2.2 (by decide) (by decide) ?_
    refine XS.iload X394.here hx rfl (hb hby at_189) rfl ?_
    refine XS.ifYes X394.here hx rfl (pc0 := 191) (pc' := 215) rfl (hb hby at_191) rfl ((if0 _ _).trans (teq (by decide)).1) (by decide) (by decide) ?_
    exact hq)
   obtain ⟨T396, h396, X396, e396, E396, A396, D396, -, st396⟩ := newO X394 hx hZ hown (wq hw 7 rfl) (wq hw 8 rfl) (wq hw 9 rfl) e394 (g := (mkF m 215 l390 [])) rfl (hb hby at_215) (by decide) (by decide)
   obtain ⟨b396, g396⟩ : ∃ z, z = h394.size := ⟨_, rfl⟩
   rw [← g396] at A396 D396 st396
   have k396 : AtQ p e below S0 T396 m 218 l390 [(.ref b396)] := fun tt hq => k395 tt (st396 tt hq)
   have z396 : h394.size ≤ h396.size := E396.1
   have y396 : @LT.lt Nat instLTNat b396 h396.size := A396.lt
   have C396 := C394.trans (CHr.ext E396 C394.1)
   have F396_line : FqH Z h396 b396 (.int 0) := D396 (Or.inl (wq hw 82 rfl)) (ty := .int) (by decide)
   have F396_column : FqI Z h396 b396 (.int 0) := D396 (Or.inl (wq hw 84 rfl)) (ty := .int) (by decide)
   have F396_source : FqE Z h396 b396 .null := D396 (Or.inr (wq hw 86 rfl)) (ty := (.object "com/example/ceruline/ceruline/source/SourceFile")) (by decide)
   have F396_text : FqF Z h396 b396 .null := D396 (Or.inr (wq hw 93 rfl)) (ty := (.object "java/lang/String")) (by decide)
   have F396_offset : FqG Z h396 b396 (.int 0) := D396 (Or.inl (wq hw 100 rfl)) (ty := .int) (by decide)
   have k397 : AtQ p e below S0 T396 m 219 l390 [(.ref b396), (.ref b396)] := fun tt hq => k396 tt (by
    refine XS.dup X396.here hx rfl (hb hby at_218) rfl rfl ?_
    exact hq)
   obtain ⟨T398, h398, X398, e398, E398, A398, D398, -, st398⟩ := newO X396 hx hZ hown (wq hw 10 rfl) (wq hw 11 rfl) (wq hw 12 rfl) e396 (g := (mkF m 219 l390 [(.ref b396), (.ref b396)])) rfl (hb hby at_219) (by decide) (by decide)
   obtain ⟨b398, g398⟩ : ∃ z, z = h396.size := ⟨_, rfl⟩
   rw [← g398] at A398 D398 st398
   have k398 : AtQ p e below S0 T398 m 222 l390 [(.ref b398), (.ref b396), (.ref b396)] := fun tt hq => k397 tt (st398 tt hq)
   have z398 : h396.size ≤ h398.size := E398.1
   have y398 : @LT.lt Nat instLTNat b398 h398.size := A398.lt
   have C398 := C396.trans (CHr.ext E398 C396.1)
   have F398_name : FqC Z h398 b398 .null := D398 (Or.inr (wq hw 74 rfl)) (ty := (.object "java/lang/String")) (by decide)
   have F398_text : FqD Z h398 b398 .null := D398 (Or.inr (wq hw 76 rfl)) (ty := (.object "java/lang/String")) (by decide)
   have k399 : AtQ p e below S0 T398 m 223 l390 [(.ref b398), (.ref b398), (.ref b396), (.ref b396)] := fun tt hq => k398 tt (by
    refine XS.dup X398.here hx rfl (hb hby at_222) rfl rfl ?_
    exact hq)
   obtain ⟨a400, T400, h400, kk400, b400, c400, X400, e400, E400, hS400, hk400, hZ400a, hown400a, A400, Fc400, Fv400, V400, ya400, yb400, Cq400, -, hne400, st400⟩ := ldcCH X398 hx hZ hown (wq hw 13 rfl) (own_wS hw) e398 hS0 (by omega) (own_EW hw) (List.mem_of_getElem? (i := 0) rfl) C398.1 (vs := [(.int 102)]) (z := (1 : Int32)) ⟨by decide, by decide⟩ (by decide) (by decide) (g := (mkF m 223 l390 [(.ref b398), (.ref b398), (.ref b396), (.ref b396)])) rfl (hb hby at_223) (n := 4) (by decide) (by decide) (by decide) (by decide)
   have k400 : AtQ p e below S0 T400 m 225 l390 [(.ref a400), (.ref b398), (.ref b398), (.ref b396), (.ref b396)] := fun tt hq => k399 tt (st400 tt hq)
   have hZ400 : Z.Warmed39 T400.vm := hZ400a
   have hown400 : T400.vm.findClass "com/example/ceruline/ceruline/parsing/SourceReaderAtEndPinLaw" = some m.cls := hown400a
   have z400 : h398.size ≤ h400.size := E400.1
   have C400 := C398.trans Cq400
   obtain ⟨T401, h401, X401, e401, E401, A401, D401, -, st401⟩ := newO X400 hx hZ400 hown400 (wq hw 21 rfl) (wq hw 15 rfl) (wq hw 14 rfl) e400 (g := (mkF m 225 l390 [(.ref a400), (.ref b398), (.ref b398), (.ref b396), (.ref b396)])) rfl (hb hby at_225) (by decide) (by decide)
   obtain ⟨b401, g401⟩ : ∃ z, z = h400.size := ⟨_, rfl⟩
   rw [← g401] at A401 D401 st401
   have k401 : AtQ p e below S0 T401 m 228 l390 [(.ref b401), (.ref a400), (.ref b398), (.ref b398), (.ref b396), (.ref b396)] := fun tt hq => k400 tt (st401 tt hq)
   have z401 : h400.size ≤ h401.size := E401.1
   have y401 : @LT.lt Nat instLTNat b401 h401.size := A401.lt
   have C401 := C400.trans (CHr.ext E401 C400.1)
   have Sf401 : Safe Z own_EL T400.vm h401 b401 := Safe.ext E401 C400.1 (Safe.new (by omega))
   have F401_value : FqA Z h401 b401 .null := D401 (Or.inr (wq hw 17 rfl)) (ty := (.array .byte)) (by decide)
   have F401_coder : FqB Z h401 b401 (.int 0) := D401 (Or.inr (wq hw 18 rfl)) (ty := .byte) (by decide)
   have k402 : AtQ p e below S0 T401 m 231 l390 [(.ref b388), (.ref b401), (.ref b401), (.ref a400), (.ref b398), (.ref b398), (.ref b396), (.ref b396)] := fun tt hq => k401 tt (by
    refine XS.dup X401.here hx rfl (hb hby at_228) rfl rfl ?_
    refine XS.aload X401.here hx rfl (hb hby at_229) rfl rfl ?_
    exact hq)
   have f403 : Arv Z h401 b388 c388 .char (2 : Int32) [(.int (p2 &&& (255 : Int32))), (.int v381)] (.int 0) := ((((V394.ext E396).ext E398).ext E400).ext E401)
   have f404 : Old Z n0 h401 := (((((((O0.ext E388).wr W392 (by omega)).wr W394 (by omega)).ext E396).ext E398).ext E400).ext E401)
   obtain ⟨_, T405, L405, X405, ⟨rfl, Nq405, Kq405, t405, kt405, gt405, P4050, P4051, P4052, P4053⟩, k405a⟩ := callC' X401 hx hZ400 (y := yqD) rfl hown400 (wq hw 22 rfl) (wq hw 23 rfl) (wq hw 24 rfl) (by decide) (backC (W := 6) (rm_n1u0 l Z a0 hw zc b401 b388 (2 : Int32) (2 : Int32) _ .null (.int 0) c388 _ h401 n0 (by omega) S_c hzc f404 A401 F401_value F401_coder (by omega) (by omega) (by decide) (by decide) (rm_c3_2 l Z a0 hw b388 c388 (p2 &&& (255 : Int32)) v381 h401 n0 (by omega) f403 (by omega) (own_m255 _) mv381) f403) hZ400 (wq hw 24 rfl) (wq hw 14 rfl) (by decide) (by decide)) e401 (argsL := [(.ref b388)]) (rest := [(.ref b401), (.ref a400), (.ref b398), (.ref b398), (.ref b396), (.ref b396)]) rfl rfl pd_10 rfl (by rw [hml]; rfl) (hb hby at_231) (Nat.le_of_eq rfl) (by decide) (by decide) k402
   have k405 : AtQ p e below S0 T405 m 234 l390 [(.ref b401), (.ref a400), (.ref b398), (.ref b398), (.ref b396), (.ref b396)] := k405a
   have N405 := N394.app Nq405
   obtain ⟨h405, e405⟩ : ∃ z, T405.heap = z := ⟨_, rfl⟩
   rw [e405] at Kq405 P4050 P4051 P4052 P4053
   have z405 : h401.size ≤ h405.size := Kq405.1
   have C405 := C401.trans (CHr.keep Kq405 (sfS Sf401 sf0) C401.1)
   have y405 : @LT.lt Nat instLTNat t405 h405.size := P4053.lt
   have f406 : Exa Z h405 b398 "com/example/ceruline/ceruline/source/SourceFile" := (((A398.ext E400).ext E401).keep Kq405)
   have f407 : FqC Z h405 b398 .null := (((F398_name.ext E400).ext E401).keep Kq405 (nin1 (by omega)))
   have f408 : FqD Z h405 b398 .null := (((F398_text.ext E400).ext E401).keep Kq405 (nin1 (by omega)))
   obtain ⟨_, T409, L409, X409, ⟨rfl, Nq409, Kq409, P4090, P4091, P4092⟩, k409a⟩ := callC' X405 hx hZ400 (y := yqM) rfl hown400 (wq hw 64 rfl) (wq hw 65 rfl) (wq hw 66 rfl) (by decide) (backC (W := 3) (rm_sfi l Z a0 hw b398 a400 b401 h405 n0 (by omega) f406 f407 f408 (by omega)) hZ400 (wq hw 66 rfl) (wq hw 12 rfl) (by decide) (by decide)) e405 (argsL := [(.ref a400), (.ref b401)]) (rest := [(.ref b398), (.ref b396), (.ref b396)]) rfl rfl pd_11 rfl (by rw [hml]; rfl) (hb hby at_234) (Nat.le_of_eq rfl) (by decide) (by decide) k405
   have k409 : AtQ p e below S0 T409 m 237 l390 [(.ref b398), (.ref b396), (.ref b396)] := k409a
   have N409 := N405.app Nq409
   obtain ⟨h409, e409⟩ : ∃ z, T409.heap = z := ⟨_, rfl⟩
   rw [e409] at Kq409 P4090 P4091 P4092
   have z409 : h405.size ≤ h409.size := Kq409.1
   have C409 := C405.trans (CHr.keep Kq409 (sfS (Safe.exa hZ400.alike f406 (by decide) (by decide)) sf0) C405.1)
   have f410 : Exa Z h409 b396 "com/example/ceruline/ceruline/parsing/SourceReader" := (((((A396.ext E398).ext E400).ext E401).keep Kq405).keep Kq409)
   have f411 : FqE Z h409 b396 .null := (((((F396_source.ext E398).ext E400).ext E401).keep Kq405 (nin1 (by omega))).keep Kq409 (nin1 (by omega)))
   have f412 : FqF Z h409 b396 .null := (((((F396_text.ext E398).ext E400).ext E401).keep Kq405 (nin1 (by omega))).keep Kq409 (nin1 (by omega)))
   have f413 : FqG Z h409 b396 (.int 0) := (((((F396_offset.ext E398).ext E400).ext E401).keep Kq405 (nin1 (by omega))).keep Kq409 (nin1 (by omega)))
   have f414 : FqH Z h409 b396 (.int 0) := (((((F396_line.ext E398).ext E400).ext E401).keep Kq405 (nin1 (by omega))).keep Kq409 (nin1 (by omega)))
   have f415 : FqI Z h409 b396 (.int 0) := (((((F396_column.ext E398).ext E400).ext E401).keep Kq405 (nin1 (by omega))).keep Kq409 (nin1 (by omega)))
   obtain ⟨_, T416, L416, X416, ⟨rfl, Nq416, Kq416, P416_0, P416_1, P416_2, P416_3, P416_4, P416_5⟩, k416a⟩ := callC' X409 hx hZ400 (y := yqO) rfl hown400 (wq hw 77 rfl) (wq hw 78 rfl) (wq hw 79 rfl) (by decide) (backC (W := 1) (rm_sri l Z a0 hw b396 b398 b401 h409 n0 (by omega) f410 f411 f412 f413 f414 f415 P4090 P4092 (by omega) (by omega)) hZ400 (wq hw 79 rfl) (wq hw 9 rfl) (by decide) (by decide)) e409 (argsL := [(.ref b398)]) (rest := [(.ref b396)]) rfl rfl pd_12 rfl (by rw [hml]; rfl) (hb hby at_237) (Nat.le_of_eq rfl) (by decide) (by decide) k409
   have k416 : AtQ p e below S0 T416 m 240 l390 [(.ref b396)] := k416a
   have N416 := N409.app Nq416
   obtain ⟨h416, e416⟩ : ∃ z, T416.heap = z := ⟨_, rfl⟩
   rw [e416] at Kq416 P416_0 P416_1 P416_2 P416_3 P416_4 P416_5
   have z416 : h409.size ≤ h416.size := Kq416.1
   have C416 := C409.trans (CHr.keep Kq416 (sfS (Safe.exa hZ400.alike f410 (by decide) (by decide)) sf0) C409.1)
   let l417 : Array Slot := #[(vi p0), (vi p1), (vi p2), (vi p3), (vi 2), (vi 0), (vi v368), (vi 2), (vi 2), (vi v374), (vi (p2 &&& (255 : Int32))), (vi v381), (vi v385), (vr b388), (vi 0), (vr b396), .unset, .unset]
   have k418 : AtQ p e below S0 T416 m 242 l417 [] := fun tt hq => k416 tt (by
    refine XS.astore X416.here hx rfl (hb hby at_240) rfl rfl (l' := l417) rfl ?_
    exact hq)
   have f419 : Exa Z h416 b401 "java/lang/String" := ((P4050.keep Kq409).keep Kq416)
   have f420 : FqA Z h416 b401 (.ref t405) := ((P4051.keep Kq409 (nin1 (by omega))).keep Kq416 (nin1 (by omega)))
   have f421 : FqB Z h416 b401 (.int 0) := ((P4052.keep Kq409 (nin1 (by omega))).keep Kq416 (nin1 (by omega)))
   have f422 : Arv Z h416 t405 kt405 .byte (2 : Int32) [(.int (nar .byte ((p2 &&& (255 : Int32)).toInt8.toInt32))), (.int (nar .byte (v381.toInt8.toInt32)))] (.int 0) := ((P4053.keep Kq409 (nin1 (by omega))).keep Kq416 (nin1 (by omega)))
   have f423 : Old Z n0 h416 := (((f404.keep Kq405 (allS (by omega) all0)).keep Kq409 (allS (by omega) all0)).keep Kq416 (allS (by omega) all0))
   exact sec_m2 (cd := (0 : Int32)) (o0 := (0 : Int32)) (o1 := (1 : Int32)) (o2 := (2 : Int32)) hw hx hby hml hret hlk hnm hown400 hZ400 X416 e416 k418 N416 C416 hS400 (by omega) (by omega) (by decide) (by decide) S_c hzc P416_0 P416_1 P416_2 P416_3 P416_4 P416_5 f419 f420 f421 f422 f423 rfl (by decide) (by decide) (by decide) (by rw [hv374]; exact own_k2 _) (by omega) (by omega) (by omega) (fun H xl xc hn g10 g0 g1 g2 g3 g4 g5 g6 g7 g8 g9 => rm_adv1 l Z a0 hw b396 b398 b401 (0 : Int32) xl xc ((nar .byte ((p2 &&& (255 : Int32)).toInt8.toInt32)) &&& (255 : Int32)) (1 : Int32) H n0 (by omega) g0 g1 g2 g3 g4 g5 g6 (by omega) (rm_cp2_0 l Z a0 hw zc fm b401 t405 kt405 (nar .byte ((p2 &&& (255 : Int32)).toInt8.toInt32)) (nar .byte (v381.toInt8.toInt32)) H n0 (by omega) S_c hzc S_f hfm g10 g6 g7 g8 g9) (own_small _) (by decide)) (fun H xl xc hn g10 g0 g1 g2 g3 g4 g5 g6 g7 g8 g9 => rm_adv1 l Z a0 hw b396 b398 b401 (1 : Int32) xl xc ((nar .byte (v381.toInt8.toInt32)) &&& (255 : Int32)) (2 : Int32) H n0 (by omega) g0 g1 g2 g3 g4 g5 g6 (by omega) (rm_cp2_1 l Z a0 hw zc fm b401 t405 kt405 (nar .byte ((p2 &&& (255 : Int32)).toInt8.toInt32)) (nar .byte (v381.toInt8.toInt32)) H n0 (by omega) S_c hzc S_f hfm g10 g6 g7 g8 g9) (own_small _) (by decide))
  ·
   let l424 : Array Slot := #[(vi p0), (vi p1), (vi p2), (vi p3), (vi 2), (vi 1), .unset, .unset, .unset, .unset, .unset, .unset, .unset, .unset, .unset, .unset, .unset, .unset]
   have k425 : AtQ p e below S0 s₁ m 21 l424 [(.int (p3 &&& (2 : Int32)))] := fun tt hq => k360 tt (by
    refine XS.ifNo X0.here hx rfl (hb hby at_8) rfl ((if0 _ _).trans (feq hc8_361).1) ?_
    refine XS.iconst X0.here hx rfl (hb hby at_11) ?_
    refine XS.goto X0.here hx rfl (pc0 := 12) (pc' := 16) rfl (hb hby at_12) (by decide) (by decide) ?_
    refine XS.istore X0.here hx rfl (hb hby at_16) rfl (l' := l424) rfl ?_
    refine XS.iloadN X0.here hx rfl (hb hby at_18) rfl ?_
    refine XS.iconst X0.here hx rfl (hb hby at_19) ?_
    refine XS.iand X0.here hx rfl (hb hby at_20) rfl ?_
    exact hq)
   by_cases hc21_426 : (p3 &&& (2 : Int32)) = (0 : Int32)
   ·
    let l427 : Array Slot := #[(vi p0), (vi p1), (vi p2), (vi p3), (vi 2), (vi 1), (vi 0), .unset, .unset, .unset, .unset, .unset, .unset, .unset, .unset, .unset, .unset, .unset]
    let l428 : Array Slot := #[(vi p0), (vi p1), (vi p2), (vi p3), (vi 2), (vi 1), (vi 0), (vi 4), .unset, .unset, .unset, .unset, .unset, .unset, .unset, .unset, .unset, .unset]
    let l429 : Array Slot := #[(vi p0), (vi p1), (vi p2), (vi p3), (vi 2), (vi 1), (vi 0), (vi 4), (vi 3), .unset, .unset, .unset, .unset, .unset, .unset, .unset, .unset, .unset]
    have k430 : AtQ p e below S0 s₁ m 67 l429 [(.int 3), (.int (p1 &&& (7 : Int32)))] := fun tt hq => k425 tt (by
     refine XS.ifYes X0.here hx rfl (pc0 := 21) (pc' := 28) rfl (hb hby at_21) rfl ((if0 _ _).trans (teq hc21_426).1) (by decide) (by decide) ?_
     refine XS.iconst X0.here hx rfl (hb hby at_28) ?_
     refine XS.istore X0.here hx rfl (hb hby at_29) rfl (l' := l427) rfl ?_
     refine XS.iload X0.here hx rfl (hb hby at_31) rfl ?_
     refine XS.iload X0.here hx rfl (hb hby at_33) rfl ?_
     refine XS.ifNo X0.here hx rfl (hb hby at_35) rfl ((if0 _ _).trans (feq (by decide)).1) ?_
     refine XS.iconst X0.here hx rfl (hb hby at_38) ?_
     refine XS.goto X0.here hx rfl (pc0 := 39) (pc' := 43) rfl (hb hby at_39) (by decide) (by decide) ?_
     refine XS.iadd X0.here hx rfl (hb hby at_43) rfl ?_
     refine XS.istore X0.here hx rfl (hb hby at_44) rfl (l' := l428) rfl ?_
     refine XS.iload X0.here hx rfl (hb hby at_46) rfl ?_
     refine XS.iload X0.here hx rfl (hb hby at_48) rfl ?_
     refine XS.ifNo X0.here hx rfl (hb hby at_50) rfl ((if0 _ _).trans (feq (by decide)).1) ?_
     refine XS.iconst X0.here hx rfl (hb hby at_53) ?_
     refine XS.goto X0.here hx rfl (pc0 := 54) (pc' := 58) rfl (hb hby at_54) (by decide) (by decide) ?_
     refine XS.iadd X0.here hx rfl (hb hby at_58) rfl ?_
     refine XS.istore X0.here hx rfl (hb hby at_59) rfl (l' := l429) rfl ?_
     refine XS.iloadN X0.here hx rfl (hb hby at_61) rfl ?_
     refine XS.bipush X0.here hx rfl (hb hby at_62) ?_
     refine XS.iand X0.here hx rfl (hb hby at_64) rfl ?_
     refine XS.iload X0.here hx rfl (hb hby at_65) rfl ?_
     exact hq)
    obtain ⟨_, T431, L431, X431, ⟨rfl, Nq431, eq431⟩, k431a⟩ := callS' X0 hx hZ (y := yqK) hown (wq hw 0 rfl) (wq hw 1 rfl) (wq hw 2 rfl) (wq hw 3 rfl) (by decide) (backC (W := 0) (rm_min l Z a0 hw (p1 &&& (7 : Int32)) (3 : Int32) (if (3 : Int32) < (p1 &&& (7 : Int32)) then (3 : Int32) else (p1 &&& (7 : Int32))) h0 n0 (by omega) rfl) hZ (wq hw 3 rfl) (wq hw 2 rfl) (by decide) (by decide)) e0 (argsL := [(.int (p1 &&& (7 : Int32))), (.int 3)]) (rest := []) rfl rfl pd_9 rfl (by rw [hml]; rfl) (hb hby at_67) (Nat.le_of_eq rfl) (by decide) (by decide) k430
    have k431 : AtQ p e below S0 T431 m 70 l429 [(.int (if (3 : Int32) < (p1 &&& (7 : Int32)) then (3 : Int32) else (p1 &&& (7 : Int32))))] := k431a
    have N431 := N0.app Nq431
    have e431 : T431.heap = h0 := eq431
    obtain ⟨v432, hv432⟩ : ∃ z : Int32, z = (if (3 : Int32) < (p1 &&& (7 : Int32)) then (3 : Int32) else (p1 &&& (7 : Int32))) := ⟨_, rfl⟩
    have k432 : AtQ p e below S0 T431 m 70 l429 [(.int v432)] := by rw [hv432]; exact k431
    let l433 : Array Slot := #[(vi p0), (vi p1), (vi p2), (vi p3), (vi 2), (vi 1), (vi 0), (vi 4), (vi 3), (vi v432), .unset, .unset, .unset, .unset, .unset, .unset, .unset, .unset]
    have k434 : AtQ p e below S0 T431 m 78 l433 [(.int ((p2 &&& (255 : Int32)).toUInt32.toUInt16.toUInt32.toInt32))] := fun tt hq => k432 tt (by
     refine XS.istore X431.here hx rfl (hb hby at_70) rfl (l' := l433) rfl ?_
     refine XS.iloadN X431.here hx rfl (hb hby at_72) rfl ?_
     refine XS.sipush X431.here hx rfl (hb hby at_73) ?_
     refine XS.iand X431.here hx rfl (hb hby at_76) rfl ?_
     refine XS.i2c X431.here hx rfl (hb hby at_77) rfl ?_
     exact hq)
    have k435 : AtQ p e below S0 T431 m 78 l433 [(.int (p2 &&& (255 : Int32)))] := by have hq := k434; rw [i2c_mask] at hq; exact hq
    let l436 : Array Slot := #[(vi p0), (vi p1), (vi p2), (vi p3), (vi 2), (vi 1), (vi 0), (vi 4), (vi 3), (vi v432), (vi (p2 &&& (255 : Int32))), .unset, .unset, .unset, .unset, .unset, .unset, .unset]
    have k437 : AtQ p e below S0 T431 m 89 l436 [(.int ((((p2.toUInt32 >>> ((8 : Int32) &&& 31).toUInt32).toInt32) &&& (255 : Int32)).toUInt32.toUInt16.toUInt32.toInt32))] := fun tt hq => k435 tt (by
     refine XS.istore X431.here hx rfl (hb hby at_78) rfl (l' := l436) rfl ?_
     refine XS.iloadN X431.here hx rfl (hb hby at_80) rfl ?_
     refine XS.bipush X431.here hx rfl (hb hby at_81) ?_
     refine XS.iushr X431.here hx rfl (hb hby at_83) rfl ?_
     refine XS.sipush X431.here hx rfl (hb hby at_84) ?_
     refine XS.iand X431.here hx rfl (hb hby at_87) rfl ?_
     refine XS.i2c X431.here hx rfl (hb hby at_88) rfl ?_
     exact hq)
    have k438 : AtQ p e below S0 T431 m 89 l436 [(.int (((p2.toUInt32 >>> ((8 : Int32) &&& 31).toUInt32).toInt32) &&& (255 : Int32)))] := by have hq := k437; rw [i2c_mask] at hq; exact hq
    obtain ⟨v439, hv439⟩ : ∃ z : Int32, z = (((p2.toUInt32 >>> ((8 : Int32) &&& 31).toUInt32).toInt32) &&& (255 : Int32)) := ⟨_, rfl⟩
    have k439 : AtQ p e below S0 T431 m 89 l436 [(.int v439)] := by rw [hv439]; exact k438
    have mv439 : ¬ v439 < (0 : Int32) ∧ ¬ (255 : Int32) < v439 := by rw [hv439]; exact own_m255 _
    let l440 : Array Slot := #[(vi p0), (vi p1), (vi p2), (vi p3), (vi 2), (vi 1), (vi 0), (vi 4), (vi 3), (vi v432), (vi (p2 &&& (255 : Int32))), (vi v439), .unset, .unset, .unset, .unset, .unset, .unset]
    have k441 : AtQ p e below S0 T431 m 100 l440 [(.int ((((p2.toUInt32 >>> ((16 : Int32) &&& 31).toUInt32).toInt32) &&& (255 : Int32)).toUInt32.toUInt16.toUInt32.toInt32))] := fun tt hq => k439 tt (by
     refine XS.istore X431.here hx rfl (hb hby at_89) rfl (l' := l440) rfl ?_
     refine XS.iloadN X431.here hx rfl (hb hby at_91) rfl ?_
     refine XS.bipush X431.here hx rfl (hb hby at_92) ?_
     refine XS.iushr X431.here hx rfl (hb hby at_94) rfl ?_
     refine XS.sipush X431.here hx rfl (hb hby at_95) ?_
     refine XS.iand X431.here hx rfl (hb hby at_98) rfl ?_
     refine XS.i2c X431.here hx rfl (hb hby at_99) rfl ?_
     exact hq)
    have k442 : AtQ p e below S0 T431 m 100 l440 [(.int (((p2.toUInt32 >>> ((16 : Int32) &&& 31).toUInt32).toInt32) &&& (255 : Int32)))] := by have hq := k441; rw [i2c_mask] at hq; exact hq
    obtain ⟨v443, hv443⟩ : ∃ z : Int32, z = (((p2.toUInt32 >>> ((16 : Int32) &&& 31).toUInt32).toInt32) &&& (255 : Int32)) := ⟨_, rfl⟩
    have k443 : AtQ p e below S0 T431 m 100 l440 [(.int v443)] := by rw [hv443]; exact k442
    have mv443 : ¬ v443 < (0 : Int32) ∧ ¬ (255 : Int32) < v443 := by rw [hv443]; exact own_m255 _
    let l444 : Array Slot := #[(vi p0), (vi p1), (vi p2), (vi p3), (vi 2), (vi 1), (vi 0), (vi 4), (vi 3), (vi v432), (vi (p2 &&& (255 : Int32))), (vi v439), (vi v443), .unset, .unset, .unset, .unset, .unset]
    have k445 : AtQ p e below S0 T431 m 104 l444 [(.int 4)] := fun tt hq => k443 tt (by
     refine XS.istore X431.here hx rfl (hb hby at_100) rfl (l' := l444) rfl ?_
     refine XS.iload X431.here hx rfl (hb hby at_102) rfl ?_
     exact hq)
    obtain ⟨T446, h446, c446, X446, e446, E446, A446, st446⟩ := newP X431 hx hZ (wq hw 4 rfl) e431 (g := (mkF m 104 l444 [(.int 4)])) rfl (hb hby at_104) rfl (by decide) (cap := 4) (by decide) (by decide) (by decide) (by decide)
    obtain ⟨b446, g446⟩ : ∃ z, z = h0.size := ⟨_, rfl⟩
    rw [← g446] at A446 st446
    have k446 : AtQ p e below S0 T446 m 106 l444 [(.ref b446)] := fun tt hq => k445 tt (st446 tt hq)
    have z446 : h0.size ≤ h446.size := E446.1
    have C446 := C0.trans (CHr.ext E446 C0.1)
    have V446 : Arv Z h446 b446 c446 .char (4 : Int32) [(.int 0), (.int 0), (.int 0), (.int 0)] (.int 0) := (Arv.new A446 (by decide)).pad (pad_rep [] (.int 0) 4)
    have y446 : @LT.lt Nat instLTNat b446 h446.size := V446.lt
    let l447 : Array Slot := #[(vi p0), (vi p1), (vi p2), (vi p3), (vi 2), (vi 1), (vi 0), (vi 4), (vi 3), (vi v432), (vi (p2 &&& (255 : Int32))), (vi v439), (vi v443), (vr b446), .unset, .unset, .unset, .unset]
    let l448 : Array Slot := #[(vi p0), (vi p1), (vi p2), (vi p3), (vi 2), (vi 1), (vi 0), (vi 4), (vi 3), (vi v432), (vi (p2 &&& (255 : Int32))), (vi v439), (vi v443), (vr b446), (vi 0), .unset, .unset, .unset]
    have k449 : AtQ p e below S0 T446 m 158 l448 [(.int (p2 &&& (255 : Int32))), (.int 0), (.ref b446)] := fun tt hq => k446 tt (by
     refine XS.astore X446.here hx rfl (hb hby at_106) rfl rfl (l' := l447) rfl ?_
     refine XS.iload X446.here hx rfl (hb hby at_108) rfl ?_
     refine XS.ifNo X446.here hx rfl (hb hby at_110) rfl ((if0 _ _).trans (feq (by decide)).1) ?_
     refine XS.iload X446.here hx rfl (hb hby at_113) rfl ?_
     refine XS.ifYes X446.here hx rfl (pc0 := 115) (pc' := 122) rfl (hb hby at_115) rfl ((if0 _ _).trans (teq (by decide)).1) (by decide) (by decide) ?_
     refine XS.iconst X446.here hx rfl (hb hby at_122) ?_
     refine XS.istore X446.here hx rfl (hb hby at_123) rfl (l' := l448) rfl ?_
     refine XS.iload X446.here hx rfl (hb hby at_125) rfl ?_
     refine XS.ifNo X446.here hx rfl (hb hby at_127) rfl ((if0 _ _).trans (feq (by decide)).1) ?_
     refine XS.iload X446.here hx rfl (hb hby at_130) rfl ?_
     refine XS.ifYes X446.here hx rfl (pc0 := 132) (pc' := 147) rfl (hb hby at_132) rfl ((if0 _ _).trans (teq (by decide)).1) (by decide) (by decide) ?_
     refine XS.iload X446.here hx rfl (hb hby at_147) rfl ?_
     refine XS.ifNo X446.here hx rfl (hb hby at_149) rfl ((if0 _ _).trans (tlt (by decide)).2.2.2) ?_
     refine XS.aload X446.here hx rfl (hb hby at_152) rfl rfl ?_
     refine XS.iload X446.here hx rfl (hb hby at_154) rfl ?_
     refine XS.iload X446.here hx rfl (hb hby at_156) rfl ?_
     exact hq)
    obtain ⟨cl450, Ar450, q450, S450, M450, G450, J450⟩ := id V446
    obtain ⟨T450, h450, X450, e450, W450, st450⟩ := stC X446 hx hZ e446 Ar450 (j := (0 : Int32)) (inb_of S450 (⟨by decide, by decide⟩)) (g := (mkF m 158 l448 [(.int (p2 &&& (255 : Int32))), (.int 0), (.ref b446)])) rfl rfl (hb hby at_158)
    have k450 : AtQ p e below S0 T450 m 159 l448 [] := fun tt hq => k449 tt (st450 tt hq)
    have z450 : h450.size = h446.size := W450.size
    have C450 := C446.trans (CHr.wr W450 (Safe.arv hZ.alike V446 (by decide)) C446.1)
    rw [own_narc (own_m255 _)] at W450
    have V450 : Arv Z h450 b446 c446 .char (4 : Int32) [(.int (p2 &&& (255 : Int32))), (.int 0), (.int 0), (.int 0)] (.int 0) := Arv.set Ar450 q450 S450 M450 G450 J450 (own_fitc (own_m255 _)) W450 0 rfl (Nat.le_of_ble_eq_true rfl)
    have N450 := Fr.snoc X450 N431 (by omega : n0 ≤ b446)
    have k451 : AtQ p e below S0 T450 m 173 l448 [(.int v439), (.int 1), (.ref b446)] := fun tt hq => k450 tt (by
     refine XS.iload X450.here hx rfl (hb hby at_159) rfl ?_
     refine XS.iconst X450.here hx rfl (hb hby at_161) ?_
     refine XS.icmpNo X450.here hx rfl (hb hby at_162) rfl (tlt (by decide)).2.2.2 ?_
     refine XS.aload X450.here hx rfl (hb hby at_165) rfl rfl ?_
     refine XS.iload X450.here hx rfl (hb hby at_167) rfl ?_
     refine XS.iconst X450.here hx rfl (hb hby at_169) ?_
     refine XS.iadd X450.here hx rfl (hb hby at_170) rfl ?_
     refine XS.iload X450.here hx rfl (hb hby at_171) rfl ?_
     exact hq)
    obtain ⟨cl452, Ar452, q452, S452, M452, G452, J452⟩ := id V450
    obtain ⟨T452, h452, X452, e452, W452, st452⟩ := stC X450 hx hZ e450 Ar452 (j := (1 : Int32)) (inb_of S452 (⟨by decide, by decide⟩)) (g := (mkF m 173 l448 [(.int v439), (.int 1), (.ref b446)])) rfl rfl (hb hby at_173)
    have k452 : AtQ p e below S0 T452 m 174 l448 [] := fun tt hq => k451 tt (st452 tt hq)
    have z452 : h452.size = h450.size := W452.size
    have C452 := C450.trans (CHr.wr W452 (Safe.arv hZ.alike V450 (by decide)) C450.1)
    rw [own_narc mv439] at W452
    have V452 : Arv Z h452 b446 c446 .char (4 : Int32) [(.int (p2 &&& (255 : Int32))), (.int v439), (.int 0), (.int 0)] (.int 0) := Arv.set Ar452 q452 S452 M452 G452 J452 (own_fitc mv439) W452 1 rfl (Nat.le_of_ble_eq_true rfl)
    have N452 := Fr.snoc X452 N450 (by omega : n0 ≤ b446)
    have k453 : AtQ p e below S0 T452 m 205 l448 [(.int 55357), (.int 2), (.ref b446)] := fun tt hq => k452 tt (by
     refine XS.iload X452.here hx rfl (hb hby at_174) rfl ?_
     refine XS.iconst X452.here hx rfl (hb hby at_176) ?_
     refine XS.icmpYes X452.here hx rfl (pc0 := 177) (pc' := 189) rfl (hb hby at_177) rfl (flt (by decide)).2.2.2 (by decide) (by decide) ?_
     refine XS.iload X452.here hx rfl (hb hby at_189) rfl ?_
     refine XS.ifNo X452.here hx rfl (hb hby at_191) rfl ((if0 _ _).trans (feq (by decide)).1) ?_
     refine XS.iload X452.here hx rfl (hb hby at_194) rfl ?_
     refine XS.ifNo X452.here hx rfl (hb hby at_196) rfl ((if0 _ _).trans (teq (by decide)).2) ?_
     refine XS.aload X452.here hx rfl (hb hby at_199) rfl rfl ?_
     refine XS.iload X452.here hx rfl (hb hby at_201) rfl ?_
     refine X452.ldcInt hx hown (mvT hZ (wq hw 5 rfl)) (g := (mkF m 203 l448 [(.int 2), (.ref b446)])) rfl (hb hby at_203) _ ?_
     exact hq)
    obtain ⟨cl454, Ar454, q454, S454, M454, G454, J454⟩ := id V452
    obtain ⟨T454, h454, X454, e454, W454, st454⟩ := stC X452 hx hZ e452 Ar454 (j := (2 : Int32)) (inb_of S454 (⟨by decide, by decide⟩)) (g := (mkF m 205 l448 [(.int 55357), (.int 2), (.ref b446)])) rfl rfl (hb hby at_205)
    have k454 : AtQ p e below S0 T454 m 206 l448 [] := fun tt hq => k453 tt (st454 tt hq)
    have z454 : h454.size = h452.size := W454.size
    have C454 := C452.trans (CHr.wr W454 (Safe.arv hZ.alike V452 (by decide)) C452.1)
    have V454 : Arv Z h454 b446 c446 .char (4 : Int32) [(.int (p2 &&& (255 : Int32))), (.int v439), (.int 55357), (.int 0)] (.int 0) := Arv.set Ar454 q454 S454 M454 G454 J454 (fits_nar_char _) W454 2 rfl (Nat.le_of_ble_eq_true rfl)
    have N454 := Fr.snoc X454 N452 (by omega : n0 ≤ b446)
    have k455 : AtQ p e below S0 T454 m 214 l448 [(.int 56832), (.int 3), (.ref b446)] := fun tt hq => k454 tt (by
     refine XS.aload X454.here hx rfl (hb hby at_206) rfl rfl ?_
     refine XS.iload X454.here hx rfl (hb hby at_208) rfl ?_
     refine XS.iconst X454.here hx rfl (hb hby at_210) ?_
     refine XS.iadd X454.here hx rfl (hb hby at_211) rfl ?_
     refine X454.ldcInt hx hown (mvT hZ (wq hw 6 rfl)) (g := (mkF m 212 l448 [(.int 3), (.ref b446)])) rfl (hb hby at_212) _ ?_
     exact hq)
    obtain ⟨cl456, Ar456, q456, S456, M456, G456, J456⟩ := id V454
    obtain ⟨T456, h456, X456, e456, W456, st456⟩ := stC X454 hx hZ e454 Ar456 (j := (3 : Int32)) (inb_of S456 (⟨by decide, by decide⟩)) (g := (mkF m 214 l448 [(.int 56832), (.int 3), (.ref b446)])) rfl rfl (hb hby at_214)
    have k456 : AtQ p e below S0 T456 m 215 l448 [] := fun tt hq => k455 tt (st456 tt hq)
    have z456 : h456.size = h454.size := W456.size
    have C456 := C454.trans (CHr.wr W456 (Safe.arv hZ.alike V454 (by decide)) C454.1)
    have V456 : Arv Z h456 b446 c446 .char (4 : Int32) [(.int (p2 &&& (255 : Int32))), (.int v439), (.int 55357), (.int 56832)] (.int 0) := Arv.set Ar456 q456 S456 M456 G456 J456 (fits_nar_char _) W456 3 rfl (Nat.le_of_ble_eq_true rfl)
    have N456 := Fr.snoc X456 N454 (by omega : n0 ≤ b446)
    obtain ⟨T457, h457, X457, e457, E457, A457, D457, -, st457⟩ := newO X456 hx hZ hown (wq hw 7 rfl) (wq hw 8 rfl) (wq hw 9 rfl) e456 (g := (mkF m 215 l448 [])) rfl (hb hby at_215) (by decide) (by decide)
    obtain ⟨b457, g457⟩ : ∃ z, z = h456.size := ⟨_, rfl⟩
    rw [← g457] at A457 D457 st457
    have k457 : AtQ p e below S0 T457 m 218 l448 [(.ref b457)] := fun tt hq => k456 tt (st457 tt hq)
    have z457 : h456.size ≤ h457.size := E457.1
    have y457 : @LT.lt Nat instLTNat b457 h457.size := A457.lt
    have C457 := C456.trans (CHr.ext E457 C456.1)
    have F457_line : FqH Z h457 b457 (.int 0) := D457 (Or.inl (wq hw 82 rfl)) (ty := .int) (by decide)
    have F457_column : FqI Z h457 b457 (.int 0) := D457 (Or.inl (wq hw 84 rfl)) (ty := .int) (by decide)
    have F457_source : FqE Z h457 b457 .null := D457 (Or.inr (wq hw 86 rfl)) (ty := (.object "com/example/ceruline/ceruline/source/SourceFile")) (by decide)
    have F457_text : FqF Z h457 b457 .null := D457 (Or.inr (wq hw 93 rfl)) (ty := (.object "java/lang/String")) (by decide)
    have F457_offset : FqG Z h457 b457 (.int 0) := D457 (Or.inl (wq hw 100 rfl)) (ty := .int) (by decide)
    have k458 : AtQ p e below S0 T457 m 219 l448 [(.ref b457), (.ref b457)] := fun tt hq => k457 tt (by
     refine XS.dup X457.here hx rfl (hb hby at_218) rfl rfl ?_
     exact hq)
    obtain ⟨T459, h459, X459, e459, E459, A459, D459, -, st459⟩ := newO X457 hx hZ hown (wq hw 10 rfl) (wq hw 11 rfl) (wq hw 12 rfl) e457 (g := (mkF m 219 l448 [(.ref b457), (.ref b457)])) rfl (hb hby at_219) (by decide) (by decide)
    obtain ⟨b459, g459⟩ : ∃ z, z = h457.size := ⟨_, rfl⟩
    rw [← g459] at A459 D459 st459
    have k459 : AtQ p e below S0 T459 m 222 l448 [(.ref b459), (.ref b457), (.ref b457)] := fun tt hq => k458 tt (st459 tt hq)
    have z459 : h457.size ≤ h459.size := E459.1
    have y459 : @LT.lt Nat instLTNat b459 h459.size := A459.lt
    have C459 := C457.trans (CHr.ext E459 C457.1)
    have F459_name : FqC Z h459 b459 .null := D459 (Or.inr (wq hw 74 rfl)) (ty := (.object "java/lang/String")) (by decide)
    have F459_text : FqD Z h459 b459 .null := D459 (Or.inr (wq hw 76 rfl)) (ty := (.object "java/lang/String")) (by decide)
    have k460 : AtQ p e below S0 T459 m 223 l448 [(.ref b459), (.ref b459), (.ref b457), (.ref b457)] := fun tt hq => k459 tt (by
     refine XS.dup X459.here hx rfl (hb hby at_222) rfl rfl ?_
     exact hq)
    obtain ⟨a461, T461, h461, kk461, b461, c461, X461, e461, E461, hS461, hk461, hZ461a, hown461a, A461, Fc461, Fv461, V461, ya461, yb461, Cq461, -, hne461, st461⟩ := ldcCH X459 hx hZ hown (wq hw 13 rfl) (own_wS hw) e459 hS0 (by omega) (own_EW hw) (List.mem_of_getElem? (i := 0) rfl) C459.1 (vs := [(.int 102)]) (z := (1 : Int32)) ⟨by decide, by decide⟩ (by decide) (by decide) (g := (mkF m 223 l448 [(.ref b459), (.ref b459), (.ref b457), (.ref b457)])) rfl (hb hby at_223) (n := 4) (by decide) (by decide) (by decide) (by decide)
    have k461 : AtQ p e below S0 T461 m 225 l448 [(.ref a461), (.ref b459), (.ref b459), (.ref b457), (.ref b457)] := fun tt hq => k460 tt (st461 tt hq)
    have hZ461 : Z.Warmed39 T461.vm := hZ461a
    have hown461 : T461.vm.findClass "com/example/ceruline/ceruline/parsing/SourceReaderAtEndPinLaw" = some m.cls := hown461a
    have z461 : h459.size ≤ h461.size := E461.1
    have C461 := C459.trans Cq461
    obtain ⟨T462, h462, X462, e462, E462, A462, D462, -, st462⟩ := newO X461 hx hZ461 hown461 (wq hw 21 rfl) (wq hw 15 rfl) (wq hw 14 rfl) e461 (g := (mkF m 225 l448 [(.ref a461), (.ref b459), (.ref b459), (.ref b457), (.ref b457)])) rfl (hb hby at_225) (by decide) (by decide)
    obtain ⟨b462, g462⟩ : ∃ z, z = h461.size := ⟨_, rfl⟩
    rw [← g462] at A462 D462 st462
    have k462 : AtQ p e below S0 T462 m 228 l448 [(.ref b462), (.ref a461), (.ref b459), (.ref b459), (.ref b457), (.ref b457)] := fun tt hq => k461 tt (st462 tt hq)
    have z462 : h461.size ≤ h462.size := E462.1
    have y462 : @LT.lt Nat instLTNat b462 h462.size := A462.lt
    have C462 := C461.trans (CHr.ext E462 C461.1)
    have Sf462 : Safe Z own_EL T461.vm h462 b462 := Safe.ext E462 C461.1 (Safe.new (by omega))
    have F462_value : FqA Z h462 b462 .null := D462 (Or.inr (wq hw 17 rfl)) (ty := (.array .byte)) (by decide)
    have F462_coder : FqB Z h462 b462 (.int 0) := D462 (Or.inr (wq hw 18 rfl)) (ty := .byte) (by decide)
    have k463 : AtQ p e below S0 T462 m 231 l448 [(.ref b446), (.ref b462), (.ref b462), (.ref a461), (.ref b459), (.ref b459), (.ref b457), (.ref b457)] := fun tt hq => k462 tt (by
     refine XS.dup X462.here hx rfl (hb hby at_228) rfl rfl ?_
     refine XS.aload X462.here hx rfl (hb hby at_229) rfl rfl ?_
     exact hq)
    have f464 : Old Z n0 h462 := (((((((((O0.ext E446).wr W450 (by omega)).wr W452 (by omega)).wr W454 (by omega)).wr W456 (by omega)).ext E457).ext E459).ext E461).ext E462)
    have f465 : Arv Z h462 b446 c446 .char (4 : Int32) [(.int (p2 &&& (255 : Int32))), (.int v439), (.int 55357), (.int 56832)] (.int 0) := ((((V456.ext E457).ext E459).ext E461).ext E462)
    obtain ⟨_, T466, L466, X466, ⟨rfl, Nq466, Kq466, t466, kt466, gt466, P4660, P4661, P4662, P4663⟩, k466a⟩ := callC' X462 hx hZ461 (y := yqD) rfl hown461 (wq hw 22 rfl) (wq hw 23 rfl) (wq hw 24 rfl) (by decide) (backC (W := 6) (rm_n1u1 l Z a0 hw zc b462 b446 (4 : Int32) (8 : Int32) _ .null (.int 0) c446 _ h462 n0 (by omega) S_c hzc f464 A462 F462_value F462_coder (by omega) (by omega) (by decide) (by decide) (rm_c3_4_2 l Z a0 hw b446 c446 (p2 &&& (255 : Int32)) v439 (55357 : Int32) (56832 : Int32) h462 n0 (by omega) S_ad S_hi S_lo f464 f465 (by omega) (own_m255 _).2 mv439.2 (by decide) (by decide) (by decide)) f465) hZ461 (wq hw 24 rfl) (wq hw 14 rfl) (by decide) (by decide)) e462 (argsL := [(.ref b446)]) (rest := [(.ref b462), (.ref a461), (.ref b459), (.ref b459), (.ref b457), (.ref b457)]) rfl rfl pd_10 rfl (by rw [hml]; rfl) (hb hby at_231) (Nat.le_of_eq rfl) (by decide) (by decide) k463
    have k466 : AtQ p e below S0 T466 m 234 l448 [(.ref b462), (.ref a461), (.ref b459), (.ref b459), (.ref b457), (.ref b457)] := k466a
    have N466 := N456.app Nq466
    obtain ⟨h466, e466⟩ : ∃ z, T466.heap = z := ⟨_, rfl⟩
    rw [e466] at Kq466 P4660 P4661 P4662 P4663
    have z466 : h462.size ≤ h466.size := Kq466.1
    have C466 := C462.trans (CHr.keep Kq466 (sfS Sf462 sf0) C462.1)
    have y466 : @LT.lt Nat instLTNat t466 h466.size := P4663.lt
    have f467 : Exa Z h466 b459 "com/example/ceruline/ceruline/source/SourceFile" := (((A459.ext E461).ext E462).keep Kq466)
    have f468 : FqC Z h466 b459 .null := (((F459_name.ext E461).ext E462).keep Kq466 (nin1 (by omega)))
    have f469 : FqD Z h466 b459 .null := (((F459_text.ext E461).ext E462).keep Kq466 (nin1 (by omega)))
    obtain ⟨_, T470, L470, X470, ⟨rfl, Nq470, Kq470, P4700, P4701, P4702⟩, k470a⟩ := callC' X466 hx hZ461 (y := yqM) rfl hown461 (wq hw 64 rfl) (wq hw 65 rfl) (wq hw 66 rfl) (by decide) (backC (W := 3) (rm_sfi l Z a0 hw b459 a461 b462 h466 n0 (by omega) f467 f468 f469 (by omega)) hZ461 (wq hw 66 rfl) (wq hw 12 rfl) (by decide) (by decide)) e466 (argsL := [(.ref a461), (.ref b462)]) (rest := [(.ref b459), (.ref b457), (.ref b457)]) rfl rfl pd_11 rfl (by rw [hml]; rfl) (hb hby at_234) (Nat.le_of_eq rfl) (by decide) (by decide) k466
    have k470 : AtQ p e below S0 T470 m 237 l448 [(.ref b459), (.ref b457), (.ref b457)] := k470a
    have N470 := N466.app Nq470
    obtain ⟨h470, e470⟩ : ∃ z, T470.heap = z := ⟨_, rfl⟩
    rw [e470] at Kq470 P4700 P4701 P4702
    have z470 : h466.size ≤ h470.size := Kq470.1
    have C470 := C466.trans (CHr.keep Kq470 (sfS (Safe.exa hZ461.alike f467 (by decide) (by decide)) sf0) C466.1)
    have f471 : Exa Z h470 b457 "com/example/ceruline/ceruline/parsing/SourceReader" := (((((A457.ext E459).ext E461).ext E462).keep Kq466).keep Kq470)
    have f472 : FqE Z h470 b457 .null := (((((F457_source.ext E459).ext E461).ext E462).keep Kq466 (nin1 (by omega))).keep Kq470 (nin1 (by omega)))
    have f473 : FqF Z h470 b457 .null := (((((F457_text.ext E459).ext E461).ext E462).keep Kq466 (nin1 (by omega))).keep Kq470 (nin1 (by omega)))
    have f474 : FqG Z h470 b457 (.int 0) := (((((F457_offset.ext E459).ext E461).ext E462).keep Kq466 (nin1 (by omega))).keep Kq470 (nin1 (by omega)))
    have f475 : FqH Z h470 b457 (.int 0) := (((((F457_line.ext E459).ext E461).ext E462).keep Kq466 (nin1 (by omega))).keep Kq470 (nin1 (by omega)))
    have f476 : FqI Z h470 b457 (.int 0) := (((((F457_column.ext E459).ext E461).ext E462).keep Kq466 (nin1 (by omega))).keep Kq470 (nin1 (by omega)))
    obtain ⟨_, T477, L477, X477, ⟨rfl, Nq477, Kq477, P477_0, P477_1, P477_2, P477_3, P477_4, P477_5⟩, k477a⟩ := callC' X470 hx hZ461 (y := yqO) rfl hown461 (wq hw 77 rfl) (wq hw 78 rfl) (wq hw 79 rfl) (by decide) (backC (W := 1) (rm_sri l Z a0 hw b457 b459 b462 h470 n0 (by omega) f471 f472 f473 f474 f475 f476 P4700 P4702 (by omega) (by omega)) hZ461 (wq hw 79 rfl) (wq hw 9 rfl) (by decide) (by decide)) e470 (argsL := [(.ref b459)]) (rest := [(.ref b457)]) rfl rfl pd_12 rfl (by rw [hml]; rfl) (hb hby at_237) (Nat.le_of_eq rfl) (by decide) (by decide) k470
    have k477 : AtQ p e below S0 T477 m 240 l448 [(.ref b457)] := k477a
    have N477 := N470.app Nq477
    obtain ⟨h477, e477⟩ : ∃ z, T477.heap = z := ⟨_, rfl⟩
    rw [e477] at Kq477 P477_0 P477_1 P477_2 P477_3 P477_4 P477_5
    have z477 : h470.size ≤ h477.size := Kq477.1
    have C477 := C470.trans (CHr.keep Kq477 (sfS (Safe.exa hZ461.alike f471 (by decide) (by decide)) sf0) C470.1)
    let l478 : Array Slot := #[(vi p0), (vi p1), (vi p2), (vi p3), (vi 2), (vi 1), (vi 0), (vi 4), (vi 3), (vi v432), (vi (p2 &&& (255 : Int32))), (vi v439), (vi v443), (vr b446), (vi 0), (vr b457), .unset, .unset]
    have k479 : AtQ p e below S0 T477 m 242 l478 [] := fun tt hq => k477 tt (by
     refine XS.astore X477.here hx rfl (hb hby at_240) rfl rfl (l' := l478) rfl ?_
     exact hq)
    have f480 : Exa Z h477 b462 "java/lang/String" := ((P4660.keep Kq470).keep Kq477)
    have f481 : FqA Z h477 b462 (.ref t466) := ((P4661.keep Kq470 (nin1 (by omega))).keep Kq477 (nin1 (by omega)))
    have f482 : FqB Z h477 b462 (.int 1) := ((P4662.keep Kq470 (nin1 (by omega))).keep Kq477 (nin1 (by omega)))
    have f483 : Arv Z h477 t466 kt466 .byte (8 : Int32) [(.int (ulo (p2 &&& (255 : Int32)))), (.int (uhi (p2 &&& (255 : Int32)))), (.int (ulo v439)), (.int (uhi v439)), (.int (ulo (55357 : Int32))), (.int (uhi (55357 : Int32))), (.int (ulo (56832 : Int32))), (.int (uhi (56832 : Int32)))] (.int 0) := ((P4663.keep Kq470 (nin1 (by omega))).keep Kq477 (nin1 (by omega)))
    have f484 : Old Z n0 h477 := (((f464.keep Kq466 (allS (by omega) all0)).keep Kq470 (allS (by omega) all0)).keep Kq477 (allS (by omega) all0))
    exact sec_m3 (cd := (1 : Int32)) (o0 := (0 : Int32)) (o1 := (1 : Int32)) (o2 := (2 : Int32)) (o3 := (4 : Int32)) hw hx hby hml hret hlk hnm hown461 hZ461 X477 e477 k479 N477 C477 hS461 (by omega) (by omega) (by decide) (by decide) S_c hzc P477_0 P477_1 P477_2 P477_3 P477_4 P477_5 f480 f481 f482 f483 f484 rfl (by decide) (by decide) (by decide) (by decide) (by rw [hv432]; exact own_k3 _) (by omega) (by omega) (by omega) (fun H xl xc hn g10 g0 g1 g2 g3 g4 g5 g6 g7 g8 g9 => rm_adv1 l Z a0 hw b457 b459 b462 (0 : Int32) xl xc (p2 &&& (255 : Int32)) (1 : Int32) H n0 (by omega) g0 g1 g2 g3 g4 g5 g6 (by omega) (rm_cpu l Z a0 hw zc fm b462 t466 kt466 (8 : Int32) _ (0 : Int32) (4 : Int32) (p2 &&& (255 : Int32)) H n0 (by omega) S_c hzc S_f hfm g10 g6 g7 g8 g9 (by decide) (by decide) (by decide) (rm_cp3u l Z a0 hw t466 (0 : Int32) (4 : Int32) (p2 &&& (255 : Int32)) H n0 (by omega) (rm_cp4s l Z a0 hw t466 (0 : Int32) (4 : Int32) (p2 &&& (255 : Int32)) H n0 (by omega) S_ad g10 (rm_get l Z a0 hw t466 kt466 (8 : Int32) _ (0 : Int32) (0 : Int32) (ulo (p2 &&& (255 : Int32))) (uhi (p2 &&& (255 : Int32))) (p2 &&& (255 : Int32)) H n0 (by omega) S_ad S_hi S_lo g10 g9 (by decide) (by decide) (by decide) rfl rfl (own_gc (own_m255 _).1 (own_lt16 (own_m255 _))) (own_m255 _).1 (own_lt16 (own_m255 _))) (own_lt55 (own_m255 _))))) (own_lt16 (own_m255 _)) (by decide)) (fun H xl xc hn g10 g0 g1 g2 g3 g4 g5 g6 g7 g8 g9 => rm_adv1 l Z a0 hw b457 b459 b462 (1 : Int32) xl xc v439 (2 : Int32) H n0 (by omega) g0 g1 g2 g3 g4 g5 g6 (by omega) (rm_cpu l Z a0 hw zc fm b462 t466 kt466 (8 : Int32) _ (1 : Int32) (4 : Int32) v439 H n0 (by omega) S_c hzc S_f hfm g10 g6 g7 g8 g9 (by decide) (by decide) (by decide) (rm_cp3u l Z a0 hw t466 (1 : Int32) (4 : Int32) v439 H n0 (by omega) (rm_cp4s l Z a0 hw t466 (1 : Int32) (4 : Int32) v439 H n0 (by omega) S_ad g10 (rm_get l Z a0 hw t466 kt466 (8 : Int32) _ (1 : Int32) (2 : Int32) (ulo v439) (uhi v439) v439 H n0 (by omega) S_ad S_hi S_lo g10 g9 (by decide) (by decide) (by decide) rfl rfl (own_gc mv439.1 (own_lt16 mv439)) mv439.1 (own_lt16 mv439)) (own_lt55 mv439)))) (own_lt16 mv439) (by decide)) (fun H xl xc hn g10 g0 g1 g2 g3 g4 g5 g6 g7 g8 g9 => rm_adv2 l Z a0 hw b457 b459 b462 (2 : Int32) xl xc (128512 : Int32) (4 : Int32) H n0 (by omega) g0 g1 g2 g3 g4 g5 g6 (by omega) (rm_cpu l Z a0 hw zc fm b462 t466 kt466 (8 : Int32) _ (2 : Int32) (4 : Int32) (128512 : Int32) H n0 (by omega) S_c hzc S_f hfm g10 g6 g7 g8 g9 (by decide) (by decide) (by decide) (rm_cp3u l Z a0 hw t466 (2 : Int32) (4 : Int32) (128512 : Int32) H n0 (by omega) (rm_cp4p l Z a0 hw t466 (2 : Int32) (4 : Int32) H n0 (by omega) S_ad g10 (rm_get l Z a0 hw t466 kt466 (8 : Int32) _ (2 : Int32) (4 : Int32) (ulo (55357 : Int32)) (uhi (55357 : Int32)) (55357 : Int32) H n0 (by omega) S_ad S_hi S_lo g10 g9 (by decide) (by decide) (by decide) rfl rfl (own_gc (by decide) (by decide)) (by decide) (by decide)) (rm_get l Z a0 hw t466 kt466 (8 : Int32) _ (3 : Int32) (6 : Int32) (ulo (56832 : Int32)) (uhi (56832 : Int32)) (56832 : Int32) H n0 (by omega) S_ad S_hi S_lo g10 g9 (by decide) (by decide) (by decide) rfl rfl (own_gc (by decide) (by decide)) (by decide) (by decide)) (by decide)))) (by decide) (by decide))
   ·
    let l485 : Array Slot := #[(vi p0), (vi p1), (vi p2), (vi p3), (vi 2), (vi 1), (vi 1), .unset, .unset, .unset, .unset, .unset, .unset, .unset, .unset, .unset, .unset, .unset]
    let l486 : Array Slot := #[(vi p0), (vi p1), (vi p2), (vi p3), (vi 2), (vi 1), (vi 1), (vi 4), .unset, .unset, .unset, .unset, .unset, .unset, .unset, .unset, .unset, .unset]
    let l487 : Array Slot := #[(vi p0), (vi p1), (vi p2), (vi p3), (vi 2), (vi 1), (vi 1), (vi 4), (vi 3), .unset, .unset, .unset, .unset, .unset, .unset, .unset, .unset, .unset]
    have k488 : AtQ p e below S0 s₁ m 67 l487 [(.int 3), (.int (p1 &&& (7 : Int32)))] := fun tt hq => k425 tt (by
     refine XS.ifNo X0.here hx rfl (hb hby at_21) rfl ((if0 _ _).trans (feq hc21_426).1) ?_
     refine XS.iconst X0.here hx rfl (hb hby at_24) ?_
     refine XS.goto X0.here hx rfl (pc0 := 25) (pc' := 29) rfl (hb hby at_25) (by decide) (by decide) ?_
     refine XS.istore X0.here hx rfl (hb hby at_29) rfl (l' := l485) rfl ?_
     refine XS.iload X0.here hx rfl (hb hby at_31) rfl ?_
     refine XS.iload X0.here hx rfl (hb hby at_33) rfl ?_
     refine XS.ifNo X0.here hx rfl (hb hby at_35) rfl ((if0 _ _).trans (feq (by decide)).1) ?_
     refine XS.iconst X0.here hx rfl (hb hby at_38) ?_
     refine XS.goto X0.here hx rfl (pc0 := 39) (pc' := 43) rfl (hb hby at_39) (by decide) (by decide) ?_
     refine XS.iadd X0.here hx rfl (hb hby at_43) rfl ?_
     refine XS.istore X0.here hx rfl (hb hby at_44) rfl (l' := l486) rfl ?_
     refine XS.iload X0.here hx rfl (hb hby at_46) rfl ?_
     refine XS.iload X0.here hx rfl (hb hby at_48) rfl ?_
     refine XS.ifNo X0.here hx rfl (hb hby at_50) rfl ((if0 _ _).trans (feq (by decide)).1) ?_
     refine XS.iconst X0.here hx rfl (hb hby at_53) ?_
     refine XS.goto X0.here hx rfl (pc0 := 54) (pc' := 58) rfl (hb hby at_54) (by decide) (by decide) ?_
     refine XS.iadd X0.here hx rfl (hb hby at_58) rfl ?_
     refine XS.istore X0.here hx rfl (hb hby at_59) rfl (l' := l487) rfl ?_
     refine XS.iloadN X0.here hx rfl (hb hby at_61) rfl ?_
     refine XS.bipush X0.here hx rfl (hb hby at_62) ?_
     refine XS.iand X0.here hx rfl (hb hby at_64) rfl ?_
     refine XS.iload X0.here hx rfl (hb hby at_65) rfl ?_
     exact hq)
    obtain ⟨_, T489, L489, X489, ⟨rfl, Nq489, eq489⟩, k489a⟩ := callS' X0 hx hZ (y := yqK) hown (wq hw 0 rfl) (wq hw 1 rfl) (wq hw 2 rfl) (wq hw 3 rfl) (by decide) (backC (W := 0) (rm_min l Z a0 hw (p1 &&& (7 : Int32)) (3 : Int32) (if (3 : Int32) < (p1 &&& (7 : Int32)) then (3 : Int32) else (p1 &&& (7 : Int32))) h0 n0 (by omega) rfl) hZ (wq hw 3 rfl) (wq hw 2 rfl) (by decide) (by decide)) e0 (argsL := [(.int (p1 &&& (7 : Int32))), (.int 3)]) (rest := []) rfl rfl pd_9 rfl (by rw [hml]; rfl) (hb hby at_67) (Nat.le_of_eq rfl) (by decide) (by decide) k488
    have k489 : AtQ p e below S0 T489 m 70 l487 [(.int (if (3 : Int32) < (p1 &&& (7 : Int32)) then (3 : Int32) else (p1 &&& (7 : Int32))))] := k489a
    have N489 := N0.app Nq489
    have e489 : T489.heap = h0 := eq489
    obtain ⟨v490, hv490⟩ : ∃ z : Int32, z = (if (3 : Int32) < (p1 &&& (7 : Int32)) then (3 : Int32) else (p1 &&& (7 : Int32))) := ⟨_, rfl⟩
    have k490 : AtQ p e below S0 T489 m 70 l487 [(.int v490)] := by rw [hv490]; exact k489
    let l491 : Array Slot := #[(vi p0), (vi p1), (vi p2), (vi p3), (vi 2), (vi 1), (vi 1), (vi 4), (vi 3), (vi v490), .unset, .unset, .unset, .unset, .unset, .unset, .unset, .unset]
    have k492 : AtQ p e below S0 T489 m 78 l491 [(.int ((p2 &&& (255 : Int32)).toUInt32.toUInt16.toUInt32.toInt32))] := fun tt hq => k490 tt (by
     refine XS.istore X489.here hx rfl (hb hby at_70) rfl (l' := l491) rfl ?_
     refine XS.iloadN X489.here hx rfl (hb hby at_72) rfl ?_
     refine XS.sipush X489.here hx rfl (hb hby at_73) ?_
     refine XS.iand X489.here hx rfl (hb hby at_76) rfl ?_
     refine XS.i2c X489.here hx rfl (hb hby at_77) rfl ?_
     exact hq)
    have k493 : AtQ p e below S0 T489 m 78 l491 [(.int (p2 &&& (255 : Int32)))] := by have hq := k492; rw [i2c_mask] at hq; exact hq
    let l494 : Array Slot := #[(vi p0), (vi p1), (vi p2), (vi p3), (vi 2), (vi 1), (vi 1), (vi 4), (vi 3), (vi v490), (vi (p2 &&& (255 : Int32))), .unset, .unset, .unset, .unset, .unset, .unset, .unset]
    have k495 : AtQ p e below S0 T489 m 89 l494 [(.int ((((p2.toUInt32 >>> ((8 : Int32) &&& 31).toUInt32).toInt32) &&& (255 : Int32)).toUInt32.toUInt16.toUInt32.toInt32))] := fun tt hq => k493 tt (by
     refine XS.istore X489.here hx rfl (hb hby at_78) rfl (l' := l494) rfl ?_
     refine XS.iloadN X489.here hx rfl (hb hby at_80) rfl ?_
     refine XS.bipush X489.here hx rfl (hb hby at_81) ?_
     refine XS.iushr X489.here hx rfl (hb hby at_83) rfl ?_
     refine XS.sipush X489.here hx rfl (hb hby at_84) ?_
     refine XS.iand X489.here hx rfl (hb hby at_87) rfl ?_
     refine XS.i2c X489.here hx rfl (hb hby at_88) rfl ?_
     exact hq)
    have k496 : AtQ p e below S0 T489 m 89 l494 [(.int (((p2.toUInt32 >>> ((8 : Int32) &&& 31).toUInt32).toInt32) &&& (255 : Int32)))] := by have hq := k495; rw [i2c_mask] at hq; exact hq
    obtain ⟨v497, hv497⟩ : ∃ z : Int32, z = (((p2.toUInt32 >>> ((8 : Int32) &&& 31).toUInt32).toInt32) &&& (255 : Int32)) := ⟨_, rfl⟩
    have k497 : AtQ p e below S0 T489 m 89 l494 [(.int v497)] := by rw [hv497]; exact k496
    have mv497 : ¬ v497 < (0 : Int32) ∧ ¬ (255 : Int32) < v497 := by rw [hv497]; exact own_m255 _
    let l498 : Array Slot := #[(vi p0), (vi p1), (vi p2), (vi p3), (vi 2), (vi 1), (vi 1), (vi 4), (vi 3), (vi v490), (vi (p2 &&& (255 : Int32))), (vi v497), .unset, .unset, .unset, .unset, .unset, .unset]
    have k499 : AtQ p e below S0 T489 m 100 l498 [(.int ((((p2.toUInt32 >>> ((16 : Int32) &&& 31).toUInt32).toInt32) &&& (255 : Int32)).toUInt32.toUInt16.toUInt32.toInt32))] := fun tt hq => k497 tt (by
     refine XS.istore X489.here hx rfl (hb hby at_89) rfl (l' := l498) rfl ?_
     refine XS.iloadN X489.here hx rfl (hb hby at_91) rfl ?_
     refine XS.bipush X489.here hx rfl (hb hby at_92) ?_
     refine XS.iushr X489.here hx rfl (hb hby at_94) rfl ?_
     refine XS.sipush X489.here hx rfl (hb hby at_95) ?_
     refine XS.iand X489.here hx rfl (hb hby at_98) rfl ?_
     refine XS.i2c X489.here hx rfl (hb hby at_99) rfl ?_
     exact hq)
    have k500 : AtQ p e below S0 T489 m 100 l498 [(.int (((p2.toUInt32 >>> ((16 : Int32) &&& 31).toUInt32).toInt32) &&& (255 : Int32)))] := by have hq := k499; rw [i2c_mask] at hq; exact hq
    obtain ⟨v501, hv501⟩ : ∃ z : Int32, z = (((p2.toUInt32 >>> ((16 : Int32) &&& 31).toUInt32).toInt32) &&& (255 : Int32)) := ⟨_, rfl⟩
    have k501 : AtQ p e below S0 T489 m 100 l498 [(.int v501)] := by rw [hv501]; exact k500
    have mv501 : ¬ v501 < (0 : Int32) ∧ ¬ (255 : Int32) < v501 := by rw [hv501]; exact own_m255 _
    let l502 : Array Slot := #[(vi p0), (vi p1), (vi p2), (vi p3), (vi 2), (vi 1), (vi 1), (vi 4), (vi 3), (vi v490), (vi (p2 &&& (255 : Int32))), (vi v497), (vi v501), .unset, .unset, .unset, .unset, .unset]
    have k503 : AtQ p e below S0 T489 m 104 l502 [(.int 4)] := fun tt hq => k501 tt (by
     refine XS.istore X489.here hx rfl (hb hby at_100) rfl (l' := l502) rfl ?_
     refine XS.iload X489.here hx rfl (hb hby at_102) rfl ?_
     exact hq)
    obtain ⟨T504, h504, c504, X504, e504, E504, A504, st504⟩ := newP X489 hx hZ (wq hw 4 rfl) e489 (g := (mkF m 104 l502 [(.int 4)])) rfl (hb hby at_104) rfl (by decide) (cap := 4) (by decide) (by decide) (by decide) (by decide)
    obtain ⟨b504, g504⟩ : ∃ z, z = h0.size := ⟨_, rfl⟩
    rw [← g504] at A504 st504
    have k504 : AtQ p e below S0 T504 m 106 l502 [(.ref b504)] := fun tt hq => k503 tt (st504 tt hq)
    have z504 : h0.size ≤ h504.size := E504.1
    have C504 := C0.trans (CHr.ext E504 C0.1)
    have V504 : Arv Z h504 b504 c504 .char (4 : Int32) [(.int 0), (.int 0), (.int 0), (.int 0)] (.int 0) := (Arv.new A504 (by decide)).pad (pad_rep [] (.int 0) 4)
    have y504 : @LT.lt Nat instLTNat b504 h504.size := V504.lt
    let l505 : Array Slot := #[(vi p0), (vi p1), (vi p2), (vi p3), (vi 2), (vi 1), (vi 1), (vi 4), (vi 3), (vi v490), (vi (p2 &&& (255 : Int32))), (vi v497), (vi v501), (vr b504), .unset, .unset, .unset, .unset]
    let l506 : Array Slot := #[(vi p0), (vi p1), (vi p2), (vi p3), (vi 2), (vi 1), (vi 1), (vi 4), (vi 3), (vi v490), (vi (p2 &&& (255 : Int32))), (vi v497), (vi v501), (vr b504), (vi 2), .unset, .unset, .unset]
    have k507 : AtQ p e below S0 T504 m 140 l506 [(.int 55357), (.int 0), (.ref b504)] := fun tt hq => k504 tt (by
     refine XS.astore X504.here hx rfl (hb hby at_106) rfl rfl (l' := l505) rfl ?_
     refine XS.iload X504.here hx rfl (hb hby at_108) rfl ?_
     refine XS.ifNo X504.here hx rfl (hb hby at_110) rfl ((if0 _ _).trans (feq (by decide)).1) ?_
     refine XS.iload X504.here hx rfl (hb hby at_113) rfl ?_
     refine XS.ifNo X504.here hx rfl (hb hby at_115) rfl ((if0 _ _).trans (feq (by decide)).1) ?_
     refine XS.iconst X504.here hx rfl (hb hby at_118) ?_
     refine XS.goto X504.here hx rfl (pc0 := 119) (pc' := 123) rfl (hb hby at_119) (by decide) (by decide) ?_
     refine XS.istore X504.here hx rfl (hb hby at_123) rfl (l' := l506) rfl ?_
     refine XS.iload X504.here hx rfl (hb hby at_125) rfl ?_
     refine XS.ifNo X504.here hx rfl (hb hby at_127) rfl ((if0 _ _).trans (feq (by decide)).1) ?_
     refine XS.iload X504.here hx rfl (hb hby at_130) rfl ?_
     refine XS.ifNo X504.here hx rfl (hb hby at_132) rfl ((if0 _ _).trans (feq (by decide)).1) ?_
     refine XS.aload X504.here hx rfl (hb hby at_135) rfl rfl ?_
     refine XS.iconst X504.here hx rfl (hb hby at_137) ?_
     refine X504.ldcInt hx hown (mvT hZ (wq hw 5 rfl)) (g := (mkF m 138 l506 [(.int 0), (.ref b504)])) rfl (hb hby at_138) _ ?_
     exact hq)
    obtain ⟨cl508, Ar508, q508, S508, M508, G508, J508⟩ := id V504
    obtain ⟨T508, h508, X508, e508, W508, st508⟩ := stC X504 hx hZ e504 Ar508 (j := (0 : Int32)) (inb_of S508 (⟨by decide, by decide⟩)) (g := (mkF m 140 l506 [(.int 55357), (.int 0), (.ref b504)])) rfl rfl (hb hby at_140)
    have k508 : AtQ p e below S0 T508 m 141 l506 [] := fun tt hq => k507 tt (st508 tt hq)
    have z508 : h508.size = h504.size := W508.size
    have C508 := C504.trans (CHr.wr W508 (Safe.arv hZ.alike V504 (by decide)) C504.1)
    have V508 : Arv Z h508 b504 c504 .char (4 : Int32) [(.int 55357), (.int 0), (.int 0), (.int 0)] (.int 0) := Arv.set Ar508 q508 S508 M508 G508 J508 (fits_nar_char _) W508 0 rfl (Nat.le_of_ble_eq_true rfl)
    have N508 := Fr.snoc X508 N489 (by omega : n0 ≤ b504)
    have k509 : AtQ p e below S0 T508 m 146 l506 [(.int 56832), (.int 1), (.ref b504)] := fun tt hq => k508 tt (by
     refine XS.aload X508.here hx rfl (hb hby at_141) rfl rfl ?_
     refine XS.iconst X508.here hx rfl (hb hby at_143) ?_
     refine X508.ldcInt hx hown (mvT hZ (wq hw 6 rfl)) (g := (mkF m 144 l506 [(.int 1), (.ref b504)])) rfl (hb hby at_144) _ ?_
     exact hq)
    obtain ⟨cl510, Ar510, q510, S510, M510, G510, J510⟩ := id V508
    obtain ⟨T510, h510, X510, e510, W510, st510⟩ := stC X508 hx hZ e508 Ar510 (j := (1 : Int32)) (inb_of S510 (⟨by decide, by decide⟩)) (g := (mkF m 146 l506 [(.int 56832), (.int 1), (.ref b504)])) rfl rfl (hb hby at_146)
    have k510 : AtQ p e below S0 T510 m 147 l506 [] := fun tt hq => k509 tt (st510 tt hq)
    have z510 : h510.size = h508.size := W510.size
    have C510 := C508.trans (CHr.wr W510 (Safe.arv hZ.alike V508 (by decide)) C508.1)
    have V510 : Arv Z h510 b504 c504 .char (4 : Int32) [(.int 55357), (.int 56832), (.int 0), (.int 0)] (.int 0) := Arv.set Ar510 q510 S510 M510 G510 J510 (fits_nar_char _) W510 1 rfl (Nat.le_of_ble_eq_true rfl)
    have N510 := Fr.snoc X510 N508 (by omega : n0 ≤ b504)
    have k511 : AtQ p e below S0 T510 m 158 l506 [(.int (p2 &&& (255 : Int32))), (.int 2), (.ref b504)] := fun tt hq => k510 tt (by
     refine XS.iload X510.here hx rfl (hb hby at_147) rfl ?_
     refine XS.ifNo X510.here hx rfl (hb hby at_149) rfl ((if0 _ _).trans (tlt (by decide)).2.2.2) ?_
     refine XS.aload X510.here hx rfl (hb hby at_152) rfl rfl ?_
     refine XS.iload X510.here hx rfl (hb hby at_154) rfl ?_
     refine XS.iload X510.here hx rfl (hb hby at_156) rfl ?_
     exact hq)
    obtain ⟨cl512, Ar512, q512, S512, M512, G512, J512⟩ := id V510
    obtain ⟨T512, h512, X512, e512, W512, st512⟩ := stC X510 hx hZ e510 Ar512 (j := (2 : Int32)) (inb_of S512 (⟨by decide, by decide⟩)) (g := (mkF m 158 l506 [(.int (p2 &&& (255 : Int32))), (.int 2), (.ref b504)])) rfl rfl (hb hby at_158)
    have k512 : AtQ p e below S0 T512 m 159 l506 [] := fun tt hq => k511 tt (st512 tt hq)
    have z512 : h512.size = h510.size := W512.size
    have C512 := C510.trans (CHr.wr W512 (Safe.arv hZ.alike V510 (by decide)) C510.1)
    rw [own_narc (own_m255 _)] at W512
    have V512 : Arv Z h512 b504 c504 .char (4 : Int32) [(.int 55357), (.int 56832), (.int (p2 &&& (255 : Int32))), (.int 0)] (.int 0) := Arv.set Ar512 q512 S512 M512 G512 J512 (own_fitc (own_m255 _)) W512 2 rfl (Nat.le_of_ble_eq_true rfl)
    have N512 := Fr.snoc X512 N510 (by omega : n0 ≤ b504)
    have k513 : AtQ p e below S0 T512 m 173 l506 [(.int v497), (.int 3), (.ref b504)] := fun tt hq => k512 tt (by
     refine XS.iload X512.here hx rfl (hb hby at_159) rfl ?_
     refine XS.iconst X512.here hx rfl (hb hby at_161) ?_
     refine XS.icmpNo X512.here hx rfl (hb hby at_162) rfl (tlt (by decide)).2.2.2 ?_
     refine XS.aload X512.here hx rfl (hb hby at_165) rfl rfl ?_
     refine XS.iload X512.here hx rfl (hb hby at_167) rfl ?_
     refine XS.iconst X512.here hx rfl (hb hby at_169) ?_
     refine XS.iadd X512.here hx rfl (hb hby at_170) rfl ?_
     refine XS.iload X512.here hx rfl (hb hby at_171) rfl ?_
     exact hq)
    obtain ⟨cl514, Ar514, q514, S514, M514, G514, J514⟩ := id V512
    obtain ⟨T514, h514, X514, e514, W514, st514⟩ := stC X512 hx hZ e512 Ar514 (j := (3 : Int32)) (inb_of S514 (⟨by decide, by decide⟩)) (g := (mkF m 173 l506 [(.int v497), (.int 3), (.ref b504)])) rfl rfl (hb hby at_173)
    have k514 : AtQ p e below S0 T514 m 174 l506 [] := fun tt hq => k513 tt (st514 tt hq)
    have z514 : h514.size = h512.size := W514.size
    have C514 := C512.trans (CHr.wr W514 (Safe.arv hZ.alike V512 (by decide)) C512.1)
    rw [own_narc mv497] at W514
    have V514 : Arv Z h514 b504 c504 .char (4 : Int32) [(.int 55357), (.int 56832), (.int (p2 &&& (255 : Int32))), (.int v497)] (.int 0) := Arv.set Ar514 q514 S514 M514 G514 J514 (own_fitc mv497) W514 3 rfl (Nat.le_of_ble_eq_true rfl)
    have N514 := Fr.snoc X514 N512 (by omega : n0 ≤ b504)
    have k515 : AtQ p e below S0 T514 m 215 l506 [] := fun tt hq => k514 tt (by
     refine XS.iload X514.here hx rfl (hb hby at_174) rfl ?_
     refine XS.iconst X514.here hx rfl (hb hby at_176) ?_
     refine XS.icmpYes X514.here hx rfl (pc0 := 177) (pc' := 189) rfl (hb hby at_177) rfl (flt (by decide)).2.2.2 (by decide) (by decide) ?_
     refine XS.iload X514.here hx rfl (hb hby at_189) rfl ?_
     refine XS.ifNo X514.here hx rfl (hb hby at_191) rfl ((if0 _ _).trans (feq (by decide)).1) ?_
     refine XS.iload X514.here hx rfl (hb hby at_194) rfl ?_
     refine XS.ifYes X514.here hx rfl (pc0 := 196) (pc' := 215) rfl (hb hby at_196) rfl ((if0 _ _).trans (feq (by decide)).2) (by decide) (by decide) ?_
     exact hq)
    obtain ⟨T516, h516, X516, e516, E516, A516, D516, -, st516⟩ := newO X514 hx hZ hown (wq hw 7 rfl) (wq hw 8 rfl) (wq hw 9 rfl) e514 (g := (mkF m 215 l506 [])) rfl (hb hby at_215) (by decide) (by decide)
    obtain ⟨b516, g516⟩ : ∃ z, z = h514.size := ⟨_, rfl⟩
    rw [← g516] at A516 D516 st516
    have k516 : AtQ p e below S0 T516 m 218 l506 [(.ref b516)] := fun tt hq => k515 tt (st516 tt hq)
    have z516 : h514.size ≤ h516.size := E516.1
    have y516 : @LT.lt Nat instLTNat b516 h516.size := A516.lt
    have C516 := C514.trans (CHr.ext E516 C514.1)
    have F516_line : FqH Z h516 b516 (.int 0) := D516 (Or.inl (wq hw 82 rfl)) (ty := .int) (by decide)
    have F516_column : FqI Z h516 b516 (.int 0) := D516 (Or.inl (wq hw 84 rfl)) (ty := .int) (by decide)
    have F516_source : FqE Z h516 b516 .null := D516 (Or.inr (wq hw 86 rfl)) (ty := (.object "com/example/ceruline/ceruline/source/SourceFile")) (by decide)
    have F516_text : FqF Z h516 b516 .null := D516 (Or.inr (wq hw 93 rfl)) (ty := (.object "java/lang/String")) (by decide)
    have F516_offset : FqG Z h516 b516 (.int 0) := D516 (Or.inl (wq hw 100 rfl)) (ty := .int) (by decide)
    have k517 : AtQ p e below S0 T516 m 219 l506 [(.ref b516), (.ref b516)] := fun tt hq => k516 tt (by
     refine XS.dup X516.here hx rfl (hb hby at_218) rfl rfl ?_
     exact hq)
    obtain ⟨T518, h518, X518, e518, E518, A518, D518, -, st518⟩ := newO X516 hx hZ hown (wq hw 10 rfl) (wq hw 11 rfl) (wq hw 12 rfl) e516 (g := (mkF m 219 l506 [(.ref b516), (.ref b516)])) rfl (hb hby at_219) (by decide) (by decide)
    obtain ⟨b518, g518⟩ : ∃ z, z = h516.size := ⟨_, rfl⟩
    rw [← g518] at A518 D518 st518
    have k518 : AtQ p e below S0 T518 m 222 l506 [(.ref b518), (.ref b516), (.ref b516)] := fun tt hq => k517 tt (st518 tt hq)
    have z518 : h516.size ≤ h518.size := E518.1
    have y518 : @LT.lt Nat instLTNat b518 h518.size := A518.lt
    have C518 := C516.trans (CHr.ext E518 C516.1)
    have F518_name : FqC Z h518 b518 .null := D518 (Or.inr (wq hw 74 rfl)) (ty := (.object "java/lang/String")) (by decide)
    have F518_text : FqD Z h518 b518 .null := D518 (Or.inr (wq hw 76 rfl)) (ty := (.object "java/lang/String")) (by decide)
    have k519 : AtQ p e below S0 T518 m 223 l506 [(.ref b518), (.ref b518), (.ref b516), (.ref b516)] := fun tt hq => k518 tt (by
     refine XS.dup X518.here hx rfl (hb hby at_222) rfl rfl ?_
     exact hq)
    obtain ⟨a520, T520, h520, kk520, b520, c520, X520, e520, E520, hS520, hk520, hZ520a, hown520a, A520, Fc520, Fv520, V520, ya520, yb520, Cq520, -, hne520, st520⟩ := ldcCH X518 hx hZ hown (wq hw 13 rfl) (own_wS hw) e518 hS0 (by omega) (own_EW hw) (List.mem_of_getElem? (i := 0) rfl) C518.1 (vs := [(.int 102)]) (z := (1 : Int32)) ⟨by decide, by decide⟩ (by decide) (by decide) (g := (mkF m 223 l506 [(.ref b518), (.ref b518), (.ref b516), (.ref b516)])) rfl (hb hby at_223) (n := 4) (by decide) (by decide) (by decide) (by decide)
    have k520 : AtQ p e below S0 T520 m 225 l506 [(.ref a520), (.ref b518), (.ref b518), (.ref b516), (.ref b516)] := fun tt hq => k519 tt (st520 tt hq)
    have hZ520 : Z.Warmed39 T520.vm := hZ520a
    have hown520 : T520.vm.findClass "com/example/ceruline/ceruline/parsing/SourceReaderAtEndPinLaw" = some m.cls := hown520a
    have z520 : h518.size ≤ h520.size := E520.1
    have C520 := C518.trans Cq520
    obtain ⟨T521, h521, X521, e521, E521, A521, D521, -, st521⟩ := newO X520 hx hZ520 hown520 (wq hw 21 rfl) (wq hw 15 rfl) (wq hw 14 rfl) e520 (g := (mkF m 225 l506 [(.ref a520), (.ref b518), (.ref b518), (.ref b516), (.ref b516)])) rfl (hb hby at_225) (by decide) (by decide)
    obtain ⟨b521, g521⟩ : ∃ z, z = h520.size := ⟨_, rfl⟩
    rw [← g521] at A521 D521 st521
    have k521 : AtQ p e below S0 T521 m 228 l506 [(.ref b521), (.ref a520), (.ref b518), (.ref b518), (.ref b516), (.ref b516)] := fun tt hq => k520 tt (st521 tt hq)
    have z521 : h520.size ≤ h521.size := E521.1
    have y521 : @LT.lt Nat instLTNat b521 h521.size := A521.lt
    have C521 := C520.trans (CHr.ext E521 C520.1)
    have Sf521 : Safe Z own_EL T520.vm h521 b521 := Safe.ext E521 C520.1 (Safe.new (by omega))
    have F521_value : FqA Z h521 b521 .null := D521 (Or.inr (wq hw 17 rfl)) (ty := (.array .byte)) (by decide)
    have F521_coder : FqB Z h521 b521 (.int 0) := D521 (Or.inr (wq hw 18 rfl)) (ty := .byte) (by decide)
    have k522 : AtQ p e below S0 T521 m 231 l506 [(.ref b504), (.ref b521), (.ref b521), (.ref a520), (.ref b518), (.ref b518), (.ref b516), (.ref b516)] := fun tt hq => k521 tt (by
     refine XS.dup X521.here hx rfl (hb hby at_228) rfl rfl ?_
     refine XS.aload X521.here hx rfl (hb hby at_229) rfl rfl ?_
     exact hq)
    have f523 : Old Z n0 h521 := (((((((((O0.ext E504).wr W508 (by omega)).wr W510 (by omega)).wr W512 (by omega)).wr W514 (by omega)).ext E516).ext E518).ext E520).ext E521)
    have f524 : Arv Z h521 b504 c504 .char (4 : Int32) [(.int 55357), (.int 56832), (.int (p2 &&& (255 : Int32))), (.int v497)] (.int 0) := ((((V514.ext E516).ext E518).ext E520).ext E521)
    obtain ⟨_, T525, L525, X525, ⟨rfl, Nq525, Kq525, t525, kt525, gt525, P5250, P5251, P5252, P5253⟩, k525a⟩ := callC' X521 hx hZ520 (y := yqD) rfl hown520 (wq hw 22 rfl) (wq hw 23 rfl) (wq hw 24 rfl) (by decide) (backC (W := 6) (rm_n1u1 l Z a0 hw zc b521 b504 (4 : Int32) (8 : Int32) _ .null (.int 0) c504 _ h521 n0 (by omega) S_c hzc f523 A521 F521_value F521_coder (by omega) (by omega) (by decide) (by decide) (rm_c3_4_0 l Z a0 hw b504 c504 (55357 : Int32) (56832 : Int32) (p2 &&& (255 : Int32)) v497 h521 n0 (by omega) S_ad S_hi S_lo f523 f524 (by omega) (by decide) (by decide) (by decide)) f524) hZ520 (wq hw 24 rfl) (wq hw 14 rfl) (by decide) (by decide)) e521 (argsL := [(.ref b504)]) (rest := [(.ref b521), (.ref a520), (.ref b518), (.ref b518), (.ref b516), (.ref b516)]) rfl rfl pd_10 rfl (by rw [hml]; rfl) (hb hby at_231) (Nat.le_of_eq rfl) (by decide) (by decide) k522
    have k525 : AtQ p e below S0 T525 m 234 l506 [(.ref b521), (.ref a520), (.ref b518), (.ref b518), (.ref b516), (.ref b516)] := k525a
    have N525 := N514.app Nq525
    obtain ⟨h525, e525⟩ : ∃ z, T525.heap = z := ⟨_, rfl⟩
    rw [e525] at Kq525 P5250 P5251 P5252 P5253
    have z525 : h521.size ≤ h525.size := Kq525.1
    have C525 := C521.trans (CHr.keep Kq525 (sfS Sf521 sf0) C521.1)
    have y525 : @LT.lt Nat instLTNat t525 h525.size := P5253.lt
    have f526 : Exa Z h525 b518 "com/example/ceruline/ceruline/source/SourceFile" := (((A518.ext E520).ext E521).keep Kq525)
    have f527 : FqC Z h525 b518 .null := (((F518_name.ext E520).ext E521).keep Kq525 (nin1 (by omega)))
    have f528 : FqD Z h525 b518 .null := (((F518_text.ext E520).ext E521).keep Kq525 (nin1 (by omega)))
    obtain ⟨_, T529, L529, X529, ⟨rfl, Nq529, Kq529, P5290, P5291, P5292⟩, k529a⟩ := callC' X525 hx hZ520 (y := yqM) rfl hown520 (wq hw 64 rfl) (wq hw 65 rfl) (wq hw 66 rfl) (by decide) (backC (W := 3) (rm_sfi l Z a0 hw b518 a520 b521 h525 n0 (by omega) f526 f527 f528 (by omega)) hZ520 (wq hw 66 rfl) (wq hw 12 rfl) (by decide) (by decide)) e525 (argsL := [(.ref a520), (.ref b521)]) (rest := [(.ref b518), (.ref b516), (.ref b516)]) rfl rfl pd_11 rfl (by rw [hml]; rfl) (hb hby at_234) (Nat.le_of_eq rfl) (by decide) (by decide) k525
    have k529 : AtQ p e below S0 T529 m 237 l506 [(.ref b518), (.ref b516), (.ref b516)] := k529a
    have N529 := N525.app Nq529
    obtain ⟨h529, e529⟩ : ∃ z, T529.heap = z := ⟨_, rfl⟩
    rw [e529] at Kq529 P5290 P5291 P5292
    have z529 : h525.size ≤ h529.size := Kq529.1
    have C529 := C525.trans (CHr.keep Kq529 (sfS (Safe.exa hZ520.alike f526 (by decide) (by decide)) sf0) C525.1)
    have f530 : Exa Z h529 b516 "com/example/ceruline/ceruline/parsing/SourceReader" := (((((A516.ext E518).ext E520).ext E521).keep Kq525).keep Kq529)
    have f531 : FqE Z h529 b516 .null := (((((F516_source.ext E518).ext E520).ext E521).keep Kq525 (nin1 (by omega))).keep Kq529 (nin1 (by omega)))
    have f532 : FqF Z h529 b516 .null := (((((F516_text.ext E518).ext E520).ext E521).keep Kq525 (nin1 (by omega))).keep Kq529 (nin1 (by omega)))
    have f533 : FqG Z h529 b516 (.int 0) := (((((F516_offset.ext E518).ext E520).ext E521).keep Kq525 (nin1 (by omega))).keep Kq529 (nin1 (by omega)))
    have f534 : FqH Z h529 b516 (.int 0) := (((((F516_line.ext E518).ext E520).ext E521).keep Kq525 (nin1 (by omega))).keep Kq529 (nin1 (by omega)))
    have f535 : FqI Z h529 b516 (.int 0) := (((((F516_column.ext E518).ext E520).ext E521).keep Kq525 (nin1 (by omega))).keep Kq529 (nin1 (by omega)))
    obtain ⟨_, T536, L536, X536, ⟨rfl, Nq536, Kq536, P536_0, P536_1, P536_2, P536_3, P536_4, P536_5⟩, k536a⟩ := callC' X529 hx hZ520 (y := yqO) rfl hown520 (wq hw 77 rfl) (wq hw 78 rfl) (wq hw 79 rfl) (by decide) (backC (W := 1) (rm_sri l Z a0 hw b516 b518 b521 h529 n0 (by omega) f530 f531 f532 f533 f534 f535 P5290 P5292 (by omega) (by omega)) hZ520 (wq hw 79 rfl) (wq hw 9 rfl) (by decide) (by decide)) e529 (argsL := [(.ref b518)]) (rest := [(.ref b516)]) rfl rfl pd_12 rfl (by rw [hml]; rfl) (hb hby at_237) (Nat.le_of_eq rfl) (by decide) (by decide) k529
    have k536 : AtQ p e below S0 T536 m 240 l506 [(.ref b516)] := k536a
    have N536 := N529.app Nq536
    obtain ⟨h536, e536⟩ : ∃ z, T536.heap = z := ⟨_, rfl⟩
    rw [e536] at Kq536 P536_0 P536_1 P536_2 P536_3 P536_4 P536_5
    have z536 : h529.size ≤ h536.size := Kq536.1
    have C536 := C529.trans (CHr.keep Kq536 (sfS (Safe.exa hZ520.alike f530 (by decide) (by decide)) sf0) C529.1)
    let l537 : Array Slot := #[(vi p0), (vi p1), (vi p2), (vi p3), (vi 2), (vi 1), (vi 1), (vi 4), (vi 3), (vi v490), (vi (p2 &&& (255 : Int32))), (vi v497), (vi v501), (vr b504), (vi 2), (vr b516), .unset, .unset]
    have k538 : AtQ p e below S0 T536 m 242 l537 [] := fun tt hq => k536 tt (by
     refine XS.astore X536.here hx rfl (hb hby at_240) rfl rfl (l' := l537) rfl ?_
     exact hq)
    have f539 : Exa Z h536 b521 "java/lang/String" := ((P5250.keep Kq529).keep Kq536)
    have f540 : FqA Z h536 b521 (.ref t525) := ((P5251.keep Kq529 (nin1 (by omega))).keep Kq536 (nin1 (by omega)))
    have f541 : FqB Z h536 b521 (.int 1) := ((P5252.keep Kq529 (nin1 (by omega))).keep Kq536 (nin1 (by omega)))
    have f542 : Arv Z h536 t525 kt525 .byte (8 : Int32) [(.int (ulo (55357 : Int32))), (.int (uhi (55357 : Int32))), (.int (ulo (56832 : Int32))), (.int (uhi (56832 : Int32))), (.int (ulo (p2 &&& (255 : Int32)))), (.int (uhi (p2 &&& (255 : Int32)))), (.int (ulo v497)), (.int (uhi v497))] (.int 0) := ((P5253.keep Kq529 (nin1 (by omega))).keep Kq536 (nin1 (by omega)))
    have f543 : Old Z n0 h536 := (((f523.keep Kq525 (allS (by omega) all0)).keep Kq529 (allS (by omega) all0)).keep Kq536 (allS (by omega) all0))
    exact sec_m3 (cd := (1 : Int32)) (o0 := (0 : Int32)) (o1 := (2 : Int32)) (o2 := (3 : Int32)) (o3 := (4 : Int32)) hw hx hby hml hret hlk hnm hown520 hZ520 X536 e536 k538 N536 C536 hS520 (by omega) (by omega) (by decide) (by decide) S_c hzc P536_0 P536_1 P536_2 P536_3 P536_4 P536_5 f539 f540 f541 f542 f543 rfl (by decide) (by decide) (by decide) (by decide) (by rw [hv490]; exact own_k3 _) (by omega) (by omega) (by omega) (fun H xl xc hn g10 g0 g1 g2 g3 g4 g5 g6 g7 g8 g9 => rm_adv2 l Z a0 hw b516 b518 b521 (0 : Int32) xl xc (128512 : Int32) (2 : Int32) H n0 (by omega) g0 g1 g2 g3 g4 g5 g6 (by omega) (rm_cpu l Z a0 hw zc fm b521 t525 kt525 (8 : Int32) _ (0 : Int32) (4 : Int32) (128512 : Int32) H n0 (by omega) S_c hzc S_f hfm g10 g6 g7 g8 g9 (by decide) (by decide) (by decide) (rm_cp3u l Z a0 hw t525 (0 : Int32) (4 : Int32) (128512 : Int32) H n0 (by omega) (rm_cp4p l Z a0 hw t525 (0 : Int32) (4 : Int32) H n0 (by omega) S_ad g10 (rm_get l Z a0 hw t525 kt525 (8 : Int32) _ (0 : Int32) (0 : Int32) (ulo (55357 : Int32)) (uhi (55357 : Int32)) (55357 : Int32) H n0 (by omega) S_ad S_hi S_lo g10 g9 (by decide) (by decide) (by decide) rfl rfl (own_gc (by decide) (by decide)) (by decide) (by decide)) (rm_get l Z a0 hw t525 kt525 (8 : Int32) _ (1 : Int32) (2 : Int32) (ulo (56832 : Int32)) (uhi (56832 : Int32)) (56832 : Int32) H n0 (by omega) S_ad S_hi S_lo g10 g9 (by decide) (by decide) (by decide) rfl rfl (own_gc (by decide) (by decide)) (by decide) (by decide)) (by decide)))) (by decide) (by decide)) (fun H xl xc hn g10 g0 g1 g2 g3 g4 g5 g6 g7 g8 g9 => rm_adv1 l Z a0 hw b516 b518 b521 (2 : Int32) xl xc (p2 &&& (255 : Int32)) (3 : Int32) H n0 (by omega) g0 g1 g2 g3 g4 g5 g6 (by omega) (rm_cpu l Z a0 hw zc fm b521 t525 kt525 (8 : Int32) _ (2 : Int32) (4 : Int32) (p2 &&& (255 : Int32)) H n0 (by omega) S_c hzc S_f hfm g10 g6 g7 g8 g9 (by decide) (by decide) (by decide) (rm_cp3u l Z a0 hw t525 (2 : Int32) (4 : Int32) (p2 &&& (255 : Int32)) H n0 (by omega) (rm_cp4s l Z a0 hw t525 (2 : Int32) (4 : Int32) (p2 &&& (255 : Int32)) H n0 (by omega) S_ad g10 (rm_get l Z a0 hw t525 kt525 (8 : Int32) _ (2 : Int32) (4 : Int32) (ulo (p2 &&& (255 : Int32))) (uhi (p2 &&& (255 : Int32))) (p2 &&& (255 : Int32)) H n0 (by omega) S_ad S_hi S_lo g10 g9 (by decide) (by decide) (by decide) rfl rfl (own_gc (own_m255 _).1 (own_lt16 (own_m255 _))) (own_m255 _).1 (own_lt16 (own_m255 _))) (own_lt55 (own_m255 _))))) (own_lt16 (own_m255 _)) (by decide)) (fun H xl xc hn g10 g0 g1 g2 g3 g4 g5 g6 g7 g8 g9 => rm_adv1 l Z a0 hw b516 b518 b521 (3 : Int32) xl xc v497 (4 : Int32) H n0 (by omega) g0 g1 g2 g3 g4 g5 g6 (by omega) (rm_cpu l Z a0 hw zc fm b521 t525 kt525 (8 : Int32) _ (3 : Int32) (4 : Int32) v497 H n0 (by omega) S_c hzc S_f hfm g10 g6 g7 g8 g9 (by decide) (by decide) (by decide) (rm_cp3u l Z a0 hw t525 (3 : Int32) (4 : Int32) v497 H n0 (by omega) (rm_cp4s l Z a0 hw t525 (3 : Int32) (4 : Int32) v497 H n0 (by omega) S_ad g10 (rm_get l Z a0 hw t525 kt525 (8 : Int32) _ (3 : Int32) (6 : Int32) (ulo v497) (uhi v497) v497 H n0 (by omega) S_ad S_hi S_lo g10 g9 (by decide) (by decide) (by decide) rfl rfl (own_gc mv497.1 (own_lt16 mv497)) mv497.1 (own_lt16 mv497)) (own_lt55 mv497)))) (own_lt16 mv497) (by decide))
 ·
  have k544 : AtQ p e below S0 s₁ m 3 l1 [(.int 3)] := by have hq := k2; rw [ht3] at hq; exact hq
  let l545 : Array Slot := #[(vi p0), (vi p1), (vi p2), (vi p3), (vi 3), .unset, .unset, .unset, .unset, .unset, .unset, .unset, .unset, .unset, .unset, .unset, .unset, .unset]
  have k546 : AtQ p e below S0 s₁ m 8 l545 [(.int (p3 &&& (1 : Int32)))] := fun tt hq => k544 tt (by
   refine XS.istore X0.here hx rfl (hb hby at_3) rfl (l' := l545) rfl ?_
   refine XS.iloadN X0.here hx rfl (hb hby at_5) rfl ?_
   refine XS.iconst X0.here hx rfl (hb hby at_6) ?_
   refine XS.iand X0.here hx rfl (hb hby at_7) rfl ?_
   exact hq)
  by_cases hc8_547 : (p3 &&& (1 : Int32)) = (0 : Int32)
  ·
   let l548 : Array Slot := #[(vi p0), (vi p1), (vi p2), (vi p3), (vi 3), (vi 0), .unset, .unset, .unset, .unset, .unset, .unset, .unset, .unset, .unset, .unset, .unset, .unset]
   have k549 : AtQ p e below S0 s₁ m 21 l548 [(.int (p3 &&& (2 : Int32)))] := fun tt hq => k546 tt (by
    refine XS.ifYes X0.here hx rfl (pc0 := 8) (pc' := 15) rfl (hb hby at_8) rfl ((if0 _ _).trans (teq hc8_547).1) (by decide) (by decide) ?_
    refine XS.iconst X0.here hx rfl (hb hby at_15) ?_
    refine XS.istore X0.here hx rfl (hb hby at_16) rfl (l' := l548) rfl ?_
    refine XS.iloadN X0.here hx rfl (hb hby at_18) rfl ?_
    refine XS.iconst X0.here hx rfl (hb hby at_19) ?_
    refine XS.iand X0.here hx rfl (hb hby at_20) rfl ?_
    exact hq)
   refine joinT (S0 := S0) X0 e0 (mkF m 29 l548 [(.int (if (p3 &&& (2 : Int32)) = (0 : Int32) then (0 : Int32) else (1 : Int32)))]) (fun kont => ?_) (fun T550 X550 e550 k550 => ?_)
   ·
    by_cases hc21_551 : (p3 &&& (2 : Int32)) = (0 : Int32)
    ·
     have k552 : AtQ p e below S0 s₁ m 29 l548 [(.int 0)] := fun tt hq => k549 tt (by
      refine XS.ifYes X0.here hx rfl (pc0 := 21) (pc' := 28) rfl (hb hby at_21) rfl ((if0 _ _).trans (teq hc21_551).1) (by decide) (by decide) ?_
      refine XS.iconst X0.here hx rfl (hb hby at_28) ?_
      exact hq)
     exact kont s₁ X0 e0 (fun tt hq => k552 tt (by simpa only [if_pos hc21_551, l548] using hq))
    ·
     have k553 : AtQ p e below S0 s₁ m 29 l548 [(.int 1)] := fun tt hq => k549 tt (by
      refine XS.ifNo X0.here hx rfl (hb hby at_21) rfl ((if0 _ _).trans (feq hc21_551).1) ?_
      refine XS.iconst X0.here hx rfl (hb hby at_24) ?_
      refine XS.goto X0.here hx rfl (pc0 := 25) (pc' := 29) rfl (hb hby at_25) (by decide) (by decide) ?_
      exact hq)
     exact kont s₁ X0 e0 (fun tt hq => k553 tt (by simpa only [if_neg hc21_551, l548] using hq))
   obtain ⟨v554, hv554⟩ : ∃ z : Int32, z = (if (p3 &&& (2 : Int32)) = (0 : Int32) then (0 : Int32) else (1 : Int32)) := ⟨_, rfl⟩
   have k554 : AtQ p e below S0 T550 m 29 l548 [(.int v554)] := by rw [hv554]; exact k550
   let l555 : Array Slot := #[(vi p0), (vi p1), (vi p2), (vi p3), (vi 3), (vi 0), (vi v554), .unset, .unset, .unset, .unset, .unset, .unset, .unset, .unset, .unset, .unset, .unset]
   let l556 : Array Slot := #[(vi p0), (vi p1), (vi p2), (vi p3), (vi 3), (vi 0), (vi v554), (vi 3), .unset, .unset, .unset, .unset, .unset, .unset, .unset, .unset, .unset, .unset]
   let l557 : Array Slot := #[(vi p0), (vi p1), (vi p2), (vi p3), (vi 3), (vi 0), (vi v554), (vi 3), (vi 3), .unset, .unset, .unset, .unset, .unset, .unset, .unset, .unset, .unset]
   have k558 : AtQ p e below S0 T550 m 67 l557 [(.int 3), (.int (p1 &&& (7 : Int32)))] := fun tt hq => k554 tt (by
    refine XS.istore X550.here hx rfl (hb hby at_29) rfl (l' := l555) rfl ?_
    refine XS.iload X550.here hx rfl (hb hby at_31) rfl ?_
    refine XS.iload X550.here hx rfl (hb hby at_33) rfl ?_
    refine XS.ifYes X550.here hx rfl (pc0 := 35) (pc' := 42) rfl (hb hby at_35) rfl ((if0 _ _).trans (teq (by decide)).1) (by decide) (by decide) ?_
    refine XS.iconst X550.here hx rfl (hb hby at_42) ?_
    refine XS.iadd X550.here hx rfl (hb hby at_43) rfl ?_
    refine XS.istore X550.here hx rfl (hb hby at_44) rfl (l' := l556) rfl ?_
    refine XS.iload X550.here hx rfl (hb hby at_46) rfl ?_
    refine XS.iload X550.here hx rfl (hb hby at_48) rfl ?_
    refine XS.ifYes X550.here hx rfl (pc0 := 50) (pc' := 57) rfl (hb hby at_50) rfl ((if0 _ _).trans (teq (by decide)).1) (by decide) (by decide) ?_
    refine XS.iconst X550.here hx rfl (hb hby at_57) ?_
    refine XS.iadd X550.here hx rfl (hb hby at_58) rfl ?_
    refine XS.istore X550.here hx rfl (hb hby at_59) rfl (l' := l557) rfl ?_
    refine XS.iloadN X550.here hx rfl (hb hby at_61) rfl ?_
    refine XS.bipush X550.here hx rfl (hb hby at_62) ?_
    refine XS.iand X550.here hx rfl (hb hby at_64) rfl ?_
    refine XS.iload X550.here hx rfl (hb hby at_65) rfl ?_
    exact hq)
   obtain ⟨_, T559, L559, X559, ⟨rfl, Nq559, eq559⟩, k559a⟩ := callS' X550 hx hZ (y := yqK) hown (wq hw 0 rfl) (wq hw 1 rfl) (wq hw 2 rfl) (wq hw 3 rfl) (by decide) (backC (W := 0) (rm_min l Z a0 hw (p1 &&& (7 : Int32)) (3 : Int32) (if (3 : Int32) < (p1 &&& (7 : Int32)) then (3 : Int32) else (p1 &&& (7 : Int32))) h0 n0 (by omega) rfl) hZ (wq hw 3 rfl) (wq hw 2 rfl) (by decide) (by decide)) e550 (argsL := [(.int (p1 &&& (7 : Int32))), (.int 3)]) (rest := []) rfl rfl pd_9 rfl (by rw [hml]; rfl) (hb hby at_67) (Nat.le_of_eq rfl) (by decide) (by decide) k558
   have k559 : AtQ p e below S0 T559 m 70 l557 [(.int (if (3 : Int32) < (p1 &&& (7 : Int32)) then (3 : Int32) else (p1 &&& (7 : Int32))))] := k559a
   have N559 := N0.app Nq559
   have e559 : T559.heap = h0 := eq559
   obtain ⟨v560, hv560⟩ : ∃ z : Int32, z = (if (3 : Int32) < (p1 &&& (7 : Int32)) then (3 : Int32) else (p1 &&& (7 : Int32))) := ⟨_, rfl⟩
   have k560 : AtQ p e below S0 T559 m 70 l557 [(.int v560)] := by rw [hv560]; exact k559
   let l561 : Array Slot := #[(vi p0), (vi p1), (vi p2), (vi p3), (vi 3), (vi 0), (vi v554), (vi 3), (vi 3), (vi v560), .unset, .unset, .unset, .unset, .unset, .unset, .unset, .unset]
   have k562 : AtQ p e below S0 T559 m 78 l561 [(.int ((p2 &&& (255 : Int32)).toUInt32.toUInt16.toUInt32.toInt32))] := fun tt hq => k560 tt (by
    refine XS.istore X559.here hx rfl (hb hby at_70) rfl (l' := l561) rfl ?_
    refine XS.iloadN X559.here hx rfl (hb hby at_72) rfl ?_
    refine XS.sipush X559.here hx rfl (hb hby at_73) ?_
    refine XS.iand X559.here hx rfl (hb hby at_76) rfl ?_
    refine XS.i2c X559.here hx rfl (hb hby at_77) rfl ?_
    exact hq)
   have k563 : AtQ p e below S0 T559 m 78 l561 [(.int (p2 &&& (255 : Int32)))] := by have hq := k562; rw [i2c_mask] at hq; exact hq
   let l564 : Array Slot := #[(vi p0), (vi p1), (vi p2), (vi p3), (vi 3), (vi 0), (vi v554), (vi 3), (vi 3), (vi v560), (vi (p2 &&& (255 : Int32))), .unset, .unset, .unset, .unset, .unset, .unset, .unset]
   have k565 : AtQ p e below S0 T559 m 89 l564 [(.int ((((p2.toUInt32 >>> ((8 : Int32) &&& 31).toUInt32).toInt32) &&& (255 : Int32)).toUInt32.toUInt16.toUInt32.toInt32))] := fun tt hq => k563 tt (by
    refine XS.istore X559.here hx rfl (hb hby at_78) rfl (l' := l564) rfl ?_
    refine XS.iloadN X559.here hx rfl (hb hby at_80) rfl ?_
    refine XS.bipush X559.here hx rfl (hb hby at_81) ?_
    refine XS.iushr X559.here hx rfl (hb hby at_83) rfl ?_
    refine XS.sipush X559.here hx rfl (hb hby at_84) ?_
    refine XS.iand X559.here hx rfl (hb hby at_87) rfl ?_
    refine XS.i2c X559.here hx rfl (hb hby at_88) rfl ?_
    exact hq)
   have k566 : AtQ p e below S0 T559 m 89 l564 [(.int (((p2.toUInt32 >>> ((8 : Int32) &&& 31).toUInt32).toInt32) &&& (255 : Int32)))] := by have hq := k565; rw [i2c_mask] at hq; exact hq
   obtain ⟨v567, hv567⟩ : ∃ z : Int32, z = (((p2.toUInt32 >>> ((8 : Int32) &&& 31).toUInt32).toInt32) &&& (255 : Int32)) := ⟨_, rfl⟩
   have k567 : AtQ p e below S0 T559 m 89 l564 [(.int v567)] := by rw [hv567]; exact k566
   have mv567 : ¬ v567 < (0 : Int32) ∧ ¬ (255 : Int32) < v567 := by rw [hv567]; exact own_m255 _
   let l568 : Array Slot := #[(vi p0), (vi p1), (vi p2), (vi p3), (vi 3), (vi 0), (vi v554), (vi 3), (vi 3), (vi v560), (vi (p2 &&& (255 : Int32))), (vi v567), .unset, .unset, .unset, .unset, .unset, .unset]
   have k569 : AtQ p e below S0 T559 m 100 l568 [(.int ((((p2.toUInt32 >>> ((16 : Int32) &&& 31).toUInt32).toInt32) &&& (255 : Int32)).toUInt32.toUInt16.toUInt32.toInt32))] := fun tt hq => k567 tt (by
    refine XS.istore X559.here hx rfl (hb hby at_89) rfl (l' := l568) rfl ?_
    refine XS.iloadN X559.here hx rfl (hb hby at_91) rfl ?_
    refine XS.bipush X559.here hx rfl (hb hby at_92) ?_
    refine XS.iushr X559.here hx rfl (hb hby at_94) rfl ?_
    refine XS.sipush X559.here hx rfl (hb hby at_95) ?_
    refine XS.iand X559.here hx rfl (hb hby at_98) rfl ?_
    refine XS.i2c X559.here hx rfl (hb hby at_99) rfl ?_
    exact hq)
   have k570 : AtQ p e below S0 T559 m 100 l568 [(.int (((p2.toUInt32 >>> ((16 : Int32) &&& 31).toUInt32).toInt32) &&& (255 : Int32)))] := by have hq := k569; rw [i2c_mask] at hq; exact hq
   obtain ⟨v571, hv571⟩ : ∃ z : Int32, z = (((p2.toUInt32 >>> ((16 : Int32) &&& 31).toUInt32).toInt32) &&& (255 : Int32)) := ⟨_, rfl⟩
   have k571 : AtQ p e below S0 T559 m 100 l568 [(.int v571)] := by rw [hv571]; exact k570
   have mv571 : ¬ v571 < (0 : Int32) ∧ ¬ (255 : Int32) < v571 := by rw [hv571]; exact own_m255 _
   let l572 : Array Slot := #[(vi p0), (vi p1), (vi p2), (vi p3), (vi 3), (vi 0), (vi v554), (vi 3), (vi 3), (vi v560), (vi (p2 &&& (255 : Int32))), (vi v567), (vi v571), .unset, .unset, .unset, .unset, .unset]
   have k573 : AtQ p e below S0 T559 m 104 l572 [(.int 3)] := fun tt hq => k571 tt (by
    refine XS.istore X559.here hx rfl (hb hby at_100) rfl (l' := l572) rfl ?_
    refine XS.iload X559.here hx rfl (hb hby at_102) rfl ?_
    exact hq)
   obtain ⟨T574, h574, c574, X574, e574, E574, A574, st574⟩ := newP X559 hx hZ (wq hw 4 rfl) e559 (g := (mkF m 104 l572 [(.int 3)])) rfl (hb hby at_104) rfl (by decide) (cap := 3) (by decide) (by decide) (by decide) (by decide)
   obtain ⟨b574, g574⟩ : ∃ z, z = h0.size := ⟨_, rfl⟩
   rw [← g574] at A574 st574
   have k574 : AtQ p e below S0 T574 m 106 l572 [(.ref b574)] := fun tt hq => k573 tt (st574 tt hq)
   have z574 : h0.size ≤ h574.size := E574.1
   have C574 := C0.trans (CHr.ext E574 C0.1)
   have V574 : Arv Z h574 b574 c574 .char (3 : Int32) [(.int 0), (.int 0), (.int 0)] (.int 0) := (Arv.new A574 (by decide)).pad (pad_rep [] (.int 0) 3)
   have y574 : @LT.lt Nat instLTNat b574 h574.size := V574.lt
   let l575 : Array Slot := #[(vi p0), (vi p1), (vi p2), (vi p3), (vi 3), (vi 0), (vi v554), (vi 3), (vi 3), (vi v560), (vi (p2 &&& (255 : Int32))), (vi v567), (vi v571), (vr b574), .unset, .unset, .unset, .unset]
   let l576 : Array Slot := #[(vi p0), (vi p1), (vi p2), (vi p3), (vi 3), (vi 0), (vi v554), (vi 3), (vi 3), (vi v560), (vi (p2 &&& (255 : Int32))), (vi v567), (vi v571), (vr b574), (vi 0), .unset, .unset, .unset]
   have k577 : AtQ p e below S0 T574 m 158 l576 [(.int (p2 &&& (255 : Int32))), (.int 0), (.ref b574)] := fun tt hq => k574 tt (by
    refine XS.astore X574.here hx rfl (hb hby at_106) rfl rfl (l' := l575) rfl ?_
    refine XS.iload X574.here hx rfl (hb hby at_108) rfl ?_
    refine XS.ifYes X574.here hx rfl (pc0 := 110) (pc' := 122) rfl (hb hby at_110) rfl ((if0 _ _).trans (teq (by decide)).1) (by decide) (by decide) ?_
    refine XS.iconst X574.here hx rfl (hb hby at_122) ?_
    refine XS.istore X574.here hx rfl (hb hby at_123) rfl (l' := l576) rfl ?_
    refine XS.iload X574.here hx rfl (hb hby at_125) rfl ?_
    refine XS.ifYes X574.here hx rfl (pc0 := 127) (pc' := 147) rfl (hb hby at_127) rfl ((if0 _ _).trans (teq (by decide)).1) (by decide) (by decide) ?_
    refine XS.iload X574.here hx rfl (hb hby at_147) rfl ?_
    refine XS.ifNo X574.here hx rfl (hb hby at_149) rfl ((if0 _ _).trans (tlt (by decide)).2.2.2) ?_
    refine XS.aload X574.here hx rfl (hb hby at_152) rfl rfl ?_
    refine XS.iload X574.here hx rfl (hb hby at_154) rfl ?_
    refine XS.iload X574.here hx rfl (hb hby at_156) rfl ?_
    exact hq)
   obtain ⟨cl578, Ar578, q578, S578, M578, G578, J578⟩ := id V574
   obtain ⟨T578, h578, X578, e578, W578, st578⟩ := stC X574 hx hZ e574 Ar578 (j := (0 : Int32)) (inb_of S578 (⟨by decide, by decide⟩)) (g := (mkF m 158 l576 [(.int (p2 &&& (255 : Int32))), (.int 0), (.ref b574)])) rfl rfl (hb hby at_158)
   have k578 : AtQ p e below S0 T578 m 159 l576 [] := fun tt hq => k577 tt (st578 tt hq)
   have z578 : h578.size = h574.size := W578.size
   have C578 := C574.trans (CHr.wr W578 (Safe.arv hZ.alike V574 (by decide)) C574.1)
   rw [own_narc (own_m255 _)] at W578
   have V578 : Arv Z h578 b574 c574 .char (3 : Int32) [(.int (p2 &&& (255 : Int32))), (.int 0), (.int 0)] (.int 0) := Arv.set Ar578 q578 S578 M578 G578 J578 (own_fitc (own_m255 _)) W578 0 rfl (Nat.le_of_ble_eq_true rfl)
   have N578 := Fr.snoc X578 N559 (by omega : n0 ≤ b574)
   have k579 : AtQ p e below S0 T578 m 173 l576 [(.int v567), (.int 1), (.ref b574)] := fun tt hq => k578 tt (by
    refine XS.iload X578.here hx rfl (hb hby at_159) rfl ?_
    refine XS.iconst X578.here hx rfl (hb hby at_161) ?_
    refine XS.icmpNo X578.here hx rfl (hb hby at_162) rfl (tlt (by decide)).2.2.2 ?_
    refine XS.aload X578.here hx rfl (hb hby at_165) rfl rfl ?_
    refine XS.iload X578.here hx rfl (hb hby at_167) rfl ?_
    refine XS.iconst X578.here hx rfl (hb hby at_169) ?_
    refine XS.iadd X578.here hx rfl (hb hby at_170) rfl ?_
    refine XS.iload X578.here hx rfl (hb hby at_171) rfl ?_
    exact hq)
   obtain ⟨cl580, Ar580, q580, S580, M580, G580, J580⟩ := id V578
   obtain ⟨T580, h580, X580, e580, W580, st580⟩ := stC X578 hx hZ e578 Ar580 (j := (1 : Int32)) (inb_of S580 (⟨by decide, by decide⟩)) (g := (mkF m 173 l576 [(.int v567), (.int 1), (.ref b574)])) rfl rfl (hb hby at_173)
   have k580 : AtQ p e below S0 T580 m 174 l576 [] := fun tt hq => k579 tt (st580 tt hq)
   have z580 : h580.size = h578.size := W580.size
   have C580 := C578.trans (CHr.wr W580 (Safe.arv hZ.alike V578 (by decide)) C578.1)
   rw [own_narc mv567] at W580
   have V580 : Arv Z h580 b574 c574 .char (3 : Int32) [(.int (p2 &&& (255 : Int32))), (.int v567), (.int 0)] (.int 0) := Arv.set Ar580 q580 S580 M580 G580 J580 (own_fitc mv567) W580 1 rfl (Nat.le_of_ble_eq_true rfl)
   have N580 := Fr.snoc X580 N578 (by omega : n0 ≤ b574)
   have k581 : AtQ p e below S0 T580 m 188 l576 [(.int v571), (.int 2), (.ref b574)] := fun tt hq => k580 tt (by
    refine XS.iload X580.here hx rfl (hb hby at_174) rfl ?_
    refine XS.iconst X580.here hx rfl (hb hby at_176) ?_
    refine XS.icmpNo X580.here hx rfl (hb hby at_177) rfl (tlt (by decide)).2.2.2 ?_
    refine XS.aload X580.here hx rfl (hb hby at_180) rfl rfl ?_
    refine XS.iload X580.here hx rfl (hb hby at_182) rfl ?_
    refine XS.iconst X580.here hx rfl (hb hby at_184) ?_
    refine XS.iadd X580.here hx rfl (hb hby at_185) rfl ?_
    refine XS.iload X580.here hx rfl (hb hby at_186) rfl ?_
    exact hq)
   obtain ⟨cl582, Ar582, q582, S582, M582, G582, J582⟩ := id V580
   obtain ⟨T582, h582, X582, e582, W582, st582⟩ := stC X580 hx hZ e580 Ar582 (j := (2 : Int32)) (inb_of S582 (⟨by decide, by decide⟩)) (g := (mkF m 188 l576 [(.int v571), (.int 2), (.ref b574)])) rfl rfl (hb hby at_188)
   have k582 : AtQ p e below S0 T582 m 189 l576 [] := fun tt hq => k581 tt (st582 tt hq)
   have z582 : h582.size = h580.size := W582.size
   have C582 := C580.trans (CHr.wr W582 (Safe.arv hZ.alike V580 (by decide)) C580.1)
   rw [own_narc mv571] at W582
   have V582 : Arv Z h582 b574 c574 .char (3 : Int32) [(.int (p2 &&& (255 : Int32))), (.int v567), (.int v571)] (.int 0) := Arv.set Ar582 q582 S582 M582 G582 J582 (own_fitc mv571) W582 2 rfl (Nat.le_of_ble_eq_true rfl)
   have N582 := Fr.snoc X582 N580 (by omega : n0 ≤ b574)
   have k583 : AtQ p e below S0 T582 m 215 l576 [] := fun tt hq => k582 tt (by
    refine XS.iload X582.here hx rfl (hb hby at_189) rfl ?_
    refine XS.ifYes X582.here hx rfl (pc0 := 191) (pc' := 215) rfl (hb hby at_191) rfl ((if0 _ _).trans (teq (by decide)).1) (by decide) (by decide) ?_
    exact hq)
   obtain ⟨T584, h584, X584, e584, E584, A584, D584, -, st584⟩ := newO X582 hx hZ hown (wq hw 7 rfl) (wq hw 8 rfl) (wq hw 9 rfl) e582 (g := (mkF m 215 l576 [])) rfl (hb hby at_215) (by decide) (by decide)
   obtain ⟨b584, g584⟩ : ∃ z, z = h582.size := ⟨_, rfl⟩
   rw [← g584] at A584 D584 st584
   have k584 : AtQ p e below S0 T584 m 218 l576 [(.ref b584)] := fun tt hq => k583 tt (st584 tt hq)
   have z584 : h582.size ≤ h584.size := E584.1
   have y584 : @LT.lt Nat instLTNat b584 h584.size := A584.lt
   have C584 := C582.trans (CHr.ext E584 C582.1)
   have F584_line : FqH Z h584 b584 (.int 0) := D584 (Or.inl (wq hw 82 rfl)) (ty := .int) (by decide)
   have F584_column : FqI Z h584 b584 (.int 0) := D584 (Or.inl (wq hw 84 rfl)) (ty := .int) (by decide)
   have F584_source : FqE Z h584 b584 .null := D584 (Or.inr (wq hw 86 rfl)) (ty := (.object "com/example/ceruline/ceruline/source/SourceFile")) (by decide)
   have F584_text : FqF Z h584 b584 .null := D584 (Or.inr (wq hw 93 rfl)) (ty := (.object "java/lang/String")) (by decide)
   have F584_offset : FqG Z h584 b584 (.int 0) := D584 (Or.inl (wq hw 100 rfl)) (ty := .int) (by decide)
   have k585 : AtQ p e below S0 T584 m 219 l576 [(.ref b584), (.ref b584)] := fun tt hq => k584 tt (by
    refine XS.dup X584.here hx rfl (hb hby at_218) rfl rfl ?_
    exact hq)
   obtain ⟨T586, h586, X586, e586, E586, A586, D586, -, st586⟩ := newO X584 hx hZ hown (wq hw 10 rfl) (wq hw 11 rfl) (wq hw 12 rfl) e584 (g := (mkF m 219 l576 [(.ref b584), (.ref b584)])) rfl (hb hby at_219) (by decide) (by decide)
   obtain ⟨b586, g586⟩ : ∃ z, z = h584.size := ⟨_, rfl⟩
   rw [← g586] at A586 D586 st586
   have k586 : AtQ p e below S0 T586 m 222 l576 [(.ref b586), (.ref b584), (.ref b584)] := fun tt hq => k585 tt (st586 tt hq)
   have z586 : h584.size ≤ h586.size := E586.1
   have y586 : @LT.lt Nat instLTNat b586 h586.size := A586.lt
   have C586 := C584.trans (CHr.ext E586 C584.1)
   have F586_name : FqC Z h586 b586 .null := D586 (Or.inr (wq hw 74 rfl)) (ty := (.object "java/lang/String")) (by decide)
   have F586_text : FqD Z h586 b586 .null := D586 (Or.inr (wq hw 76 rfl)) (ty := (.object "java/lang/String")) (by decide)
   have k587 : AtQ p e below S0 T586 m 223 l576 [(.ref b586), (.ref b586), (.ref b584), (.ref b584)] := fun tt hq => k586 tt (by
    refine XS.dup X586.here hx rfl (hb hby at_222) rfl rfl ?_
    exact hq)
   obtain ⟨a588, T588, h588, kk588, b588, c588, X588, e588, E588, hS588, hk588, hZ588a, hown588a, A588, Fc588, Fv588, V588, ya588, yb588, Cq588, -, hne588, st588⟩ := ldcCH X586 hx hZ hown (wq hw 13 rfl) (own_wS hw) e586 hS0 (by omega) (own_EW hw) (List.mem_of_getElem? (i := 0) rfl) C586.1 (vs := [(.int 102)]) (z := (1 : Int32)) ⟨by decide, by decide⟩ (by decide) (by decide) (g := (mkF m 223 l576 [(.ref b586), (.ref b586), (.ref b584), (.ref b584)])) rfl (hb hby at_223) (n := 4) (by decide) (by decide) (by decide) (by decide)
   have k588 : AtQ p e below S0 T588 m 225 l576 [(.ref a588), (.ref b586), (.ref b586), (.ref b584), (.ref b584)] := fun tt hq => k587 tt (st588 tt hq)
   have hZ588 : Z.Warmed39 T588.vm := hZ588a
   have hown588 : T588.vm.findClass "com/example/ceruline/ceruline/parsing/SourceReaderAtEndPinLaw" = some m.cls := hown588a
   have z588 : h586.size ≤ h588.size := E588.1
   have C588 := C586.trans Cq588
   obtain ⟨T589, h589, X589, e589, E589, A589, D589, -, st589⟩ := newO X588 hx hZ588 hown588 (wq hw 21 rfl) (wq hw 15 rfl) (wq hw 14 rfl) e588 (g := (mkF m 225 l576 [(.ref a588), (.ref b586), (.ref b586), (.ref b584), (.ref b584)])) rfl (hb hby at_225) (by decide) (by decide)
   obtain ⟨b589, g589⟩ : ∃ z, z = h588.size := ⟨_, rfl⟩
   rw [← g589] at A589 D589 st589
   have k589 : AtQ p e below S0 T589 m 228 l576 [(.ref b589), (.ref a588), (.ref b586), (.ref b586), (.ref b584), (.ref b584)] := fun tt hq => k588 tt (st589 tt hq)
   have z589 : h588.size ≤ h589.size := E589.1
   have y589 : @LT.lt Nat instLTNat b589 h589.size := A589.lt
   have C589 := C588.trans (CHr.ext E589 C588.1)
   have Sf589 : Safe Z own_EL T588.vm h589 b589 := Safe.ext E589 C588.1 (Safe.new (by omega))
   have F589_value : FqA Z h589 b589 .null := D589 (Or.inr (wq hw 17 rfl)) (ty := (.array .byte)) (by decide)
   have F589_coder : FqB Z h589 b589 (.int 0) := D589 (Or.inr (wq hw 18 rfl)) (ty := .byte) (by decide)
   have k590 : AtQ p e below S0 T589 m 231 l576 [(.ref b574), (.ref b589), (.ref b589), (.ref a588), (.ref b586), (.ref b586), (.ref b584), (.ref b584)] := fun tt hq => k589 tt (by
    refine XS.dup X589.here hx rfl (hb hby at_228) rfl rfl ?_
    refine XS.aload X589.here hx rfl (hb hby at_229) rfl rfl ?_
    exact hq)
   have f591 : Arv Z h589 b574 c574 .char (3 : Int32) [(.int (p2 &&& (255 : Int32))), (.int v567), (.int v571)] (.int 0) := ((((V582.ext E584).ext E586).ext E588).ext E589)
   have f592 : Old Z n0 h589 := ((((((((O0.ext E574).wr W578 (by omega)).wr W580 (by omega)).wr W582 (by omega)).ext E584).ext E586).ext E588).ext E589)
   obtain ⟨_, T593, L593, X593, ⟨rfl, Nq593, Kq593, t593, kt593, gt593, P5930, P5931, P5932, P5933⟩, k593a⟩ := callC' X589 hx hZ588 (y := yqD) rfl hown588 (wq hw 22 rfl) (wq hw 23 rfl) (wq hw 24 rfl) (by decide) (backC (W := 6) (rm_n1u0 l Z a0 hw zc b589 b574 (3 : Int32) (3 : Int32) _ .null (.int 0) c574 _ h589 n0 (by omega) S_c hzc f592 A589 F589_value F589_coder (by omega) (by omega) (by decide) (by decide) (rm_c3_3 l Z a0 hw b574 c574 (p2 &&& (255 : Int32)) v567 v571 h589 n0 (by omega) f591 (by omega) (own_m255 _) mv567 mv571) f591) hZ588 (wq hw 24 rfl) (wq hw 14 rfl) (by decide) (by decide)) e589 (argsL := [(.ref b574)]) (rest := [(.ref b589), (.ref a588), (.ref b586), (.ref b586), (.ref b584), (.ref b584)]) rfl rfl pd_10 rfl (by rw [hml]; rfl) (hb hby at_231) (Nat.le_of_eq rfl) (by decide) (by decide) k590
   have k593 : AtQ p e below S0 T593 m 234 l576 [(.ref b589), (.ref a588), (.ref b586), (.ref b586), (.ref b584), (.ref b584)] := k593a
   have N593 := N582.app Nq593
   obtain ⟨h593, e593⟩ : ∃ z, T593.heap = z := ⟨_, rfl⟩
   rw [e593] at Kq593 P5930 P5931 P5932 P5933
   have z593 : h589.size ≤ h593.size := Kq593.1
   have C593 := C589.trans (CHr.keep Kq593 (sfS Sf589 sf0) C589.1)
   have y593 : @LT.lt Nat instLTNat t593 h593.size := P5933.lt
   have f594 : Exa Z h593 b586 "com/example/ceruline/ceruline/source/SourceFile" := (((A586.ext E588).ext E589).keep Kq593)
   have f595 : FqC Z h593 b586 .null := (((F586_name.ext E588).ext E589).keep Kq593 (nin1 (by omega)))
   have f596 : FqD Z h593 b586 .null := (((F586_text.ext E588).ext E589).keep Kq593 (nin1 (by omega)))
   obtain ⟨_, T597, L597, X597, ⟨rfl, Nq597, Kq597, P5970, P5971, P5972⟩, k597a⟩ := callC' X593 hx hZ588 (y := yqM) rfl hown588 (wq hw 64 rfl) (wq hw 65 rfl) (wq hw 66 rfl) (by decide) (backC (W := 3) (rm_sfi l Z a0 hw b586 a588 b589 h593 n0 (by omega) f594 f595 f596 (by omega)) hZ588 (wq hw 66 rfl) (wq hw 12 rfl) (by decide) (by decide)) e593 (argsL := [(.ref a588), (.ref b589)]) (rest := [(.ref b586), (.ref b584), (.ref b584)]) rfl rfl pd_11 rfl (by rw [hml]; rfl) (hb hby at_234) (Nat.le_of_eq rfl) (by decide) (by decide) k593
   have k597 : AtQ p e below S0 T597 m 237 l576 [(.ref b586), (.ref b584), (.ref b584)] := k597a
   have N597 := N593.app Nq597
   obtain ⟨h597, e597⟩ : ∃ z, T597.heap = z := ⟨_, rfl⟩
   rw [e597] at Kq597 P5970 P5971 P5972
   have z597 : h593.size ≤ h597.size := Kq597.1
   have C597 := C593.trans (CHr.keep Kq597 (sfS (Safe.exa hZ588.alike f594 (by decide) (by decide)) sf0) C593.1)
   have f598 : Exa Z h597 b584 "com/example/ceruline/ceruline/parsing/SourceReader" := (((((A584.ext E586).ext E588).ext E589).keep Kq593).keep Kq597)
   have f599 : FqE Z h597 b584 .null := (((((F584_source.ext E586).ext E588).ext E589).keep Kq593 (nin1 (by omega))).keep Kq597 (nin1 (by omega)))
   have f600 : FqF Z h597 b584 .null := (((((F584_text.ext E586).ext E588).ext E589).keep Kq593 (nin1 (by omega))).keep Kq597 (nin1 (by omega)))
   have f601 : FqG Z h597 b584 (.int 0) := (((((F584_offset.ext E586).ext E588).ext E589).keep Kq593 (nin1 (by omega))).keep Kq597 (nin1 (by omega)))
   have f602 : FqH Z h597 b584 (.int 0) := (((((F584_line.ext E586).ext E588).ext E589).keep Kq593 (nin1 (by omega))).keep Kq597 (nin1 (by omega)))
   have f603 : FqI Z h597 b584 (.int 0) := (((((F584_column.ext E586).ext E588).ext E589).keep Kq593 (nin1 (by omega))).keep Kq597 (nin1 (by omega)))
   obtain ⟨_, T604, L604, X604, ⟨rfl, Nq604, Kq604, P604_0, P604_1, P604_2, P604_3, P604_4, P604_5⟩, k604a⟩ := callC' X597 hx hZ588 (y := yqO) rfl hown588 (wq hw 77 rfl) (wq hw 78 rfl) (wq hw 79 rfl) (by decide) (backC (W := 1) (rm_sri l Z a0 hw b584 b586 b589 h597 n0 (by omega) f598 f599 f600 f601 f602 f603 P5970 P5972 (by omega) (by omega)) hZ588 (wq hw 79 rfl) (wq hw 9 rfl) (by decide) (by decide)) e597 (argsL := [(.ref b586)]) (rest := [(.ref b584)]) rfl rfl pd_12 rfl (by rw [hml]; rfl) (hb hby at_237) (Nat.le_of_eq rfl) (by decide) (by decide) k597
   have k604 : AtQ p e below S0 T604 m 240 l576 [(.ref b584)] := k604a
   have N604 := N597.app Nq604
   obtain ⟨h604, e604⟩ : ∃ z, T604.heap = z := ⟨_, rfl⟩
   rw [e604] at Kq604 P604_0 P604_1 P604_2 P604_3 P604_4 P604_5
   have z604 : h597.size ≤ h604.size := Kq604.1
   have C604 := C597.trans (CHr.keep Kq604 (sfS (Safe.exa hZ588.alike f598 (by decide) (by decide)) sf0) C597.1)
   let l605 : Array Slot := #[(vi p0), (vi p1), (vi p2), (vi p3), (vi 3), (vi 0), (vi v554), (vi 3), (vi 3), (vi v560), (vi (p2 &&& (255 : Int32))), (vi v567), (vi v571), (vr b574), (vi 0), (vr b584), .unset, .unset]
   have k606 : AtQ p e below S0 T604 m 242 l605 [] := fun tt hq => k604 tt (by
    refine XS.astore X604.here hx rfl (hb hby at_240) rfl rfl (l' := l605) rfl ?_
    exact hq)
   have f607 : Exa Z h604 b589 "java/lang/String" := ((P5930.keep Kq597).keep Kq604)
   have f608 : FqA Z h604 b589 (.ref t593) := ((P5931.keep Kq597 (nin1 (by omega))).keep Kq604 (nin1 (by omega)))
   have f609 : FqB Z h604 b589 (.int 0) := ((P5932.keep Kq597 (nin1 (by omega))).keep Kq604 (nin1 (by omega)))
   have f610 : Arv Z h604 t593 kt593 .byte (3 : Int32) [(.int (nar .byte ((p2 &&& (255 : Int32)).toInt8.toInt32))), (.int (nar .byte (v567.toInt8.toInt32))), (.int (nar .byte (v571.toInt8.toInt32)))] (.int 0) := ((P5933.keep Kq597 (nin1 (by omega))).keep Kq604 (nin1 (by omega)))
   have f611 : Old Z n0 h604 := (((f592.keep Kq593 (allS (by omega) all0)).keep Kq597 (allS (by omega) all0)).keep Kq604 (allS (by omega) all0))
   exact sec_m3 (cd := (0 : Int32)) (o0 := (0 : Int32)) (o1 := (1 : Int32)) (o2 := (2 : Int32)) (o3 := (3 : Int32)) hw hx hby hml hret hlk hnm hown588 hZ588 X604 e604 k606 N604 C604 hS588 (by omega) (by omega) (by decide) (by decide) S_c hzc P604_0 P604_1 P604_2 P604_3 P604_4 P604_5 f607 f608 f609 f610 f611 rfl (by decide) (by decide) (by decide) (by decide) (by rw [hv560]; exact own_k3 _) (by omega) (by omega) (by omega) (fun H xl xc hn g10 g0 g1 g2 g3 g4 g5 g6 g7 g8 g9 => rm_adv1 l Z a0 hw b584 b586 b589 (0 : Int32) xl xc ((nar .byte ((p2 &&& (255 : Int32)).toInt8.toInt32)) &&& (255 : Int32)) (1 : Int32) H n0 (by omega) g0 g1 g2 g3 g4 g5 g6 (by omega) (rm_cp3_0 l Z a0 hw zc fm b589 t593 kt593 (nar .byte ((p2 &&& (255 : Int32)).toInt8.toInt32)) (nar .byte (v567.toInt8.toInt32)) (nar .byte (v571.toInt8.toInt32)) H n0 (by omega) S_c hzc S_f hfm g10 g6 g7 g8 g9) (own_small _) (by decide)) (fun H xl xc hn g10 g0 g1 g2 g3 g4 g5 g6 g7 g8 g9 => rm_adv1 l Z a0 hw b584 b586 b589 (1 : Int32) xl xc ((nar .byte (v567.toInt8.toInt32)) &&& (255 : Int32)) (2 : Int32) H n0 (by omega) g0 g1 g2 g3 g4 g5 g6 (by omega) (rm_cp3_1 l Z a0 hw zc fm b589 t593 kt593 (nar .byte ((p2 &&& (255 : Int32)).toInt8.toInt32)) (nar .byte (v567.toInt8.toInt32)) (nar .byte (v571.toInt8.toInt32)) H n0 (by omega) S_c hzc S_f hfm g10 g6 g7 g8 g9) (own_small _) (by decide)) (fun H xl xc hn g10 g0 g1 g2 g3 g4 g5 g6 g7 g8 g9 => rm_adv1 l Z a0 hw b584 b586 b589 (2 : Int32) xl xc ((nar .byte (v571.toInt8.toInt32)) &&& (255 : Int32)) (3 : Int32) H n0 (by omega) g0 g1 g2 g3 g4 g5 g6 (by omega) (rm_cp3_2 l Z a0 hw zc fm b589 t593 kt593 (nar .byte ((p2 &&& (255 : Int32)).toInt8.toInt32)) (nar .byte (v567.toInt8.toInt32)) (nar .byte (v571.toInt8.toInt32)) H n0 (by omega) S_c hzc S_f hfm g10 g6 g7 g8 g9) (own_small _) (by decide))
  ·
   let l612 : Array Slot := #[(vi p0), (vi p1), (vi p2), (vi p3), (vi 3), (vi 1), .unset, .unset, .unset, .unset, .unset, .unset, .unset, .unset, .unset, .unset, .unset, .unset]
   have k613 : AtQ p e below S0 s₁ m 21 l612 [(.int (p3 &&& (2 : Int32)))] := fun tt hq => k546 tt (by
    refine XS.ifNo X0.here hx rfl (hb hby at_8) rfl ((if0 _ _).trans (feq hc8_547).1) ?_
    refine XS.iconst X0.here hx rfl (hb hby at_11) ?_
    refine XS.goto X0.here hx rfl (pc0 := 12) (pc' := 16) rfl (hb hby at_12) (by decide) (by decide) ?_
    refine XS.istore X0.here hx rfl (hb hby at_16) rfl (l' := l612) rfl ?_
    refine XS.iloadN X0.here hx rfl (hb hby at_18) rfl ?_
    refine XS.iconst X0.here hx rfl (hb hby at_19) ?_
    refine XS.iand X0.here hx rfl (hb hby at_20) rfl ?_
    exact hq)
   by_cases hc21_614 : (p3 &&& (2 : Int32)) = (0 : Int32)
   ·
    let l615 : Array Slot := #[(vi p0), (vi p1), (vi p2), (vi p3), (vi 3), (vi 1), (vi 0), .unset, .unset, .unset, .unset, .unset, .unset, .unset, .unset, .unset, .unset, .unset]
    let l616 : Array Slot := #[(vi p0), (vi p1), (vi p2), (vi p3), (vi 3), (vi 1), (vi 0), (vi 5), .unset, .unset, .unset, .unset, .unset, .unset, .unset, .unset, .unset, .unset]
    let l617 : Array Slot := #[(vi p0), (vi p1), (vi p2), (vi p3), (vi 3), (vi 1), (vi 0), (vi 5), (vi 4), .unset, .unset, .unset, .unset, .unset, .unset, .unset, .unset, .unset]
    have k618 : AtQ p e below S0 s₁ m 67 l617 [(.int 4), (.int (p1 &&& (7 : Int32)))] := fun tt hq => k613 tt (by
     refine XS.ifYes X0.here hx rfl (pc0 := 21) (pc' := 28) rfl (hb hby at_21) rfl ((if0 _ _).trans (teq hc21_614).1) (by decide) (by decide) ?_
     refine XS.iconst X0.here hx rfl (hb hby at_28) ?_
     refine XS.istore X0.here hx rfl (hb hby at_29) rfl (l' := l615) rfl ?_
     refine XS.iload X0.here hx rfl (hb hby at_31) rfl ?_
     refine XS.iload X0.here hx rfl (hb hby at_33) rfl ?_
     refine XS.ifNo X0.here hx rfl (hb hby at_35) rfl ((if0 _ _).trans (feq (by decide)).1) ?_
     refine XS.iconst X0.here hx rfl (hb hby at_38) ?_
     refine XS.goto X0.here hx rfl (pc0 := 39) (pc' := 43) rfl (hb hby at_39) (by decide) (by decide) ?_
     refine XS.iadd X0.here hx rfl (hb hby at_43) rfl ?_
     refine XS.istore X0.here hx rfl (hb hby at_44) rfl (l' := l616) rfl ?_
     refine XS.iload X0.here hx rfl (hb hby at_46) rfl ?_
     refine XS.iload X0.here hx rfl (hb hby at_48) rfl ?_
     refine XS.ifNo X0.here hx rfl (hb hby at_50) rfl ((if0 _ _).trans (feq (by decide)).1) ?_
     refine XS.iconst X0.here hx rfl (hb hby at_53) ?_
     refine XS.goto X0.here hx rfl (pc0 := 54) (pc' := 58) rfl (hb hby at_54) (by decide) (by decide) ?_
     refine XS.iadd X0.here hx rfl (hb hby at_58) rfl ?_
     refine XS.istore X0.here hx rfl (hb hby at_59) rfl (l' := l617) rfl ?_
     refine XS.iloadN X0.here hx rfl (hb hby at_61) rfl ?_
     refine XS.bipush X0.here hx rfl (hb hby at_62) ?_
     refine XS.iand X0.here hx rfl (hb hby at_64) rfl ?_
     refine XS.iload X0.here hx rfl (hb hby at_65) rfl ?_
     exact hq)
    obtain ⟨_, T619, L619, X619, ⟨rfl, Nq619, eq619⟩, k619a⟩ := callS' X0 hx hZ (y := yqK) hown (wq hw 0 rfl) (wq hw 1 rfl) (wq hw 2 rfl) (wq hw 3 rfl) (by decide) (backC (W := 0) (rm_min l Z a0 hw (p1 &&& (7 : Int32)) (4 : Int32) (if (4 : Int32) < (p1 &&& (7 : Int32)) then (4 : Int32) else (p1 &&& (7 : Int32))) h0 n0 (by omega) rfl) hZ (wq hw 3 rfl) (wq hw 2 rfl) (by decide) (by decide)) e0 (argsL := [(.int (p1 &&& (7 : Int32))), (.int 4)]) (rest := []) rfl rfl pd_9 rfl (by rw [hml]; rfl) (hb hby at_67) (Nat.le_of_eq rfl) (by decide) (by decide) k618
    have k619 : AtQ p e below S0 T619 m 70 l617 [(.int (if (4 : Int32) < (p1 &&& (7 : Int32)) then (4 : Int32) else (p1 &&& (7 : Int32))))] := k619a
    have N619 := N0.app Nq619
    have e619 : T619.heap = h0 := eq619
    obtain ⟨v620, hv620⟩ : ∃ z : Int32, z = (if (4 : Int32) < (p1 &&& (7 : Int32)) then (4 : Int32) else (p1 &&& (7 : Int32))) := ⟨_, rfl⟩
    have k620 : AtQ p e below S0 T619 m 70 l617 [(.int v620)] := by rw [hv620]; exact k619
    let l621 : Array Slot := #[(vi p0), (vi p1), (vi p2), (vi p3), (vi 3), (vi 1), (vi 0), (vi 5), (vi 4), (vi v620), .unset, .unset, .unset, .unset, .unset, .unset, .unset, .unset]
    have k622 : AtQ p e below S0 T619 m 78 l621 [(.int ((p2 &&& (255 : Int32)).toUInt32.toUInt16.toUInt32.toInt32))] := fun tt hq => k620 tt (by
     refine XS.istore X619.here hx rfl (hb hby at_70) rfl (l' := l621) rfl ?_
     refine XS.iloadN X619.here hx rfl (hb hby at_72) rfl ?_
     refine XS.sipush X619.here hx rfl (hb hby at_73) ?_
     refine XS.iand X619.here hx rfl (hb hby at_76) rfl ?_
     refine XS.i2c X619.here hx rfl (hb hby at_77) rfl ?_
     exact hq)
    have k623 : AtQ p e below S0 T619 m 78 l621 [(.int (p2 &&& (255 : Int32)))] := by have hq := k622; rw [i2c_mask] at hq; exact hq
    let l624 : Array Slot := #[(vi p0), (vi p1), (vi p2), (vi p3), (vi 3), (vi 1), (vi 0), (vi 5), (vi 4), (vi v620), (vi (p2 &&& (255 : Int32))), .unset, .unset, .unset, .unset, .unset, .unset, .unset]
    have k625 : AtQ p e below S0 T619 m 89 l624 [(.int ((((p2.toUInt32 >>> ((8 : Int32) &&& 31).toUInt32).toInt32) &&& (255 : Int32)).toUInt32.toUInt16.toUInt32.toInt32))] := fun tt hq => k623 tt (by
     refine XS.istore X619.here hx rfl (hb hby at_78) rfl (l' := l624) rfl ?_
     refine XS.iloadN X619.here hx rfl (hb hby at_80) rfl ?_
     refine XS.bipush X619.here hx rfl (hb hby at_81) ?_
     refine XS.iushr X619.here hx rfl (hb hby at_83) rfl ?_
     refine XS.sipush X619.here hx rfl (hb hby at_84) ?_
     refine XS.iand X619.here hx rfl (hb hby at_87) rfl ?_
     refine XS.i2c X619.here hx rfl (hb hby at_88) rfl ?_
     exact hq)
    have k626 : AtQ p e below S0 T619 m 89 l624 [(.int (((p2.toUInt32 >>> ((8 : Int32) &&& 31).toUInt32).toInt32) &&& (255 : Int32)))] := by have hq := k625; rw [i2c_mask] at hq; exact hq
    obtain ⟨v627, hv627⟩ : ∃ z : Int32, z = (((p2.toUInt32 >>> ((8 : Int32) &&& 31).toUInt32).toInt32) &&& (255 : Int32)) := ⟨_, rfl⟩
    have k627 : AtQ p e below S0 T619 m 89 l624 [(.int v627)] := by rw [hv627]; exact k626
    have mv627 : ¬ v627 < (0 : Int32) ∧ ¬ (255 : Int32) < v627 := by rw [hv627]; exact own_m255 _
    let l628 : Array Slot := #[(vi p0), (vi p1), (vi p2), (vi p3), (vi 3), (vi 1), (vi 0), (vi 5), (vi 4), (vi v620), (vi (p2 &&& (255 : Int32))), (vi v627), .unset, .unset, .unset, .unset, .unset, .unset]
    have k629 : AtQ p e below S0 T619 m 100 l628 [(.int ((((p2.toUInt32 >>> ((16 : Int32) &&& 31).toUInt32).toInt32) &&& (255 : Int32)).toUInt32.toUInt16.toUInt32.toInt32))] := fun tt hq => k627 tt (by
     refine XS.istore X619.here hx rfl (hb hby at_89) rfl (l' := l628) rfl ?_
     refine XS.iloadN X619.here hx rfl (hb hby at_91) rfl ?_
     refine XS.bipush X619.here hx rfl (hb hby at_92) ?_
     refine XS.iushr X619.here hx rfl (hb hby at_94) rfl ?_
     refine XS.sipush X619.here hx rfl (hb hby at_95) ?_
     refine XS.iand X619.here hx rfl (hb hby at_98) rfl ?_
     refine XS.i2c X619.here hx rfl (hb hby at_99) rfl ?_
     exact hq)
    have k630 : AtQ p e below S0 T619 m 100 l628 [(.int (((p2.toUInt32 >>> ((16 : Int32) &&& 31).toUInt32).toInt32) &&& (255 : Int32)))] := by have hq := k629; rw [i2c_mask] at hq; exact hq
    obtain ⟨v631, hv631⟩ : ∃ z : Int32, z = (((p2.toUInt32 >>> ((16 : Int32) &&& 31).toUInt32).toInt32) &&& (255 : Int32)) := ⟨_, rfl⟩
    have k631 : AtQ p e below S0 T619 m 100 l628 [(.int v631)] := by rw [hv631]; exact k630
    have mv631 : ¬ v631 < (0 : Int32) ∧ ¬ (255 : Int32) < v631 := by rw [hv631]; exact own_m255 _
    let l632 : Array Slot := #[(vi p0), (vi p1), (vi p2), (vi p3), (vi 3), (vi 1), (vi 0), (vi 5), (vi 4), (vi v620), (vi (p2 &&& (255 : Int32))), (vi v627), (vi v631), .unset, .unset, .unset, .unset, .unset]
    have k633 : AtQ p e below S0 T619 m 104 l632 [(.int 5)] := fun tt hq => k631 tt (by
     refine XS.istore X619.here hx rfl (hb hby at_100) rfl (l' := l632) rfl ?_
     refine XS.iload X619.here hx rfl (hb hby at_102) rfl ?_
     exact hq)
    obtain ⟨T634, h634, c634, X634, e634, E634, A634, st634⟩ := newP X619 hx hZ (wq hw 4 rfl) e619 (g := (mkF m 104 l632 [(.int 5)])) rfl (hb hby at_104) rfl (by decide) (cap := 5) (by decide) (by decide) (by decide) (by decide)
    obtain ⟨b634, g634⟩ : ∃ z, z = h0.size := ⟨_, rfl⟩
    rw [← g634] at A634 st634
    have k634 : AtQ p e below S0 T634 m 106 l632 [(.ref b634)] := fun tt hq => k633 tt (st634 tt hq)
    have z634 : h0.size ≤ h634.size := E634.1
    have C634 := C0.trans (CHr.ext E634 C0.1)
    have V634 : Arv Z h634 b634 c634 .char (5 : Int32) [(.int 0), (.int 0), (.int 0), (.int 0), (.int 0)] (.int 0) := (Arv.new A634 (by decide)).pad (pad_rep [] (.int 0) 5)
    have y634 : @LT.lt Nat instLTNat b634 h634.size := V634.lt
    let l635 : Array Slot := #[(vi p0), (vi p1), (vi p2), (vi p3), (vi 3), (vi 1), (vi 0), (vi 5), (vi 4), (vi v620), (vi (p2 &&& (255 : Int32))), (vi v627), (vi v631), (vr b634), .unset, .unset, .unset, .unset]
    let l636 : Array Slot := #[(vi p0), (vi p1), (vi p2), (vi p3), (vi 3), (vi 1), (vi 0), (vi 5), (vi 4), (vi v620), (vi (p2 &&& (255 : Int32))), (vi v627), (vi v631), (vr b634), (vi 0), .unset, .unset, .unset]
    have k637 : AtQ p e below S0 T634 m 158 l636 [(.int (p2 &&& (255 : Int32))), (.int 0), (.ref b634)] := fun tt hq => k634 tt (by
     refine XS.astore X634.here hx rfl (hb hby at_106) rfl rfl (l' := l635) rfl ?_
     refine XS.iload X634.here hx rfl (hb hby at_108) rfl ?_
     refine XS.ifNo X634.here hx rfl (hb hby at_110) rfl ((if0 _ _).trans (feq (by decide)).1) ?_
     refine XS.iload X634.here hx rfl (hb hby at_113) rfl ?_
     refine XS.ifYes X634.here hx rfl (pc0 := 115) (pc' := 122) rfl (hb hby at_115) rfl ((if0 _ _).trans (teq (by decide)).1) (by decide) (by decide) ?_
     refine XS.iconst X634.here hx rfl (hb hby at_122) ?_
     refine XS.istore X634.here hx rfl (hb hby at_123) rfl (l' := l636) rfl ?_
     refine XS.iload X634.here hx rfl (hb hby at_125) rfl ?_
     refine XS.ifNo X634.here hx rfl (hb hby at_127) rfl ((if0 _ _).trans (feq (by decide)).1) ?_
     refine XS.iload X634.here hx rfl (hb hby at_130) rfl ?_
     refine XS.ifYes X634.here hx rfl (pc0 := 132) (pc' := 147) rfl (hb hby at_132) rfl ((if0 _ _).trans (teq (by decide)).1) (by decide) (by decide) ?_
     refine XS.iload X634.here hx rfl (hb hby at_147) rfl ?_
     refine XS.ifNo X634.here hx rfl (hb hby at_149) rfl ((if0 _ _).trans (tlt (by decide)).2.2.2) ?_
     refine XS.aload X634.here hx rfl (hb hby at_152) rfl rfl ?_
     refine XS.iload X634.here hx rfl (hb hby at_154) rfl ?_
     refine XS.iload X634.here hx rfl (hb hby at_156) rfl ?_
     exact hq)
    obtain ⟨cl638, Ar638, q638, S638, M638, G638, J638⟩ := id V634
    obtain ⟨T638, h638, X638, e638, W638, st638⟩ := stC X634 hx hZ e634 Ar638 (j := (0 : Int32)) (inb_of S638 (⟨by decide, by decide⟩)) (g := (mkF m 158 l636 [(.int (p2 &&& (255 : Int32))), (.int 0), (.ref b634)])) rfl rfl (hb hby at_158)
    have k638 : AtQ p e below S0 T638 m 159 l636 [] := fun tt hq => k637 tt (st638 tt hq)
    have z638 : h638.size = h634.size := W638.size
    have C638 := C634.trans (CHr.wr W638 (Safe.arv hZ.alike V634 (by decide)) C634.1)
    rw [own_narc (own_m255 _)] at W638
    have V638 : Arv Z h638 b634 c634 .char (5 : Int32) [(.int (p2 &&& (255 : Int32))), (.int 0), (.int 0), (.int 0), (.int 0)] (.int 0) := Arv.set Ar638 q638 S638 M638 G638 J638 (own_fitc (own_m255 _)) W638 0 rfl (Nat.le_of_ble_eq_true rfl)
    have N638 := Fr.snoc X638 N619 (by omega : n0 ≤ b634)
    have k639 : AtQ p e below S0 T638 m 173 l636 [(.int v627), (.int 1), (.ref b634)] := fun tt hq => k638 tt (by
     refine XS.iload X638.here hx rfl (hb hby at_159) rfl ?_
     refine XS.iconst X638.here hx rfl (hb hby at_161) ?_
     refine XS.icmpNo X638.here hx rfl (hb hby at_162) rfl (tlt (by decide)).2.2.2 ?_
     refine XS.aload X638.here hx rfl (hb hby at_165) rfl rfl ?_
     refine XS.iload X638.here hx rfl (hb hby at_167) rfl ?_
     refine XS.iconst X638.here hx rfl (hb hby at_169) ?_
     refine XS.iadd X638.here hx rfl (hb hby at_170) rfl ?_
     refine XS.iload X638.here hx rfl (hb hby at_171) rfl ?_
     exact hq)
    obtain ⟨cl640, Ar640, q640, S640, M640, G640, J640⟩ := id V638
    obtain ⟨T640, h640, X640, e640, W640, st640⟩ := stC X638 hx hZ e638 Ar640 (j := (1 : Int32)) (inb_of S640 (⟨by decide, by decide⟩)) (g := (mkF m 173 l636 [(.int v627), (.int 1), (.ref b634)])) rfl rfl (hb hby at_173)
    have k640 : AtQ p e below S0 T640 m 174 l636 [] := fun tt hq => k639 tt (st640 tt hq)
    have z640 : h640.size = h638.size := W640.size
    have C640 := C638.trans (CHr.wr W640 (Safe.arv hZ.alike V638 (by decide)) C638.1)
    rw [own_narc mv627] at W640
    have V640 : Arv Z h640 b634 c634 .char (5 : Int32) [(.int (p2 &&& (255 : Int32))), (.int v627), (.int 0), (.int 0), (.int 0)] (.int 0) := Arv.set Ar640 q640 S640 M640 G640 J640 (own_fitc mv627) W640 1 rfl (Nat.le_of_ble_eq_true rfl)
    have N640 := Fr.snoc X640 N638 (by omega : n0 ≤ b634)
    have k641 : AtQ p e below S0 T640 m 188 l636 [(.int v631), (.int 2), (.ref b634)] := fun tt hq => k640 tt (by
     refine XS.iload X640.here hx rfl (hb hby at_174) rfl ?_
     refine XS.iconst X640.here hx rfl (hb hby at_176) ?_
     refine XS.icmpNo X640.here hx rfl (hb hby at_177) rfl (tlt (by decide)).2.2.2 ?_
     refine XS.aload X640.here hx rfl (hb hby at_180) rfl rfl ?_
     refine XS.iload X640.here hx rfl (hb hby at_182) rfl ?_
     refine XS.iconst X640.here hx rfl (hb hby at_184) ?_
     refine XS.iadd X640.here hx rfl (hb hby at_185) rfl ?_
     refine XS.iload X640.here hx rfl (hb hby at_186) rfl ?_
     exact hq)
    obtain ⟨cl642, Ar642, q642, S642, M642, G642, J642⟩ := id V640
    obtain ⟨T642, h642, X642, e642, W642, st642⟩ := stC X640 hx hZ e640 Ar642 (j := (2 : Int32)) (inb_of S642 (⟨by decide, by decide⟩)) (g := (mkF m 188 l636 [(.int v631), (.int 2), (.ref b634)])) rfl rfl (hb hby at_188)
    have k642 : AtQ p e below S0 T642 m 189 l636 [] := fun tt hq => k641 tt (st642 tt hq)
    have z642 : h642.size = h640.size := W642.size
    have C642 := C640.trans (CHr.wr W642 (Safe.arv hZ.alike V640 (by decide)) C640.1)
    rw [own_narc mv631] at W642
    have V642 : Arv Z h642 b634 c634 .char (5 : Int32) [(.int (p2 &&& (255 : Int32))), (.int v627), (.int v631), (.int 0), (.int 0)] (.int 0) := Arv.set Ar642 q642 S642 M642 G642 J642 (own_fitc mv631) W642 2 rfl (Nat.le_of_ble_eq_true rfl)
    have N642 := Fr.snoc X642 N640 (by omega : n0 ≤ b634)
    have k643 : AtQ p e below S0 T642 m 205 l636 [(.int 55357), (.int 3), (.ref b634)] := fun tt hq => k642 tt (by
     refine XS.iload X642.here hx rfl (hb hby at_189) rfl ?_
     refine XS.ifNo X642.here hx rfl (hb hby at_191) rfl ((if0 _ _).trans (feq (by decide)).1) ?_
     refine XS.iload X642.here hx rfl (hb hby at_194) rfl ?_
     refine XS.ifNo X642.here hx rfl (hb hby at_196) rfl ((if0 _ _).trans (teq (by decide)).2) ?_
     refine XS.aload X642.here hx rfl (hb hby at_199) rfl rfl ?_
     refine XS.iload X642.here hx rfl (hb hby at_201) rfl ?_
     refine X642.ldcInt hx hown (mvT hZ (wq hw 5 rfl)) (g := (mkF m 203 l636 [(.int 3), (.ref b634)])) rfl (hb hby at_203) _ ?_
     exact hq)
    obtain ⟨cl644, Ar644, q644, S644, M644, G644, J644⟩ := id V642
    obtain ⟨T644, h644, X644, e644, W644, st644⟩ := stC X642 hx hZ e642 Ar644 (j := (3 : Int32)) (inb_of S644 (⟨by decide, by decide⟩)) (g := (mkF m 205 l636 [(.int 55357), (.int 3), (.ref b634)])) rfl rfl (hb hby at_205)
    have k644 : AtQ p e below S0 T644 m 206 l636 [] := fun tt hq => k643 tt (st644 tt hq)
    have z644 : h644.size = h642.size := W644.size
    have C644 := C642.trans (CHr.wr W644 (Safe.arv hZ.alike V642 (by decide)) C642.1)
    have V644 : Arv Z h644 b634 c634 .char (5 : Int32) [(.int (p2 &&& (255 : Int32))), (.int v627), (.int v631), (.int 55357), (.int 0)] (.int 0) := Arv.set Ar644 q644 S644 M644 G644 J644 (fits_nar_char _) W644 3 rfl (Nat.le_of_ble_eq_true rfl)
    have N644 := Fr.snoc X644 N642 (by omega : n0 ≤ b634)
    have k645 : AtQ p e below S0 T644 m 214 l636 [(.int 56832), (.int 4), (.ref b634)] := fun tt hq => k644 tt (by
     refine XS.aload X644.here hx rfl (hb hby at_206) rfl rfl ?_
     refine XS.iload X644.here hx rfl (hb hby at_208) rfl ?_
     refine XS.iconst X644.here hx rfl (hb hby at_210) ?_
     refine XS.iadd X644.here hx rfl (hb hby at_211) rfl ?_
     refine X644.ldcInt hx hown (mvT hZ (wq hw 6 rfl)) (g := (mkF m 212 l636 [(.int 4), (.ref b634)])) rfl (hb hby at_212) _ ?_
     exact hq)
    obtain ⟨cl646, Ar646, q646, S646, M646, G646, J646⟩ := id V644
    obtain ⟨T646, h646, X646, e646, W646, st646⟩ := stC X644 hx hZ e644 Ar646 (j := (4 : Int32)) (inb_of S646 (⟨by decide, by decide⟩)) (g := (mkF m 214 l636 [(.int 56832), (.int 4), (.ref b634)])) rfl rfl (hb hby at_214)
    have k646 : AtQ p e below S0 T646 m 215 l636 [] := fun tt hq => k645 tt (st646 tt hq)
    have z646 : h646.size = h644.size := W646.size
    have C646 := C644.trans (CHr.wr W646 (Safe.arv hZ.alike V644 (by decide)) C644.1)
    have V646 : Arv Z h646 b634 c634 .char (5 : Int32) [(.int (p2 &&& (255 : Int32))), (.int v627), (.int v631), (.int 55357), (.int 56832)] (.int 0) := Arv.set Ar646 q646 S646 M646 G646 J646 (fits_nar_char _) W646 4 rfl (Nat.le_of_ble_eq_true rfl)
    have N646 := Fr.snoc X646 N644 (by omega : n0 ≤ b634)
    obtain ⟨T647, h647, X647, e647, E647, A647, D647, -, st647⟩ := newO X646 hx hZ hown (wq hw 7 rfl) (wq hw 8 rfl) (wq hw 9 rfl) e646 (g := (mkF m 215 l636 [])) rfl (hb hby at_215) (by decide) (by decide)
    obtain ⟨b647, g647⟩ : ∃ z, z = h646.size := ⟨_, rfl⟩
    rw [← g647] at A647 D647 st647
    have k647 : AtQ p e below S0 T647 m 218 l636 [(.ref b647)] := fun tt hq => k646 tt (st647 tt hq)
    have z647 : h646.size ≤ h647.size := E647.1
    have y647 : @LT.lt Nat instLTNat b647 h647.size := A647.lt
    have C647 := C646.trans (CHr.ext E647 C646.1)
    have F647_line : FqH Z h647 b647 (.int 0) := D647 (Or.inl (wq hw 82 rfl)) (ty := .int) (by decide)
    have F647_column : FqI Z h647 b647 (.int 0) := D647 (Or.inl (wq hw 84 rfl)) (ty := .int) (by decide)
    have F647_source : FqE Z h647 b647 .null := D647 (Or.inr (wq hw 86 rfl)) (ty := (.object "com/example/ceruline/ceruline/source/SourceFile")) (by decide)
    have F647_text : FqF Z h647 b647 .null := D647 (Or.inr (wq hw 93 rfl)) (ty := (.object "java/lang/String")) (by decide)
    have F647_offset : FqG Z h647 b647 (.int 0) := D647 (Or.inl (wq hw 100 rfl)) (ty := .int) (by decide)
    have k648 : AtQ p e below S0 T647 m 219 l636 [(.ref b647), (.ref b647)] := fun tt hq => k647 tt (by
     refine XS.dup X647.here hx rfl (hb hby at_218) rfl rfl ?_
     exact hq)
    obtain ⟨T649, h649, X649, e649, E649, A649, D649, -, st649⟩ := newO X647 hx hZ hown (wq hw 10 rfl) (wq hw 11 rfl) (wq hw 12 rfl) e647 (g := (mkF m 219 l636 [(.ref b647), (.ref b647)])) rfl (hb hby at_219) (by decide) (by decide)
    obtain ⟨b649, g649⟩ : ∃ z, z = h647.size := ⟨_, rfl⟩
    rw [← g649] at A649 D649 st649
    have k649 : AtQ p e below S0 T649 m 222 l636 [(.ref b649), (.ref b647), (.ref b647)] := fun tt hq => k648 tt (st649 tt hq)
    have z649 : h647.size ≤ h649.size := E649.1
    have y649 : @LT.lt Nat instLTNat b649 h649.size := A649.lt
    have C649 := C647.trans (CHr.ext E649 C647.1)
    have F649_name : FqC Z h649 b649 .null := D649 (Or.inr (wq hw 74 rfl)) (ty := (.object "java/lang/String")) (by decide)
    have F649_text : FqD Z h649 b649 .null := D649 (Or.inr (wq hw 76 rfl)) (ty := (.object "java/lang/String")) (by decide)
    have k650 : AtQ p e below S0 T649 m 223 l636 [(.ref b649), (.ref b649), (.ref b647), (.ref b647)] := fun tt hq => k649 tt (by
     refine XS.dup X649.here hx rfl (hb hby at_222) rfl rfl ?_
     exact hq)
    obtain ⟨a651, T651, h651, kk651, b651, c651, X651, e651, E651, hS651, hk651, hZ651a, hown651a, A651, Fc651, Fv651, V651, ya651, yb651, Cq651, -, hne651, st651⟩ := ldcCH X649 hx hZ hown (wq hw 13 rfl) (own_wS hw) e649 hS0 (by omega) (own_EW hw) (List.mem_of_getElem? (i := 0) rfl) C649.1 (vs := [(.int 102)]) (z := (1 : Int32)) ⟨by decide, by decide⟩ (by decide) (by decide) (g := (mkF m 223 l636 [(.ref b649), (.ref b649), (.ref b647), (.ref b647)])) rfl (hb hby at_223) (n := 4) (by decide) (by decide) (by decide) (by decide)
    have k651 : AtQ p e below S0 T651 m 225 l636 [(.ref a651), (.ref b649), (.ref b649), (.ref b647), (.ref b647)] := fun tt hq => k650 tt (st651 tt hq)
    have hZ651 : Z.Warmed39 T651.vm := hZ651a
    have hown651 : T651.vm.findClass "com/example/ceruline/ceruline/parsing/SourceReaderAtEndPinLaw" = some m.cls := hown651a
    have z651 : h649.size ≤ h651.size := E651.1
    have C651 := C649.trans Cq651
    obtain ⟨T652, h652, X652, e652, E652, A652, D652, -, st652⟩ := newO X651 hx hZ651 hown651 (wq hw 21 rfl) (wq hw 15 rfl) (wq hw 14 rfl) e651 (g := (mkF m 225 l636 [(.ref a651), (.ref b649), (.ref b649), (.ref b647), (.ref b647)])) rfl (hb hby at_225) (by decide) (by decide)
    obtain ⟨b652, g652⟩ : ∃ z, z = h651.size := ⟨_, rfl⟩
    rw [← g652] at A652 D652 st652
    have k652 : AtQ p e below S0 T652 m 228 l636 [(.ref b652), (.ref a651), (.ref b649), (.ref b649), (.ref b647), (.ref b647)] := fun tt hq => k651 tt (st652 tt hq)
    have z652 : h651.size ≤ h652.size := E652.1
    have y652 : @LT.lt Nat instLTNat b652 h652.size := A652.lt
    have C652 := C651.trans (CHr.ext E652 C651.1)
    have Sf652 : Safe Z own_EL T651.vm h652 b652 := Safe.ext E652 C651.1 (Safe.new (by omega))
    have F652_value : FqA Z h652 b652 .null := D652 (Or.inr (wq hw 17 rfl)) (ty := (.array .byte)) (by decide)
    have F652_coder : FqB Z h652 b652 (.int 0) := D652 (Or.inr (wq hw 18 rfl)) (ty := .byte) (by decide)
    have k653 : AtQ p e below S0 T652 m 231 l636 [(.ref b634), (.ref b652), (.ref b652), (.ref a651), (.ref b649), (.ref b649), (.ref b647), (.ref b647)] := fun tt hq => k652 tt (by
     refine XS.dup X652.here hx rfl (hb hby at_228) rfl rfl ?_
     refine XS.aload X652.here hx rfl (hb hby at_229) rfl rfl ?_
     exact hq)
    have f654 : Old Z n0 h652 := ((((((((((O0.ext E634).wr W638 (by omega)).wr W640 (by omega)).wr W642 (by omega)).wr W644 (by omega)).wr W646 (by omega)).ext E647).ext E649).ext E651).ext E652)
    have f655 : Arv Z h652 b634 c634 .char (5 : Int32) [(.int (p2 &&& (255 : Int32))), (.int v627), (.int v631), (.int 55357), (.int 56832)] (.int 0) := ((((V646.ext E647).ext E649).ext E651).ext E652)
    obtain ⟨_, T656, L656, X656, ⟨rfl, Nq656, Kq656, t656, kt656, gt656, P6560, P6561, P6562, P6563⟩, k656a⟩ := callC' X652 hx hZ651 (y := yqD) rfl hown651 (wq hw 22 rfl) (wq hw 23 rfl) (wq hw 24 rfl) (by decide) (backC (W := 6) (rm_n1u1 l Z a0 hw zc b652 b634 (5 : Int32) (10 : Int32) _ .null (.int 0) c634 _ h652 n0 (by omega) S_c hzc f654 A652 F652_value F652_coder (by omega) (by omega) (by decide) (by decide) (rm_c3_5_3 l Z a0 hw b634 c634 (p2 &&& (255 : Int32)) v627 v631 (55357 : Int32) (56832 : Int32) h652 n0 (by omega) S_ad S_hi S_lo f654 f655 (by omega) (own_m255 _).2 mv627.2 mv631.2 (by decide) (by decide) (by decide)) f655) hZ651 (wq hw 24 rfl) (wq hw 14 rfl) (by decide) (by decide)) e652 (argsL := [(.ref b634)]) (rest := [(.ref b652), (.ref a651), (.ref b649), (.ref b649), (.ref b647), (.ref b647)]) rfl rfl pd_10 rfl (by rw [hml]; rfl) (hb hby at_231) (Nat.le_of_eq rfl) (by decide) (by decide) k653
    have k656 : AtQ p e below S0 T656 m 234 l636 [(.ref b652), (.ref a651), (.ref b649), (.ref b649), (.ref b647), (.ref b647)] := k656a
    have N656 := N646.app Nq656
    obtain ⟨h656, e656⟩ : ∃ z, T656.heap = z := ⟨_, rfl⟩
    rw [e656] at Kq656 P6560 P6561 P6562 P6563
    have z656 : h652.size ≤ h656.size := Kq656.1
    have C656 := C652.trans (CHr.keep Kq656 (sfS Sf652 sf0) C652.1)
    have y656 : @LT.lt Nat instLTNat t656 h656.size := P6563.lt
    have f657 : Exa Z h656 b649 "com/example/ceruline/ceruline/source/SourceFile" := (((A649.ext E651).ext E652).keep Kq656)
    have f658 : FqC Z h656 b649 .null := (((F649_name.ext E651).ext E652).keep Kq656 (nin1 (by omega)))
    have f659 : FqD Z h656 b649 .null := (((F649_text.ext E651).ext E652).keep Kq656 (nin1 (by omega)))
    obtain ⟨_, T660, L660, X660, ⟨rfl, Nq660, Kq660, P6600, P6601, P6602⟩, k660a⟩ := callC' X656 hx hZ651 (y := yqM) rfl hown651 (wq hw 64 rfl) (wq hw 65 rfl) (wq hw 66 rfl) (by decide) (backC (W := 3) (rm_sfi l Z a0 hw b649 a651 b652 h656 n0 (by omega) f657 f658 f659 (by omega)) hZ651 (wq hw 66 rfl) (wq hw 12 rfl) (by decide) (by decide)) e656 (argsL := [(.ref a651), (.ref b652)]) (rest := [(.ref b649), (.ref b647), (.ref b647)]) rfl rfl pd_11 rfl (by rw [hml]; rfl) (hb hby at_234) (Nat.le_of_eq rfl) (by decide) (by decide) k656
    have k660 : AtQ p e below S0 T660 m 237 l636 [(.ref b649), (.ref b647), (.ref b647)] := k660a
    have N660 := N656.app Nq660
    obtain ⟨h660, e660⟩ : ∃ z, T660.heap = z := ⟨_, rfl⟩
    rw [e660] at Kq660 P6600 P6601 P6602
    have z660 : h656.size ≤ h660.size := Kq660.1
    have C660 := C656.trans (CHr.keep Kq660 (sfS (Safe.exa hZ651.alike f657 (by decide) (by decide)) sf0) C656.1)
    have f661 : Exa Z h660 b647 "com/example/ceruline/ceruline/parsing/SourceReader" := (((((A647.ext E649).ext E651).ext E652).keep Kq656).keep Kq660)
    have f662 : FqE Z h660 b647 .null := (((((F647_source.ext E649).ext E651).ext E652).keep Kq656 (nin1 (by omega))).keep Kq660 (nin1 (by omega)))
    have f663 : FqF Z h660 b647 .null := (((((F647_text.ext E649).ext E651).ext E652).keep Kq656 (nin1 (by omega))).keep Kq660 (nin1 (by omega)))
    have f664 : FqG Z h660 b647 (.int 0) := (((((F647_offset.ext E649).ext E651).ext E652).keep Kq656 (nin1 (by omega))).keep Kq660 (nin1 (by omega)))
    have f665 : FqH Z h660 b647 (.int 0) := (((((F647_line.ext E649).ext E651).ext E652).keep Kq656 (nin1 (by omega))).keep Kq660 (nin1 (by omega)))
    have f666 : FqI Z h660 b647 (.int 0) := (((((F647_column.ext E649).ext E651).ext E652).keep Kq656 (nin1 (by omega))).keep Kq660 (nin1 (by omega)))
    obtain ⟨_, T667, L667, X667, ⟨rfl, Nq667, Kq667, P667_0, P667_1, P667_2, P667_3, P667_4, P667_5⟩, k667a⟩ := callC' X660 hx hZ651 (y := yqO) rfl hown651 (wq hw 77 rfl) (wq hw 78 rfl) (wq hw 79 rfl) (by decide) (backC (W := 1) (rm_sri l Z a0 hw b647 b649 b652 h660 n0 (by omega) f661 f662 f663 f664 f665 f666 P6600 P6602 (by omega) (by omega)) hZ651 (wq hw 79 rfl) (wq hw 9 rfl) (by decide) (by decide)) e660 (argsL := [(.ref b649)]) (rest := [(.ref b647)]) rfl rfl pd_12 rfl (by rw [hml]; rfl) (hb hby at_237) (Nat.le_of_eq rfl) (by decide) (by decide) k660
    have k667 : AtQ p e below S0 T667 m 240 l636 [(.ref b647)] := k667a
    have N667 := N660.app Nq667
    obtain ⟨h667, e667⟩ : ∃ z, T667.heap = z := ⟨_, rfl⟩
    rw [e667] at Kq667 P667_0 P667_1 P667_2 P667_3 P667_4 P667_5
    have z667 : h660.size ≤ h667.size := Kq667.1
    have C667 := C660.trans (CHr.keep Kq667 (sfS (Safe.exa hZ651.alike f661 (by decide) (by decide)) sf0) C660.1)
    let l668 : Array Slot := #[(vi p0), (vi p1), (vi p2), (vi p3), (vi 3), (vi 1), (vi 0), (vi 5), (vi 4), (vi v620), (vi (p2 &&& (255 : Int32))), (vi v627), (vi v631), (vr b634), (vi 0), (vr b647), .unset, .unset]
    have k669 : AtQ p e below S0 T667 m 242 l668 [] := fun tt hq => k667 tt (by
     refine XS.astore X667.here hx rfl (hb hby at_240) rfl rfl (l' := l668) rfl ?_
     exact hq)
    have f670 : Exa Z h667 b652 "java/lang/String" := ((P6560.keep Kq660).keep Kq667)
    have f671 : FqA Z h667 b652 (.ref t656) := ((P6561.keep Kq660 (nin1 (by omega))).keep Kq667 (nin1 (by omega)))
    have f672 : FqB Z h667 b652 (.int 1) := ((P6562.keep Kq660 (nin1 (by omega))).keep Kq667 (nin1 (by omega)))
    have f673 : Arv Z h667 t656 kt656 .byte (10 : Int32) [(.int (ulo (p2 &&& (255 : Int32)))), (.int (uhi (p2 &&& (255 : Int32)))), (.int (ulo v627)), (.int (uhi v627)), (.int (ulo v631)), (.int (uhi v631)), (.int (ulo (55357 : Int32))), (.int (uhi (55357 : Int32))), (.int (ulo (56832 : Int32))), (.int (uhi (56832 : Int32)))] (.int 0) := ((P6563.keep Kq660 (nin1 (by omega))).keep Kq667 (nin1 (by omega)))
    have f674 : Old Z n0 h667 := (((f654.keep Kq656 (allS (by omega) all0)).keep Kq660 (allS (by omega) all0)).keep Kq667 (allS (by omega) all0))
    exact sec_m4 (cd := (1 : Int32)) (o0 := (0 : Int32)) (o1 := (1 : Int32)) (o2 := (2 : Int32)) (o3 := (3 : Int32)) (o4 := (5 : Int32)) hw hx hby hml hret hlk hnm hown651 hZ651 X667 e667 k669 N667 C667 hS651 (by omega) (by omega) (by decide) (by decide) S_c hzc P667_0 P667_1 P667_2 P667_3 P667_4 P667_5 f670 f671 f672 f673 f674 rfl (by decide) (by decide) (by decide) (by decide) (by decide) (by rw [hv620]; exact own_k4 _) (by omega) (by omega) (by omega) (fun H xl xc hn g10 g0 g1 g2 g3 g4 g5 g6 g7 g8 g9 => rm_adv1 l Z a0 hw b647 b649 b652 (0 : Int32) xl xc (p2 &&& (255 : Int32)) (1 : Int32) H n0 (by omega) g0 g1 g2 g3 g4 g5 g6 (by omega) (rm_cpu l Z a0 hw zc fm b652 t656 kt656 (10 : Int32) _ (0 : Int32) (5 : Int32) (p2 &&& (255 : Int32)) H n0 (by omega) S_c hzc S_f hfm g10 g6 g7 g8 g9 (by decide) (by decide) (by decide) (rm_cp3u l Z a0 hw t656 (0 : Int32) (5 : Int32) (p2 &&& (255 : Int32)) H n0 (by omega) (rm_cp4s l Z a0 hw t656 (0 : Int32) (5 : Int32) (p2 &&& (255 : Int32)) H n0 (by omega) S_ad g10 (rm_get l Z a0 hw t656 kt656 (10 : Int32) _ (0 : Int32) (0 : Int32) (ulo (p2 &&& (255 : Int32))) (uhi (p2 &&& (255 : Int32))) (p2 &&& (255 : Int32)) H n0 (by omega) S_ad S_hi S_lo g10 g9 (by decide) (by decide) (by decide) rfl rfl (own_gc (own_m255 _).1 (own_lt16 (own_m255 _))) (own_m255 _).1 (own_lt16 (own_m255 _))) (own_lt55 (own_m255 _))))) (own_lt16 (own_m255 _)) (by decide)) (fun H xl xc hn g10 g0 g1 g2 g3 g4 g5 g6 g7 g8 g9 => rm_adv1 l Z a0 hw b647 b649 b652 (1 : Int32) xl xc v627 (2 : Int32) H n0 (by omega) g0 g1 g2 g3 g4 g5 g6 (by omega) (rm_cpu l Z a0 hw zc fm b652 t656 kt656 (10 : Int32) _ (1 : Int32) (5 : Int32) v627 H n0 (by omega) S_c hzc S_f hfm g10 g6 g7 g8 g9 (by decide) (by decide) (by decide) (rm_cp3u l Z a0 hw t656 (1 : Int32) (5 : Int32) v627 H n0 (by omega) (rm_cp4s l Z a0 hw t656 (1 : Int32) (5 : Int32) v627 H n0 (by omega) S_ad g10 (rm_get l Z a0 hw t656 kt656 (10 : Int32) _ (1 : Int32) (2 : Int32) (ulo v627) (uhi v627) v627 H n0 (by omega) S_ad S_hi S_lo g10 g9 (by decide) (by decide) (by decide) rfl rfl (own_gc mv627.1 (own_lt16 mv627)) mv627.1 (own_lt16 mv627)) (own_lt55 mv627)))) (own_lt16 mv627) (by decide)) (fun H xl xc hn g10 g0 g1 g2 g3 g4 g5 g6 g7 g8 g9 => rm_adv1 l Z a0 hw b647 b649 b652 (2 : Int32) xl xc v631 (3 : Int32) H n0 (by omega) g0 g1 g2 g3 g4 g5 g6 (by omega) (rm_cpu l Z a0 hw zc fm b652 t656 kt656 (10 : Int32) _ (2 : Int32) (5 : Int32) v631 H n0 (by omega) S_c hzc S_f hfm g10 g6 g7 g8 g9 (by decide) (by decide) (by decide) (rm_cp3u l Z a0 hw t656 (2 : Int32) (5 : Int32) v631 H n0 (by omega) (rm_cp4s l Z a0 hw t656 (2 : Int32) (5 : Int32) v631 H n0 (by omega) S_ad g10 (rm_get l Z a0 hw t656 kt656 (10 : Int32) _ (2 : Int32) (4 : Int32) (ulo v631) (uhi v631) v631 H n0 (by omega) S_ad S_hi S_lo g10 g9 (by decide) (by decide) (by decide) rfl rfl (own_gc mv631.1 (own_lt16 mv631)) mv631.1 (own_lt16 mv631)) (own_lt55 mv631)))) (own_lt16 mv631) (by decide)) (fun H xl xc hn g10 g0 g1 g2 g3 g4 g5 g6 g7 g8 g9 => rm_adv2 l Z a0 hw b647 b649 b652 (3 : Int32) xl xc (128512 : Int32) (5 : Int32) H n0 (by omega) g0 g1 g2 g3 g4 g5 g6 (by omega) (rm_cpu l Z a0 hw zc fm b652 t656 kt656 (10 : Int32) _ (3 : Int32) (5 : Int32) (128512 : Int32) H n0 (by omega) S_c hzc S_f hfm g10 g6 g7 g8 g9 (by decide) (by decide) (by decide) (rm_cp3u l Z a0 hw t656 (3 : Int32) (5 : Int32) (128512 : Int32) H n0 (by omega) (rm_cp4p l Z a0 hw t656 (3 : Int32) (5 : Int32) H n0 (by omega) S_ad g10 (rm_get l Z a0 hw t656 kt656 (10 : Int32) _ (3 : Int32) (6 : Int32) (ulo (55357 : Int32)) (uhi (55357 : Int32)) (55357 : Int32) H n0 (by omega) S_ad S_hi S_lo g10 g9 (by decide) (by decide) (by decide) rfl rfl (own_gc (by decide) (by decide)) (by decide) (by decide)) (rm_get l Z a0 hw t656 kt656 (10 : Int32) _ (4 : Int32) (8 : Int32) (ulo (56832 : Int32)) (uhi (56832 : Int32)) (56832 : Int32) H n0 (by omega) S_ad S_hi S_lo g10 g9 (by decide) (by decide) (by decide) rfl rfl (own_gc (by decide) (by decide)) (by decide) (by decide)) (by decide)))) (by decide) (by decide))
   ·
    let l675 : Array Slot := #[(vi p0), (vi p1), (vi p2), (vi p3), (vi 3), (vi 1), (vi 1), .unset, .unset, .unset, .unset, .unset, .unset, .unset, .unset, .unset, .unset, .unset]
    let l676 : Array Slot := #[(vi p0), (vi p1), (vi p2), (vi p3), (vi 3), (vi 1), (vi 1), (vi 5), .unset, .unset, .unset, .unset, .unset, .unset, .unset, .unset, .unset, .unset]
    let l677 : Array Slot := #[(vi p0), (vi p1), (vi p2), (vi p3), (vi 3), (vi 1), (vi 1), (vi 5), (vi 4), .unset, .unset, .unset, .unset, .unset, .unset, .unset, .unset, .unset]
    have k678 : AtQ p e below S0 s₁ m 67 l677 [(.int 4), (.int (p1 &&& (7 : Int32)))] := fun tt hq => k613 tt (by
     refine XS.ifNo X0.here hx rfl (hb hby at_21) rfl ((if0 _ _).trans (feq hc21_614).1) ?_
     refine XS.iconst X0.here hx rfl (hb hby at_24) ?_
     refine XS.goto X0.here hx rfl (pc0 := 25) (pc' := 29) rfl (hb hby at_25) (by decide) (by decide) ?_
     refine XS.istore X0.here hx rfl (hb hby at_29) rfl (l' := l675) rfl ?_
     refine XS.iload X0.here hx rfl (hb hby at_31) rfl ?_
     refine XS.iload X0.here hx rfl (hb hby at_33) rfl ?_
     refine XS.ifNo X0.here hx rfl (hb hby at_35) rfl ((if0 _ _).trans (feq (by decide)).1) ?_
     refine XS.iconst X0.here hx rfl (hb hby at_38) ?_
     refine XS.goto X0.here hx rfl (pc0 := 39) (pc' := 43) rfl (hb hby at_39) (by decide) (by decide) ?_
     refine XS.iadd X0.here hx rfl (hb hby at_43) rfl ?_
     refine XS.istore X0.here hx rfl (hb hby at_44) rfl (l' := l676) rfl ?_
     refine XS.iload X0.here hx rfl (hb hby at_46) rfl ?_
     refine XS.iload X0.here hx rfl (hb hby at_48) rfl ?_
     refine XS.ifNo X0.here hx rfl (hb hby at_50) rfl ((if0 _ _).trans (feq (by decide)).1) ?_
     refine XS.iconst X0.here hx rfl (hb hby at_53) ?_
     refine XS.goto X0.here hx rfl (pc0 := 54) (pc' := 58) rfl (hb hby at_54) (by decide) (by decide) ?_
     refine XS.iadd X0.here hx rfl (hb hby at_58) rfl ?_
     refine XS.istore X0.here hx rfl (hb hby at_59) rfl (l' := l677) rfl ?_
     refine XS.iloadN X0.here hx rfl (hb hby at_61) rfl ?_
     refine XS.bipush X0.here hx rfl (hb hby at_62) ?_
     refine XS.iand X0.here hx rfl (hb hby at_64) rfl ?_
     refine XS.iload X0.here hx rfl (hb hby at_65) rfl ?_
     exact hq)
    obtain ⟨_, T679, L679, X679, ⟨rfl, Nq679, eq679⟩, k679a⟩ := callS' X0 hx hZ (y := yqK) hown (wq hw 0 rfl) (wq hw 1 rfl) (wq hw 2 rfl) (wq hw 3 rfl) (by decide) (backC (W := 0) (rm_min l Z a0 hw (p1 &&& (7 : Int32)) (4 : Int32) (if (4 : Int32) < (p1 &&& (7 : Int32)) then (4 : Int32) else (p1 &&& (7 : Int32))) h0 n0 (by omega) rfl) hZ (wq hw 3 rfl) (wq hw 2 rfl) (by decide) (by decide)) e0 (argsL := [(.int (p1 &&& (7 : Int32))), (.int 4)]) (rest := []) rfl rfl pd_9 rfl (by rw [hml]; rfl) (hb hby at_67) (Nat.le_of_eq rfl) (by decide) (by decide) k678
    have k679 : AtQ p e below S0 T679 m 70 l677 [(.int (if (4 : Int32) < (p1 &&& (7 : Int32)) then (4 : Int32) else (p1 &&& (7 : Int32))))] := k679a
    have N679 := N0.app Nq679
    have e679 : T679.heap = h0 := eq679
    obtain ⟨v680, hv680⟩ : ∃ z : Int32, z = (if (4 : Int32) < (p1 &&& (7 : Int32)) then (4 : Int32) else (p1 &&& (7 : Int32))) := ⟨_, rfl⟩
    have k680 : AtQ p e below S0 T679 m 70 l677 [(.int v680)] := by rw [hv680]; exact k679
    let l681 : Array Slot := #[(vi p0), (vi p1), (vi p2), (vi p3), (vi 3), (vi 1), (vi 1), (vi 5), (vi 4), (vi v680), .unset, .unset, .unset, .unset, .unset, .unset, .unset, .unset]
    have k682 : AtQ p e below S0 T679 m 78 l681 [(.int ((p2 &&& (255 : Int32)).toUInt32.toUInt16.toUInt32.toInt32))] := fun tt hq => k680 tt (by
     refine XS.istore X679.here hx rfl (hb hby at_70) rfl (l' := l681) rfl ?_
     refine XS.iloadN X679.here hx rfl (hb hby at_72) rfl ?_
     refine XS.sipush X679.here hx rfl (hb hby at_73) ?_
     refine XS.iand X679.here hx rfl (hb hby at_76) rfl ?_
     refine XS.i2c X679.here hx rfl (hb hby at_77) rfl ?_
     exact hq)
    have k683 : AtQ p e below S0 T679 m 78 l681 [(.int (p2 &&& (255 : Int32)))] := by have hq := k682; rw [i2c_mask] at hq; exact hq
    let l684 : Array Slot := #[(vi p0), (vi p1), (vi p2), (vi p3), (vi 3), (vi 1), (vi 1), (vi 5), (vi 4), (vi v680), (vi (p2 &&& (255 : Int32))), .unset, .unset, .unset, .unset, .unset, .unset, .unset]
    have k685 : AtQ p e below S0 T679 m 89 l684 [(.int ((((p2.toUInt32 >>> ((8 : Int32) &&& 31).toUInt32).toInt32) &&& (255 : Int32)).toUInt32.toUInt16.toUInt32.toInt32))] := fun tt hq => k683 tt (by
     refine XS.istore X679.here hx rfl (hb hby at_78) rfl (l' := l684) rfl ?_
     refine XS.iloadN X679.here hx rfl (hb hby at_80) rfl ?_
     refine XS.bipush X679.here hx rfl (hb hby at_81) ?_
     refine XS.iushr X679.here hx rfl (hb hby at_83) rfl ?_
     refine XS.sipush X679.here hx rfl (hb hby at_84) ?_
     refine XS.iand X679.here hx rfl (hb hby at_87) rfl ?_
     refine XS.i2c X679.here hx rfl (hb hby at_88) rfl ?_
     exact hq)
    have k686 : AtQ p e below S0 T679 m 89 l684 [(.int (((p2.toUInt32 >>> ((8 : Int32) &&& 31).toUInt32).toInt32) &&& (255 : Int32)))] := by have hq := k685; rw [i2c_mask] at hq; exact hq
    obtain ⟨v687, hv687⟩ : ∃ z : Int32, z = (((p2.toUInt32 >>> ((8 : Int32) &&& 31).toUInt32).toInt32) &&& (255 : Int32)) := ⟨_, rfl⟩
    have k687 : AtQ p e below S0 T679 m 89 l684 [(.int v687)] := by rw [hv687]; exact k686
    have mv687 : ¬ v687 < (0 : Int32) ∧ ¬ (255 : Int32) < v687 := by rw [hv687]; exact own_m255 _
    let l688 : Array Slot := #[(vi p0), (vi p1), (vi p2), (vi p3), (vi 3), (vi 1), (vi 1), (vi 5), (vi 4), (vi v680), (vi (p2 &&& (255 : Int32))), (vi v687), .unset, .unset, .unset, .unset, .unset, .unset]
    have k689 : AtQ p e below S0 T679 m 100 l688 [(.int ((((p2.toUInt32 >>> ((16 : Int32) &&& 31).toUInt32).toInt32) &&& (255 : Int32)).toUInt32.toUInt16.toUInt32.toInt32))] := fun tt hq => k687 tt (by
     refine XS.istore X679.here hx rfl (hb hby at_89) rfl (l' := l688) rfl ?_
     refine XS.iloadN X679.here hx rfl (hb hby at_91) rfl ?_
     refine XS.bipush X679.here hx rfl (hb hby at_92) ?_
     refine XS.iushr X679.here hx rfl (hb hby at_94) rfl ?_
     refine XS.sipush X679.here hx rfl (hb hby at_95) ?_
     refine XS.iand X679.here hx rfl (hb hby at_98) rfl ?_
     refine XS.i2c X679.here hx rfl (hb hby at_99) rfl ?_
     exact hq)
    have k690 : AtQ p e below S0 T679 m 100 l688 [(.int (((p2.toUInt32 >>> ((16 : Int32) &&& 31).toUInt32).toInt32) &&& (255 : Int32)))] := by have hq := k689; rw [i2c_mask] at hq; exact hq
    obtain ⟨v691, hv691⟩ : ∃ z : Int32, z = (((p2.toUInt32 >>> ((16 : Int32) &&& 31).toUInt32).toInt32) &&& (255 : Int32)) := ⟨_, rfl⟩
    have k691 : AtQ p e below S0 T679 m 100 l688 [(.int v691)] := by rw [hv691]; exact k690
    have mv691 : ¬ v691 < (0 : Int32) ∧ ¬ (255 : Int32) < v691 := by rw [hv691]; exact own_m255 _
    let l692 : Array Slot := #[(vi p0), (vi p1), (vi p2), (vi p3), (vi 3), (vi 1), (vi 1), (vi 5), (vi 4), (vi v680), (vi (p2 &&& (255 : Int32))), (vi v687), (vi v691), .unset, .unset, .unset, .unset, .unset]
    have k693 : AtQ p e below S0 T679 m 104 l692 [(.int 5)] := fun tt hq => k691 tt (by
     refine XS.istore X679.here hx rfl (hb hby at_100) rfl (l' := l692) rfl ?_
     refine XS.iload X679.here hx rfl (hb hby at_102) rfl ?_
     exact hq)
    obtain ⟨T694, h694, c694, X694, e694, E694, A694, st694⟩ := newP X679 hx hZ (wq hw 4 rfl) e679 (g := (mkF m 104 l692 [(.int 5)])) rfl (hb hby at_104) rfl (by decide) (cap := 5) (by decide) (by decide) (by decide) (by decide)
    obtain ⟨b694, g694⟩ : ∃ z, z = h0.size := ⟨_, rfl⟩
    rw [← g694] at A694 st694
    have k694 : AtQ p e below S0 T694 m 106 l692 [(.ref b694)] := fun tt hq => k693 tt (st694 tt hq)
    have z694 : h0.size ≤ h694.size := E694.1
    have C694 := C0.trans (CHr.ext E694 C0.1)
    have V694 : Arv Z h694 b694 c694 .char (5 : Int32) [(.int 0), (.int 0), (.int 0), (.int 0), (.int 0)] (.int 0) := (Arv.new A694 (by decide)).pad (pad_rep [] (.int 0) 5)
    have y694 : @LT.lt Nat instLTNat b694 h694.size := V694.lt
    let l695 : Array Slot := #[(vi p0), (vi p1), (vi p2), (vi p3), (vi 3), (vi 1), (vi 1), (vi 5), (vi 4), (vi v680), (vi (p2 &&& (255 : Int32))), (vi v687), (vi v691), (vr b694), .unset, .unset, .unset, .unset]
    let l696 : Array Slot := #[(vi p0), (vi p1), (vi p2), (vi p3), (vi 3), (vi 1), (vi 1), (vi 5), (vi 4), (vi v680), (vi (p2 &&& (255 : Int32))), (vi v687), (vi v691), (vr b694), (vi 2), .unset, .unset, .unset]
    have k697 : AtQ p e below S0 T694 m 140 l696 [(.int 55357), (.int 0), (.ref b694)] := fun tt hq => k694 tt (by
     refine XS.astore X694.here hx rfl (hb hby at_106) rfl rfl (l' := l695) rfl ?_
     refine XS.iload X694.here hx rfl (hb hby at_108) rfl ?_
     refine XS.ifNo X694.here hx rfl (hb hby at_110) rfl ((if0 _ _).trans (feq (by decide)).1) ?_
     refine XS.iload X694.here hx rfl (hb hby at_113) rfl ?_
     refine XS.ifNo X694.here hx rfl (hb hby at_115) rfl ((if0 _ _).trans (feq (by decide)).1) ?_
     refine XS.iconst X694.here hx rfl (hb hby at_118) ?_
     refine XS.goto X694.here hx rfl (pc0 := 119) (pc' := 123) rfl (hb hby at_119) (by decide) (by decide) ?_
     refine XS.istore X694.here hx rfl (hb hby at_123) rfl (l' := l696) rfl ?_
     refine XS.iload X694.here hx rfl (hb hby at_125) rfl ?_
     refine XS.ifNo X694.here hx rfl (hb hby at_127) rfl ((if0 _ _).trans (feq (by decide)).1) ?_
     refine XS.iload X694.here hx rfl (hb hby at_130) rfl ?_
     refine XS.ifNo X694.here hx rfl (hb hby at_132) rfl ((if0 _ _).trans (feq (by decide)).1) ?_
     refine XS.aload X694.here hx rfl (hb hby at_135) rfl rfl ?_
     refine XS.iconst X694.here hx rfl (hb hby at_137) ?_
     refine X694.ldcInt hx hown (mvT hZ (wq hw 5 rfl)) (g := (mkF m 138 l696 [(.int 0), (.ref b694)])) rfl (hb hby at_138) _ ?_
     exact hq)
    obtain ⟨cl698, Ar698, q698, S698, M698, G698, J698⟩ := id V694
    obtain ⟨T698, h698, X698, e698, W698, st698⟩ := stC X694 hx hZ e694 Ar698 (j := (0 : Int32)) (inb_of S698 (⟨by decide, by decide⟩)) (g := (mkF m 140 l696 [(.int 55357), (.int 0), (.ref b694)])) rfl rfl (hb hby at_140)
    have k698 : AtQ p e below S0 T698 m 141 l696 [] := fun tt hq => k697 tt (st698 tt hq)
    have z698 : h698.size = h694.size := W698.size
    have C698 := C694.trans (CHr.wr W698 (Safe.arv hZ.alike V694 (by decide)) C694.1)
    have V698 : Arv Z h698 b694 c694 .char (5 : Int32) [(.int 55357), (.int 0), (.int 0), (.int 0), (.int 0)] (.int 0) := Arv.set Ar698 q698 S698 M698 G698 J698 (fits_nar_char _) W698 0 rfl (Nat.le_of_ble_eq_true rfl)
    have N698 := Fr.snoc X698 N679 (by omega : n0 ≤ b694)
    have k699 : AtQ p e below S0 T698 m 146 l696 [(.int 56832), (.int 1), (.ref b694)] := fun tt hq => k698 tt (by
     refine XS.aload X698.here hx rfl (hb hby at_141) rfl rfl ?_
     refine XS.iconst X698.here hx rfl (hb hby at_143) ?_
     refine X698.ldcInt hx hown (mvT hZ (wq hw 6 rfl)) (g := (mkF m 144 l696 [(.int 1), (.ref b694)])) rfl (hb hby at_144) _ ?_
     exact hq)
    obtain ⟨cl700, Ar700, q700, S700, M700, G700, J700⟩ := id V698
    obtain ⟨T700, h700, X700, e700, W700, st700⟩ := stC X698 hx hZ e698 Ar700 (j := (1 : Int32)) (inb_of S700 (⟨by decide, by decide⟩)) (g := (mkF m 146 l696 [(.int 56832), (.int 1), (.ref b694)])) rfl rfl (hb hby at_146)
    have k700 : AtQ p e below S0 T700 m 147 l696 [] := fun tt hq => k699 tt (st700 tt hq)
    have z700 : h700.size = h698.size := W700.size
    have C700 := C698.trans (CHr.wr W700 (Safe.arv hZ.alike V698 (by decide)) C698.1)
    have V700 : Arv Z h700 b694 c694 .char (5 : Int32) [(.int 55357), (.int 56832), (.int 0), (.int 0), (.int 0)] (.int 0) := Arv.set Ar700 q700 S700 M700 G700 J700 (fits_nar_char _) W700 1 rfl (Nat.le_of_ble_eq_true rfl)
    have N700 := Fr.snoc X700 N698 (by omega : n0 ≤ b694)
    have k701 : AtQ p e below S0 T700 m 158 l696 [(.int (p2 &&& (255 : Int32))), (.int 2), (.ref b694)] := fun tt hq => k700 tt (by
     refine XS.iload X700.here hx rfl (hb hby at_147) rfl ?_
     refine XS.ifNo X700.here hx rfl (hb hby at_149) rfl ((if0 _ _).trans (tlt (by decide)).2.2.2) ?_
     refine XS.aload X700.here hx rfl (hb hby at_152) rfl rfl ?_
     refine XS.iload X700.here hx rfl (hb hby at_154) rfl ?_
     refine XS.iload X700.here hx rfl (hb hby at_156) rfl ?_
     exact hq)
    obtain ⟨cl702, Ar702, q702, S702, M702, G702, J702⟩ := id V700
    obtain ⟨T702, h702, X702, e702, W702, st702⟩ := stC X700 hx hZ e700 Ar702 (j := (2 : Int32)) (inb_of S702 (⟨by decide, by decide⟩)) (g := (mkF m 158 l696 [(.int (p2 &&& (255 : Int32))), (.int 2), (.ref b694)])) rfl rfl (hb hby at_158)
    have k702 : AtQ p e below S0 T702 m 159 l696 [] := fun tt hq => k701 tt (st702 tt hq)
    have z702 : h702.size = h700.size := W702.size
    have C702 := C700.trans (CHr.wr W702 (Safe.arv hZ.alike V700 (by decide)) C700.1)
    rw [own_narc (own_m255 _)] at W702
    have V702 : Arv Z h702 b694 c694 .char (5 : Int32) [(.int 55357), (.int 56832), (.int (p2 &&& (255 : Int32))), (.int 0), (.int 0)] (.int 0) := Arv.set Ar702 q702 S702 M702 G702 J702 (own_fitc (own_m255 _)) W702 2 rfl (Nat.le_of_ble_eq_true rfl)
    have N702 := Fr.snoc X702 N700 (by omega : n0 ≤ b694)
    have k703 : AtQ p e below S0 T702 m 173 l696 [(.int v687), (.int 3), (.ref b694)] := fun tt hq => k702 tt (by
     refine XS.iload X702.here hx rfl (hb hby at_159) rfl ?_
     refine XS.iconst X702.here hx rfl (hb hby at_161) ?_
     refine XS.icmpNo X702.here hx rfl (hb hby at_162) rfl (tlt (by decide)).2.2.2 ?_
     refine XS.aload X702.here hx rfl (hb hby at_165) rfl rfl ?_
     refine XS.iload X702.here hx rfl (hb hby at_167) rfl ?_
     refine XS.iconst X702.here hx rfl (hb hby at_169) ?_
     refine XS.iadd X702.here hx rfl (hb hby at_170) rfl ?_
     refine XS.iload X702.here hx rfl (hb hby at_171) rfl ?_
     exact hq)
    obtain ⟨cl704, Ar704, q704, S704, M704, G704, J704⟩ := id V702
    obtain ⟨T704, h704, X704, e704, W704, st704⟩ := stC X702 hx hZ e702 Ar704 (j := (3 : Int32)) (inb_of S704 (⟨by decide, by decide⟩)) (g := (mkF m 173 l696 [(.int v687), (.int 3), (.ref b694)])) rfl rfl (hb hby at_173)
    have k704 : AtQ p e below S0 T704 m 174 l696 [] := fun tt hq => k703 tt (st704 tt hq)
    have z704 : h704.size = h702.size := W704.size
    have C704 := C702.trans (CHr.wr W704 (Safe.arv hZ.alike V702 (by decide)) C702.1)
    rw [own_narc mv687] at W704
    have V704 : Arv Z h704 b694 c694 .char (5 : Int32) [(.int 55357), (.int 56832), (.int (p2 &&& (255 : Int32))), (.int v687), (.int 0)] (.int 0) := Arv.set Ar704 q704 S704 M704 G704 J704 (own_fitc mv687) W704 3 rfl (Nat.le_of_ble_eq_true rfl)
    have N704 := Fr.snoc X704 N702 (by omega : n0 ≤ b694)
    have k705 : AtQ p e below S0 T704 m 188 l696 [(.int v691), (.int 4), (.ref b694)] := fun tt hq => k704 tt (by
     refine XS.iload X704.here hx rfl (hb hby at_174) rfl ?_
     refine XS.iconst X704.here hx rfl (hb hby at_176) ?_
     refine XS.icmpNo X704.here hx rfl (hb hby at_177) rfl (tlt (by decide)).2.2.2 ?_
     refine XS.aload X704.here hx rfl (hb hby at_180) rfl rfl ?_
     refine XS.iload X704.here hx rfl (hb hby at_182) rfl ?_
     refine XS.iconst X704.here hx rfl (hb hby at_184) ?_
     refine XS.iadd X704.here hx rfl (hb hby at_185) rfl ?_
     refine XS.iload X704.here hx rfl (hb hby at_186) rfl ?_
     exact hq)
    obtain ⟨cl706, Ar706, q706, S706, M706, G706, J706⟩ := id V704
    obtain ⟨T706, h706, X706, e706, W706, st706⟩ := stC X704 hx hZ e704 Ar706 (j := (4 : Int32)) (inb_of S706 (⟨by decide, by decide⟩)) (g := (mkF m 188 l696 [(.int v691), (.int 4), (.ref b694)])) rfl rfl (hb hby at_188)
    have k706 : AtQ p e below S0 T706 m 189 l696 [] := fun tt hq => k705 tt (st706 tt hq)
    have z706 : h706.size = h704.size := W706.size
    have C706 := C704.trans (CHr.wr W706 (Safe.arv hZ.alike V704 (by decide)) C704.1)
    rw [own_narc mv691] at W706
    have V706 : Arv Z h706 b694 c694 .char (5 : Int32) [(.int 55357), (.int 56832), (.int (p2 &&& (255 : Int32))), (.int v687), (.int v691)] (.int 0) := Arv.set Ar706 q706 S706 M706 G706 J706 (own_fitc mv691) W706 4 rfl (Nat.le_of_ble_eq_true rfl)
    have N706 := Fr.snoc X706 N704 (by omega : n0 ≤ b694)
    have k707 : AtQ p e below S0 T706 m 215 l696 [] := fun tt hq => k706 tt (by
     refine XS.iload X706.here hx rfl (hb hby at_189) rfl ?_
     refine XS.ifNo X706.here hx rfl (hb hby at_191) rfl ((if0 _ _).trans (feq (by decide)).1) ?_
     refine XS.iload X706.here hx rfl (hb hby at_194) rfl ?_
     refine XS.ifYes X706.here hx rfl (pc0 := 196) (pc' := 215) rfl (hb hby at_196) rfl ((if0 _ _).trans (feq (by decide)).2) (by decide) (by decide) ?_
     exact hq)
    obtain ⟨T708, h708, X708, e708, E708, A708, D708, -, st708⟩ := newO X706 hx hZ hown (wq hw 7 rfl) (wq hw 8 rfl) (wq hw 9 rfl) e706 (g := (mkF m 215 l696 [])) rfl (hb hby at_215) (by decide) (by decide)
    obtain ⟨b708, g708⟩ : ∃ z, z = h706.size := ⟨_, rfl⟩
    rw [← g708] at A708 D708 st708
    have k708 : AtQ p e below S0 T708 m 218 l696 [(.ref b708)] := fun tt hq => k707 tt (st708 tt hq)
    have z708 : h706.size ≤ h708.size := E708.1
    have y708 : @LT.lt Nat instLTNat b708 h708.size := A708.lt
    have C708 := C706.trans (CHr.ext E708 C706.1)
    have F708_line : FqH Z h708 b708 (.int 0) := D708 (Or.inl (wq hw 82 rfl)) (ty := .int) (by decide)
    have F708_column : FqI Z h708 b708 (.int 0) := D708 (Or.inl (wq hw 84 rfl)) (ty := .int) (by decide)
    have F708_source : FqE Z h708 b708 .null := D708 (Or.inr (wq hw 86 rfl)) (ty := (.object "com/example/ceruline/ceruline/source/SourceFile")) (by decide)
    have F708_text : FqF Z h708 b708 .null := D708 (Or.inr (wq hw 93 rfl)) (ty := (.object "java/lang/String")) (by decide)
    have F708_offset : FqG Z h708 b708 (.int 0) := D708 (Or.inl (wq hw 100 rfl)) (ty := .int) (by decide)
    have k709 : AtQ p e below S0 T708 m 219 l696 [(.ref b708), (.ref b708)] := fun tt hq => k708 tt (by
     refine XS.dup X708.here hx rfl (hb hby at_218) rfl rfl ?_
     exact hq)
    obtain ⟨T710, h710, X710, e710, E710, A710, D710, -, st710⟩ := newO X708 hx hZ hown (wq hw 10 rfl) (wq hw 11 rfl) (wq hw 12 rfl) e708 (g := (mkF m 219 l696 [(.ref b708), (.ref b708)])) rfl (hb hby at_219) (by decide) (by decide)
    obtain ⟨b710, g710⟩ : ∃ z, z = h708.size := ⟨_, rfl⟩
    rw [← g710] at A710 D710 st710
    have k710 : AtQ p e below S0 T710 m 222 l696 [(.ref b710), (.ref b708), (.ref b708)] := fun tt hq => k709 tt (st710 tt hq)
    have z710 : h708.size ≤ h710.size := E710.1
    have y710 : @LT.lt Nat instLTNat b710 h710.size := A710.lt
    have C710 := C708.trans (CHr.ext E710 C708.1)
    have F710_name : FqC Z h710 b710 .null := D710 (Or.inr (wq hw 74 rfl)) (ty := (.object "java/lang/String")) (by decide)
    have F710_text : FqD Z h710 b710 .null := D710 (Or.inr (wq hw 76 rfl)) (ty := (.object "java/lang/String")) (by decide)
    have k711 : AtQ p e below S0 T710 m 223 l696 [(.ref b710), (.ref b710), (.ref b708), (.ref b708)] := fun tt hq => k710 tt (by
     refine XS.dup X710.here hx rfl (hb hby at_222) rfl rfl ?_
     exact hq)
    obtain ⟨a712, T712, h712, kk712, b712, c712, X712, e712, E712, hS712, hk712, hZ712a, hown712a, A712, Fc712, Fv712, V712, ya712, yb712, Cq712, -, hne712, st712⟩ := ldcCH X710 hx hZ hown (wq hw 13 rfl) (own_wS hw) e710 hS0 (by omega) (own_EW hw) (List.mem_of_getElem? (i := 0) rfl) C710.1 (vs := [(.int 102)]) (z := (1 : Int32)) ⟨by decide, by decide⟩ (by decide) (by decide) (g := (mkF m 223 l696 [(.ref b710), (.ref b710), (.ref b708), (.ref b708)])) rfl (hb hby at_223) (n := 4) (by decide) (by decide) (by decide) (by decide)
    have k712 : AtQ p e below S0 T712 m 225 l696 [(.ref a712), (.ref b710), (.ref b710), (.ref b708), (.ref b708)] := fun tt hq => k711 tt (st712 tt hq)
    have hZ712 : Z.Warmed39 T712.vm := hZ712a
    have hown712 : T712.vm.findClass "com/example/ceruline/ceruline/parsing/SourceReaderAtEndPinLaw" = some m.cls := hown712a
    have z712 : h710.size ≤ h712.size := E712.1
    have C712 := C710.trans Cq712
    obtain ⟨T713, h713, X713, e713, E713, A713, D713, -, st713⟩ := newO X712 hx hZ712 hown712 (wq hw 21 rfl) (wq hw 15 rfl) (wq hw 14 rfl) e712 (g := (mkF m 225 l696 [(.ref a712), (.ref b710), (.ref b710), (.ref b708), (.ref b708)])) rfl (hb hby at_225) (by decide) (by decide)
    obtain ⟨b713, g713⟩ : ∃ z, z = h712.size := ⟨_, rfl⟩
    rw [← g713] at A713 D713 st713
    have k713 : AtQ p e below S0 T713 m 228 l696 [(.ref b713), (.ref a712), (.ref b710), (.ref b710), (.ref b708), (.ref b708)] := fun tt hq => k712 tt (st713 tt hq)
    have z713 : h712.size ≤ h713.size := E713.1
    have y713 : @LT.lt Nat instLTNat b713 h713.size := A713.lt
    have C713 := C712.trans (CHr.ext E713 C712.1)
    have Sf713 : Safe Z own_EL T712.vm h713 b713 := Safe.ext E713 C712.1 (Safe.new (by omega))
    have F713_value : FqA Z h713 b713 .null := D713 (Or.inr (wq hw 17 rfl)) (ty := (.array .byte)) (by decide)
    have F713_coder : FqB Z h713 b713 (.int 0) := D713 (Or.inr (wq hw 18 rfl)) (ty := .byte) (by decide)
    have k714 : AtQ p e below S0 T713 m 231 l696 [(.ref b694), (.ref b713), (.ref b713), (.ref a712), (.ref b710), (.ref b710), (.ref b708), (.ref b708)] := fun tt hq => k713 tt (by
     refine XS.dup X713.here hx rfl (hb hby at_228) rfl rfl ?_
     refine XS.aload X713.here hx rfl (hb hby at_229) rfl rfl ?_
     exact hq)
    have f715 : Old Z n0 h713 := ((((((((((O0.ext E694).wr W698 (by omega)).wr W700 (by omega)).wr W702 (by omega)).wr W704 (by omega)).wr W706 (by omega)).ext E708).ext E710).ext E712).ext E713)
    have f716 : Arv Z h713 b694 c694 .char (5 : Int32) [(.int 55357), (.int 56832), (.int (p2 &&& (255 : Int32))), (.int v687), (.int v691)] (.int 0) := ((((V706.ext E708).ext E710).ext E712).ext E713)
    obtain ⟨_, T717, L717, X717, ⟨rfl, Nq717, Kq717, t717, kt717, gt717, P7170, P7171, P7172, P7173⟩, k717a⟩ := callC' X713 hx hZ712 (y := yqD) rfl hown712 (wq hw 22 rfl) (wq hw 23 rfl) (wq hw 24 rfl) (by decide) (backC (W := 6) (rm_n1u1 l Z a0 hw zc b713 b694 (5 : Int32) (10 : Int32) _ .null (.int 0) c694 _ h713 n0 (by omega) S_c hzc f715 A713 F713_value F713_coder (by omega) (by omega) (by decide) (by decide) (rm_c3_5_0 l Z a0 hw b694 c694 (55357 : Int32) (56832 : Int32) (p2 &&& (255 : Int32)) v687 v691 h713 n0 (by omega) S_ad S_hi S_lo f715 f716 (by omega) (by decide) (by decide) (by decide)) f716) hZ712 (wq hw 24 rfl) (wq hw 14 rfl) (by decide) (by decide)) e713 (argsL := [(.ref b694)]) (rest := [(.ref b713), (.ref a712), (.ref b710), (.ref b710), (.ref b708), (.ref b708)]) rfl rfl pd_10 rfl (by rw [hml]; rfl) (hb hby at_231) (Nat.le_of_eq rfl) (by decide) (by decide) k714
    have k717 : AtQ p e below S0 T717 m 234 l696 [(.ref b713), (.ref a712), (.ref b710), (.ref b710), (.ref b708), (.ref b708)] := k717a
    have N717 := N706.app Nq717
    obtain ⟨h717, e717⟩ : ∃ z, T717.heap = z := ⟨_, rfl⟩
    rw [e717] at Kq717 P7170 P7171 P7172 P7173
    have z717 : h713.size ≤ h717.size := Kq717.1
    have C717 := C713.trans (CHr.keep Kq717 (sfS Sf713 sf0) C713.1)
    have y717 : @LT.lt Nat instLTNat t717 h717.size := P7173.lt
    have f718 : Exa Z h717 b710 "com/example/ceruline/ceruline/source/SourceFile" := (((A710.ext E712).ext E713).keep Kq717)
    have f719 : FqC Z h717 b710 .null := (((F710_name.ext E712).ext E713).keep Kq717 (nin1 (by omega)))
    have f720 : FqD Z h717 b710 .null := (((F710_text.ext E712).ext E713).keep Kq717 (nin1 (by omega)))
    obtain ⟨_, T721, L721, X721, ⟨rfl, Nq721, Kq721, P7210, P7211, P7212⟩, k721a⟩ := callC' X717 hx hZ712 (y := yqM) rfl hown712 (wq hw 64 rfl) (wq hw 65 rfl) (wq hw 66 rfl) (by decide) (backC (W := 3) (rm_sfi l Z a0 hw b710 a712 b713 h717 n0 (by omega) f718 f719 f720 (by omega)) hZ712 (wq hw 66 rfl) (wq hw 12 rfl) (by decide) (by decide)) e717 (argsL := [(.ref a712), (.ref b713)]) (rest := [(.ref b710), (.ref b708), (.ref b708)]) rfl rfl pd_11 rfl (by rw [hml]; rfl) (hb hby at_234) (Nat.le_of_eq rfl) (by decide) (by decide) k717
    have k721 : AtQ p e below S0 T721 m 237 l696 [(.ref b710), (.ref b708), (.ref b708)] := k721a
    have N721 := N717.app Nq721
    obtain ⟨h721, e721⟩ : ∃ z, T721.heap = z := ⟨_, rfl⟩
    rw [e721] at Kq721 P7210 P7211 P7212
    have z721 : h717.size ≤ h721.size := Kq721.1
    have C721 := C717.trans (CHr.keep Kq721 (sfS (Safe.exa hZ712.alike f718 (by decide) (by decide)) sf0) C717.1)
    have f722 : Exa Z h721 b708 "com/example/ceruline/ceruline/parsing/SourceReader" := (((((A708.ext E710).ext E712).ext E713).keep Kq717).keep Kq721)
    have f723 : FqE Z h721 b708 .null := (((((F708_source.ext E710).ext E712).ext E713).keep Kq717 (nin1 (by omega))).keep Kq721 (nin1 (by omega)))
    have f724 : FqF Z h721 b708 .null := (((((F708_text.ext E710).ext E712).ext E713).keep Kq717 (nin1 (by omega))).keep Kq721 (nin1 (by omega)))
    have f725 : FqG Z h721 b708 (.int 0) := (((((F708_offset.ext E710).ext E712).ext E713).keep Kq717 (nin1 (by omega))).keep Kq721 (nin1 (by omega)))
    have f726 : FqH Z h721 b708 (.int 0) := (((((F708_line.ext E710).ext E712).ext E713).keep Kq717 (nin1 (by omega))).keep Kq721 (nin1 (by omega)))
    have f727 : FqI Z h721 b708 (.int 0) := (((((F708_column.ext E710).ext E712).ext E713).keep Kq717 (nin1 (by omega))).keep Kq721 (nin1 (by omega)))
    obtain ⟨_, T728, L728, X728, ⟨rfl, Nq728, Kq728, P728_0, P728_1, P728_2, P728_3, P728_4, P728_5⟩, k728a⟩ := callC' X721 hx hZ712 (y := yqO) rfl hown712 (wq hw 77 rfl) (wq hw 78 rfl) (wq hw 79 rfl) (by decide) (backC (W := 1) (rm_sri l Z a0 hw b708 b710 b713 h721 n0 (by omega) f722 f723 f724 f725 f726 f727 P7210 P7212 (by omega) (by omega)) hZ712 (wq hw 79 rfl) (wq hw 9 rfl) (by decide) (by decide)) e721 (argsL := [(.ref b710)]) (rest := [(.ref b708)]) rfl rfl pd_12 rfl (by rw [hml]; rfl) (hb hby at_237) (Nat.le_of_eq rfl) (by decide) (by decide) k721
    have k728 : AtQ p e below S0 T728 m 240 l696 [(.ref b708)] := k728a
    have N728 := N721.app Nq728
    obtain ⟨h728, e728⟩ : ∃ z, T728.heap = z := ⟨_, rfl⟩
    rw [e728] at Kq728 P728_0 P728_1 P728_2 P728_3 P728_4 P728_5
    have z728 : h721.size ≤ h728.size := Kq728.1
    have C728 := C721.trans (CHr.keep Kq728 (sfS (Safe.exa hZ712.alike f722 (by decide) (by decide)) sf0) C721.1)
    let l729 : Array Slot := #[(vi p0), (vi p1), (vi p2), (vi p3), (vi 3), (vi 1), (vi 1), (vi 5), (vi 4), (vi v680), (vi (p2 &&& (255 : Int32))), (vi v687), (vi v691), (vr b694), (vi 2), (vr b708), .unset, .unset]
    have k730 : AtQ p e below S0 T728 m 242 l729 [] := fun tt hq => k728 tt (by
     refine XS.astore X728.here hx rfl (hb hby at_240) rfl rfl (l' := l729) rfl ?_
     exact hq)
    have f731 : Exa Z h728 b713 "java/lang/String" := ((P7170.keep Kq721).keep Kq728)
    have f732 : FqA Z h728 b713 (.ref t717) := ((P7171.keep Kq721 (nin1 (by omega))).keep Kq728 (nin1 (by omega)))
    have f733 : FqB Z h728 b713 (.int 1) := ((P7172.keep Kq721 (nin1 (by omega))).keep Kq728 (nin1 (by omega)))
    have f734 : Arv Z h728 t717 kt717 .byte (10 : Int32) [(.int (ulo (55357 : Int32))), (.int (uhi (55357 : Int32))), (.int (ulo (56832 : Int32))), (.int (uhi (56832 : Int32))), (.int (ulo (p2 &&& (255 : Int32)))), (.int (uhi (p2 &&& (255 : Int32)))), (.int (ulo v687)), (.int (uhi v687)), (.int (ulo v691)), (.int (uhi v691))] (.int 0) := ((P7173.keep Kq721 (nin1 (by omega))).keep Kq728 (nin1 (by omega)))
    have f735 : Old Z n0 h728 := (((f715.keep Kq717 (allS (by omega) all0)).keep Kq721 (allS (by omega) all0)).keep Kq728 (allS (by omega) all0))
    exact sec_m4 (cd := (1 : Int32)) (o0 := (0 : Int32)) (o1 := (2 : Int32)) (o2 := (3 : Int32)) (o3 := (4 : Int32)) (o4 := (5 : Int32)) hw hx hby hml hret hlk hnm hown712 hZ712 X728 e728 k730 N728 C728 hS712 (by omega) (by omega) (by decide) (by decide) S_c hzc P728_0 P728_1 P728_2 P728_3 P728_4 P728_5 f731 f732 f733 f734 f735 rfl (by decide) (by decide) (by decide) (by decide) (by decide) (by rw [hv680]; exact own_k4 _) (by omega) (by omega) (by omega) (fun H xl xc hn g10 g0 g1 g2 g3 g4 g5 g6 g7 g8 g9 => rm_adv2 l Z a0 hw b708 b710 b713 (0 : Int32) xl xc (128512 : Int32) (2 : Int32) H n0 (by omega) g0 g1 g2 g3 g4 g5 g6 (by omega) (rm_cpu l Z a0 hw zc fm b713 t717 kt717 (10 : Int32) _ (0 : Int32) (5 : Int32) (128512 : Int32) H n0 (by omega) S_c hzc S_f hfm g10 g6 g7 g8 g9 (by decide) (by decide) (by decide) (rm_cp3u l Z a0 hw t717 (0 : Int32) (5 : Int32) (128512 : Int32) H n0 (by omega) (rm_cp4p l Z a0 hw t717 (0 : Int32) (5 : Int32) H n0 (by omega) S_ad g10 (rm_get l Z a0 hw t717 kt717 (10 : Int32) _ (0 : Int32) (0 : Int32) (ulo (55357 : Int32)) (uhi (55357 : Int32)) (55357 : Int32) H n0 (by omega) S_ad S_hi S_lo g10 g9 (by decide) (by decide) (by decide) rfl rfl (own_gc (by decide) (by decide)) (by decide) (by decide)) (rm_get l Z a0 hw t717 kt717 (10 : Int32) _ (1 : Int32) (2 : Int32) (ulo (56832 : Int32)) (uhi (56832 : Int32)) (56832 : Int32) H n0 (by omega) S_ad S_hi S_lo g10 g9 (by decide) (by decide) (by decide) rfl rfl (own_gc (by decide) (by decide)) (by decide) (by decide)) (by decide)))) (by decide) (by decide)) (fun H xl xc hn g10 g0 g1 g2 g3 g4 g5 g6 g7 g8 g9 => rm_adv1 l Z a0 hw b708 b710 b713 (2 : Int32) xl xc (p2 &&& (255 : Int32)) (3 : Int32) H n0 (by omega) g0 g1 g2 g3 g4 g5 g6 (by omega) (rm_cpu l Z a0 hw zc fm b713 t717 kt717 (10 : Int32) _ (2 : Int32) (5 : Int32) (p2 &&& (255 : Int32)) H n0 (by omega) S_c hzc S_f hfm g10 g6 g7 g8 g9 (by decide) (by decide) (by decide) (rm_cp3u l Z a0 hw t717 (2 : Int32) (5 : Int32) (p2 &&& (255 : Int32)) H n0 (by omega) (rm_cp4s l Z a0 hw t717 (2 : Int32) (5 : Int32) (p2 &&& (255 : Int32)) H n0 (by omega) S_ad g10 (rm_get l Z a0 hw t717 kt717 (10 : Int32) _ (2 : Int32) (4 : Int32) (ulo (p2 &&& (255 : Int32))) (uhi (p2 &&& (255 : Int32))) (p2 &&& (255 : Int32)) H n0 (by omega) S_ad S_hi S_lo g10 g9 (by decide) (by decide) (by decide) rfl rfl (own_gc (own_m255 _).1 (own_lt16 (own_m255 _))) (own_m255 _).1 (own_lt16 (own_m255 _))) (own_lt55 (own_m255 _))))) (own_lt16 (own_m255 _)) (by decide)) (fun H xl xc hn g10 g0 g1 g2 g3 g4 g5 g6 g7 g8 g9 => rm_adv1 l Z a0 hw b708 b710 b713 (3 : Int32) xl xc v687 (4 : Int32) H n0 (by omega) g0 g1 g2 g3 g4 g5 g6 (by omega) (rm_cpu l Z a0 hw zc fm b713 t717 kt717 (10 : Int32) _ (3 : Int32) (5 : Int32) v687 H n0 (by omega) S_c hzc S_f hfm g10 g6 g7 g8 g9 (by decide) (by decide) (by decide) (rm_cp3u l Z a0 hw t717 (3 : Int32) (5 : Int32) v687 H n0 (by omega) (rm_cp4s l Z a0 hw t717 (3 : Int32) (5 : Int32) v687 H n0 (by omega) S_ad g10 (rm_get l Z a0 hw t717 kt717 (10 : Int32) _ (3 : Int32) (6 : Int32) (ulo v687) (uhi v687) v687 H n0 (by omega) S_ad S_hi S_lo g10 g9 (by decide) (by decide) (by decide) rfl rfl (own_gc mv687.1 (own_lt16 mv687)) mv687.1 (own_lt16 mv687)) (own_lt55 mv687)))) (own_lt16 mv687) (by decide)) (fun H xl xc hn g10 g0 g1 g2 g3 g4 g5 g6 g7 g8 g9 => rm_adv1 l Z a0 hw b708 b710 b713 (4 : Int32) xl xc v691 (5 : Int32) H n0 (by omega) g0 g1 g2 g3 g4 g5 g6 (by omega) (rm_cpu l Z a0 hw zc fm b713 t717 kt717 (10 : Int32) _ (4 : Int32) (5 : Int32) v691 H n0 (by omega) S_c hzc S_f hfm g10 g6 g7 g8 g9 (by decide) (by decide) (by decide) (rm_cp3u l Z a0 hw t717 (4 : Int32) (5 : Int32) v691 H n0 (by omega) (rm_cp4s l Z a0 hw t717 (4 : Int32) (5 : Int32) v691 H n0 (by omega) S_ad g10 (rm_get l Z a0 hw t717 kt717 (10 : Int32) _ (4 : Int32) (8 : Int32) (ulo v691) (uhi v691) v691 H n0 (by omega) S_ad S_hi S_lo g10 g9 (by decide) (by decide) (by decide) rfl rfl (own_gc mv691.1 (own_lt16 mv691)) mv691.1 (own_lt16 mv691)) (own_lt55 mv691)))) (own_lt16 mv691) (by decide))
theorem comes_1 {Post : Tables → Env → Array Value → State → Outcome → State → Prop} (hpost : ∀ tb e args s v u, (limb_1_1.after args s (.returned v) u = true ∧ limb_1_2.after args s (.returned v) u = true ∧ True) → ReturnedEndW s (.returned v) u (Jvm.fieldLocs frame_1_writes args s ++ Jvm.arrayLocs frame_1_arrays args s ++ Jvm.staticLocs frame_1_statics s) 24 2240 → Post tb e args s (.returned v) u) :
    ArmFor flags0 classFile x code maxLocals ret World_1 tables_1 room_1 Calls_1 rest_1 Pre_1 Post := by
  intro l hfl _ _ p e ha hc hk s m args below hf hA hF happ hP
  obtain ⟨hcalls, hrest, hpre⟩ := hP
  obtain ⟨-, -, -, hnamed, -, -, -, hat⟩ := (Spec.applies_iff hf).mp happ
  obtain ⟨hg, hn⟩ := and_e (Cond.before_iff.mp (show (Jvm.Cond.and given_1 narrow_1).before args s = true from hpre))
  obtain ⟨u1, u2⟩ := and_e hg
  obtain ⟨u3, u4⟩ := and_e u2
  obtain ⟨u5, u6⟩ := and_e u4
  obtain ⟨u7, u8⟩ := and_e u6
  obtain ⟨w0, w1, w2, w3, rfl⟩ : ∃ w0 w1 w2 w3 : Value, args = #[w0, w1, w2, w3] := by
    have hs : args.size = 4 := by simpa [Cond.value, given_1] using u1
    obtain ⟨L⟩ := args
    match L, hs with
    | [w0, w1, w2, w3], _ => exact ⟨w0, w1, w2, w3, rfl⟩
  have hw := fun d (hd : d ∈ tables_1) => atoms_spec (ws := Jvm.Cond.code x code maxLocals ret :: tables_1) hat d (List.mem_cons_of_mem _ hd)
  have hfit : Fit s := fun {y c} hc i hi => by
    obtain ⟨ha, rfl⟩ := Array.getElem?_eq_some_iff.mp hc
    have q := List.all_eq_true.mp ((Array.all_eq_true_iff_forall_mem.mp hF) _ (Array.getElem_mem ha)) i (List.mem_range.mpr hi)
    simpa [Array.getElem?_eq_getElem hi] using q
  obtain ⟨hsets, hown0⟩ := atoms_of _ (rest_1_c_eq ▸ (show rest_1_c.before _ s = true from hrest))
  obtain ⟨i0, ei0⟩ := is_v u3
  obtain rfl : w0 = (.int i0) := Option.some.inj ei0
  obtain ⟨i1, ei1⟩ := is_v u5
  obtain rfl : w1 = (.int i1) := Option.some.inj ei1
  obtain ⟨i2, ei2⟩ := is_v u7
  obtain rfl : w2 = (.int i2) := Option.some.inj ei2
  obtain ⟨i3, ei3⟩ := is_v u8
  obtain rfl : w3 = (.int i3) := Option.some.inj ei3
  obtain ⟨zc, ezc⟩ := is_v (Cond.before_iff.mp (hsets _ (List.mem_of_getElem? (i := 1) rfl)))
  have S_c := Sta.start ezc (Or.inl (hsets _ (List.mem_of_getElem? (i := 0) rfl)))
  have hzc : ¬ zc = (0 : Int32) := own_nz ezc (Cond.before_iff.mp (hsets _ (List.mem_of_getElem? (i := 2) rfl)))
  obtain ⟨fm, efm, hfm⟩ := isR_v (Cond.before_iff.mp (hsets _ (List.mem_of_getElem? (i := 8) rfl)))
  have S_f := Sta.start efm (Or.inl (hsets _ (List.mem_of_getElem? (i := 7) rfl)))
  have S_ad : Sta s s.heap "java/lang/StringUTF16" "$assertionsDisabled" "Z" (.int 1) := Sta.start (eqv_i (Term.int_eval _) (Cond.before_iff.mp (hsets _ (List.mem_of_getElem? (i := 12) rfl)))) (Or.inl (hsets _ (List.mem_of_getElem? (i := 11) rfl)))
  have S_hi : Sta s s.heap "java/lang/StringUTF16" "HI_BYTE_SHIFT" "I" (.int 0) := Sta.start (eqv_i (Term.int_eval _) (Cond.before_iff.mp (hsets _ (List.mem_of_getElem? (i := 15) rfl)))) (Or.inl (hsets _ (List.mem_of_getElem? (i := 14) rfl)))
  have S_lo : Sta s s.heap "java/lang/StringUTF16" "LO_BYTE_SHIFT" "I" (.int 8) := Sta.start (eqv_i (Term.int_eval _) (Cond.before_iff.mp (hsets _ (List.mem_of_getElem? (i := 18) rfl)))) (Or.inl (hsets _ (List.mem_of_getElem? (i := 17) rfl)))
  obtain ⟨n, o, h1, h2, h3, _, L, rfl, ⟨rfl, N⟩, -, hq⟩ := rm0 l s _ hw zc fm i0 i1 i2 i3 s.heap s.heap.size (Nat.le_refl _) S_c hzc S_f hfm S_ad S_hi S_lo (Old.start s) p e ha hc hk s m _ below hf ((Spec.applies_iff_loose hf).mp happ).1 ⟨rfl, State.Warmed39.refl s, rfl, (CHv.start (own_EW hw) (fun q hq => hcalls.1 q hq) (hsets _ (List.mem_of_getElem? (i := 2) rfl)) (wq hw 16 rfl) (wq hw 15 rfl)), fun _ q => nomatch q⟩ trivial
  refine ⟨n, _, h1, h2, h3, hpost _ _ _ _ _ _ ⟨Cond.after_iff.mpr rfl, Cond.after_iff.mpr (eq_i res_at (Term.int_eval (1)) rfl), trivial⟩ ⟨hq.1, hq.2.1, hq.2.2.1, (hq.2.2.2.sift fun y hy => Or.inr (N y hy)).mono (by decide) (by decide)⟩⟩
theorem main_1_1 : Claimed_1_1 := comes_1 fun _ _ _ _ _ _ h hF => ⟨h.1, hF⟩
theorem main_1_2 : Claimed_1_2 := comes_1 fun _ _ _ _ _ _ h hF => ⟨h.2.1, hF⟩
end Jvm.Pilot.@@N@@
namespace Jvm.Pilot.@@N@@
open Jvm Jvm.ClassFile Sem Op Lib Jvm.Free Jvm.Stand Jvm.Pilot.@@N@@.Jvm.D
/-! MADE BY PROGRAM (witnessworld.py) out of the Statement's table words and the real class files: 24 classes; the members and pool entries that the words name. The judged class is class 1, her method 1. -/
namespace start1
open Jvm.ClassFile
def u (s : String) : CpInfo := .utf8 (stringToUtf16 s)
/-- a pool by its gaps: so many unusable entries, then the entry; so many at the end -/
def gap : Nat → List CpInfo → List CpInfo
  | 0, r => r
  | n + 1, r => .unusable :: gap n r
def poolList (es : List (Nat × CpInfo)) (last : Nat) : List CpInfo := es.foldr (fun e r => gap e.1 (e.2 :: r)) (gap last [])
def pool (es : List (Nat × CpInfo)) (last : Nat) : Array CpInfo := ⟨poolList es last⟩
def fileOf (pool : Array CpInfo) (this : Nat) (attrs : Array Attribute := #[]) (ms : Array MethodInfo := #[]) (fl : Nat := 33) (sup : Nat := 0) (ifs : Array Nat := #[]) (fds : Array FieldInfo := #[]) : ClassFile where
  minorVersion := 0
  majorVersion := 65
  constantPool := pool
  accessFlags := fl
  thisClass := this
  superClass := sup
  interfaces := ifs
  fields := fds
  methods := ms
  attributes := attrs
def plain (name : String) (sup : Option ClassId) : Class where
  name := name
  kind := .ordinary
  loader := none
  accessFlags := 33
  super := sup
  interfaces := #[]
  cf := none
  fields := #[]
  methods := #[]
  instanceTypes := #[]
  staticTypes := #[]
  resolved := #[]
  callSites := []
  init := .initialized
  statics := none
  mirror := none

def pool0 : Array CpInfo := pool [(5, u "<init>"), (0, u "()V"), (1, .class_ 10), (1, u "java/lang/Object")] 113

def k0c0 : Code := { maxStack := 0, maxLocals := 1, code := object_method_1_code, exceptionTable := #[], attributes := #[] }
def k0m0 : Method := { name := "<init>", desc := "()V", sig := { parameters := [], returnType := none }, accessFlags := 1, code := some k0c0 }
/-- java/lang/Object -/
def k0 : Class := { plain "java/lang/Object" none with
  accessFlags := 33
  interfaces := #[]
  cf := some (fileOf pool0 8 #[] #[{ accessFlags := 1, nameIndex := 5, descriptorIndex := 6, attributes := #[] }] 33 0 #[] #[])
  fields := #[]
  methods := #[k0m0]
  instanceTypes := #[]
  staticTypes := #[]
  resolved := Array.replicate 124 none
  statics := none }

def pool1 : Array CpInfo := pool [(2, .class_ 4), (1, u "java/lang/Object"), (0, u "<init>"), (0, u "()V"), (0, .methodref 8 9), (0, .class_ 10), (0, .nameAndType 11 12), (0, u "java/lang/Math"), (0, u "min"), (0, u "(II)I"), (0, .integer 55357), (0, .integer 56832), (0, .class_ 16), (0, u "com/example/ceruline/ceruline/parsing/SourceReader"), (0, .class_ 18), (0, u "com/example/ceruline/ceruline/source/SourceFile"), (0, .string 20), (0, u "f"), (0, .class_ 22), (0, u "java/lang/String"), (0, .methodref 21 24), (0, .nameAndType 5 25), (0, u "([C)V"), (0, .methodref 17 27), (0, .nameAndType 5 28), (0, u "(Ljava/lang/String;Ljava/lang/String;)V"), (0, .methodref 15 30), (0, .nameAndType 5 31), (0, u "(Lcom/example/ceruline/ceruline/source/SourceFile;)V"), (0, .methodref 15 33), (0, .nameAndType 34 6), (0, u "advance"), (0, .methodref 15 36), (0, .nameAndType 37 38), (0, u "atEnd"), (0, u "()Z"), (0, .class_ 40), (0, u "com/example/ceruline/ceruline/parsing/SourceReaderAtEndPinLaw"), (2, u "law"), (0, u "(IIII)Z")] 5

def k1m0 : Method := { name := "<init>", desc := "()V", sig := { parameters := [], returnType := none }, accessFlags := 1, code := none }
def k1c1 : Code := { maxStack := 8, maxLocals := 18, code := code, exceptionTable := #[], attributes := #[] }
def k1m1 : Method := { name := "law", desc := "(IIII)Z", sig := { parameters := [.int, .int, .int, .int], returnType := some .boolean }, accessFlags := 9, code := some k1c1 }
/-- com/example/ceruline/ceruline/parsing/SourceReaderAtEndPinLaw -/
def k1 : Class := { plain "com/example/ceruline/ceruline/parsing/SourceReaderAtEndPinLaw" (some 0) with
  accessFlags := 49
  interfaces := #[]
  cf := some (fileOf pool1 39 #[] #[{ accessFlags := 1, nameIndex := 5, descriptorIndex := 6, attributes := #[] }, { accessFlags := 9, nameIndex := 43, descriptorIndex := 44, attributes := #[] }] 49 2 #[] #[])
  fields := #[]
  methods := #[k1m0, k1m1]
  instanceTypes := #[]
  staticTypes := #[]
  resolved := Array.replicate 50 none
  statics := none }

def pool2 : Array CpInfo := pool [(1, .class_ 2), (0, u "java/lang/Math"), (1, .class_ 6), (1, u "java/lang/Object"), (0, u "<init>"), (0, u "()V"), (89, .class_ 100), (1, u "java/lang/Math$RandomNumberGeneratorHolder"), (71, u "negativeZeroFloatBits"), (0, u "J"), (2, u "negativeZeroDoubleBits"), (24, u "min"), (43, u "$assertionsDisabled"), (0, u "Z"), (88, u "(II)I"), (2, u "twoToTheDoubleScaleDown"), (0, u "D"), (4, u "twoToTheDoubleScaleUp"), (9, u "E"), (3, u "PI"), (2, u "TAU"), (2, u "DEGREES_TO_RADIANS"), (0, u "RADIANS_TO_DEGREES")] 94

def k2m0 : Method := { name := "<init>", desc := "()V", sig := { parameters := [], returnType := none }, accessFlags := 2, code := none }
def k2c1 : Code := { maxStack := 2, maxLocals := 2, code := jdk_29_method_69_code, exceptionTable := #[], attributes := #[] }
def k2m1 : Method := { name := "min", desc := "(II)I", sig := { parameters := [.int, .int], returnType := some .int }, accessFlags := 9, code := some k2c1 }
/-- java/lang/Math -/
def k2 : Class := { plain "java/lang/Math" (some 0) with
  accessFlags := 49
  interfaces := #[]
  cf := some (fileOf pool2 1 #[.nestMembers #[98]] #[{ accessFlags := 2, nameIndex := 7, descriptorIndex := 8, attributes := #[] }, { accessFlags := 9, nameIndex := 201, descriptorIndex := 335, attributes := #[] }] 49 4 #[] #[{ accessFlags := 25, nameIndex := 354, descriptorIndex := 339, attributes := #[] }, { accessFlags := 25, nameIndex := 358, descriptorIndex := 339, attributes := #[] }, { accessFlags := 25, nameIndex := 361, descriptorIndex := 339, attributes := #[] }, { accessFlags := 26, nameIndex := 364, descriptorIndex := 339, attributes := #[] }, { accessFlags := 26, nameIndex := 365, descriptorIndex := 339, attributes := #[] }, { accessFlags := 26, nameIndex := 172, descriptorIndex := 173, attributes := #[] }, { accessFlags := 26, nameIndex := 176, descriptorIndex := 173, attributes := #[] }, { accessFlags := 8, nameIndex := 344, descriptorIndex := 339, attributes := #[] }, { accessFlags := 8, nameIndex := 338, descriptorIndex := 339, attributes := #[] }, { accessFlags := 4120, nameIndex := 245, descriptorIndex := 246, attributes := #[] }])
  fields := #[{ name := "E", type := .double, accessFlags := 25, slot := 0, constantValue := 0 }, { name := "PI", type := .double, accessFlags := 25, slot := 1, constantValue := 0 }, { name := "TAU", type := .double, accessFlags := 25, slot := 2, constantValue := 0 }, { name := "DEGREES_TO_RADIANS", type := .double, accessFlags := 26, slot := 3, constantValue := 0 }, { name := "RADIANS_TO_DEGREES", type := .double, accessFlags := 26, slot := 4, constantValue := 0 }, { name := "negativeZeroFloatBits", type := .long, accessFlags := 26, slot := 5, constantValue := 0 }, { name := "negativeZeroDoubleBits", type := .long, accessFlags := 26, slot := 6, constantValue := 0 }, { name := "twoToTheDoubleScaleUp", type := .double, accessFlags := 8, slot := 7, constantValue := 0 }, { name := "twoToTheDoubleScaleDown", type := .double, accessFlags := 8, slot := 8, constantValue := 0 }, { name := "$assertionsDisabled", type := .boolean, accessFlags := 4120, slot := 9, constantValue := 0 }]
  methods := #[k2m0, k2m1]
  instanceTypes := #[]
  staticTypes := #[.double, .double, .double, .double, .double, .long, .long, .double, .double, .boolean]
  resolved := Array.replicate 460 none
  statics := none }

def pool3 : Array CpInfo := pool [(1, .methodref 2 3), (0, .class_ 4), (0, .nameAndType 5 6), (0, u "java/lang/Object"), (0, u "<init>"), (0, u "()V"), (0, .fieldref 8 9), (0, .class_ 10), (0, .nameAndType 11 12), (0, u "com/example/ceruline/ceruline/parsing/SourceReader"), (0, u "line"), (0, u "I"), (0, .fieldref 8 14), (0, .nameAndType 15 12), (0, u "column"), (0, .fieldref 8 17), (0, .nameAndType 18 19), (0, u "source"), (0, u "Lcom/example/ceruline/ceruline/source/SourceFile;"), (0, .methodref 21 22), (0, .class_ 23), (0, .nameAndType 24 25), (0, u "com/example/ceruline/ceruline/source/SourceFile"), (0, u "text"), (0, u "()Ljava/lang/String;"), (0, .fieldref 8 27), (0, .nameAndType 24 28), (0, u "Ljava/lang/String;"), (0, .fieldref 8 30), (0, .nameAndType 31 12), (0, u "offset"), (0, .methodref 33 34), (0, .class_ 35), (0, .nameAndType 36 37), (0, u "java/lang/String"), (0, u "length"), (0, u "()I"), (2, u "atEnd"), (0, u "()Z"), (0, .methodref 33 43), (0, .nameAndType 44 45), (0, u "codePointAt"), (0, u "(I)I"), (0, .methodref 47 48), (0, .class_ 49), (0, .nameAndType 50 45), (0, u "java/lang/Character"), (0, u "charCount"), (23, u "END"), (2, u "(Lcom/example/ceruline/ceruline/source/SourceFile;)V"), (4, u "advance")] 10

def k3c0 : Code := { maxStack := 2, maxLocals := 2, code := prog_66_method_1_code, exceptionTable := #[], attributes := #[] }
def k3m0 : Method := { name := "<init>", desc := "(Lcom/example/ceruline/ceruline/source/SourceFile;)V", sig := { parameters := [(.object "com/example/ceruline/ceruline/source/SourceFile")], returnType := none }, accessFlags := 1, code := some k3c0 }
def k3c1 : Code := { maxStack := 2, maxLocals := 1, code := prog_66_method_2_code, exceptionTable := #[], attributes := #[] }
def k3m1 : Method := { name := "atEnd", desc := "()Z", sig := { parameters := [], returnType := some .boolean }, accessFlags := 1, code := some k3c1 }
def k3c2 : Code := { maxStack := 3, maxLocals := 2, code := prog_66_method_4_code, exceptionTable := #[], attributes := #[] }
def k3m2 : Method := { name := "advance", desc := "()V", sig := { parameters := [], returnType := none }, accessFlags := 1, code := some k3c2 }
/-- com/example/ceruline/ceruline/parsing/SourceReader -/
def k3 : Class := { plain "com/example/ceruline/ceruline/parsing/SourceReader" (some 0) with
  accessFlags := 49
  interfaces := #[]
  cf := some (fileOf pool3 8 #[] #[{ accessFlags := 1, nameIndex := 5, descriptorIndex := 77, attributes := #[] }, { accessFlags := 1, nameIndex := 40, descriptorIndex := 41, attributes := #[] }, { accessFlags := 1, nameIndex := 82, descriptorIndex := 6, attributes := #[] }] 49 2 #[] #[{ accessFlags := 25, nameIndex := 74, descriptorIndex := 12, attributes := #[] }, { accessFlags := 18, nameIndex := 18, descriptorIndex := 19, attributes := #[] }, { accessFlags := 18, nameIndex := 24, descriptorIndex := 28, attributes := #[] }, { accessFlags := 2, nameIndex := 31, descriptorIndex := 12, attributes := #[] }, { accessFlags := 2, nameIndex := 11, descriptorIndex := 12, attributes := #[] }, { accessFlags := 2, nameIndex := 15, descriptorIndex := 12, attributes := #[] }])
  fields := #[{ name := "END", type := .int, accessFlags := 25, slot := 0, constantValue := 0 }, { name := "source", type := (.object "com/example/ceruline/ceruline/source/SourceFile"), accessFlags := 18, slot := 0, constantValue := 0 }, { name := "text", type := (.object "java/lang/String"), accessFlags := 18, slot := 1, constantValue := 0 }, { name := "offset", type := .int, accessFlags := 2, slot := 2, constantValue := 0 }, { name := "line", type := .int, accessFlags := 2, slot := 3, constantValue := 0 }, { name := "column", type := .int, accessFlags := 2, slot := 4, constantValue := 0 }]
  methods := #[k3m0, k3m1, k3m2]
  instanceTypes := #[(.object "com/example/ceruline/ceruline/source/SourceFile"), (.object "java/lang/String"), .int, .int, .int]
  staticTypes := #[.int]
  resolved := Array.replicate 93 none
  statics := none }

def pool4 : Array CpInfo := pool [(1, .methodref 2 3), (0, .class_ 4), (0, .nameAndType 5 6), (0, u "java/lang/Object"), (0, u "<init>"), (0, u "()V"), (0, .class_ 8), (0, u "java/lang/Record")] 13

def k4c0 : Code := { maxStack := 1, maxLocals := 1, code := jdk_30_method_1_code, exceptionTable := #[], attributes := #[] }
def k4m0 : Method := { name := "<init>", desc := "()V", sig := { parameters := [], returnType := none }, accessFlags := 4, code := some k4c0 }
/-- java/lang/Record -/
def k4 : Class := { plain "java/lang/Record" (some 0) with
  accessFlags := 1057
  interfaces := #[]
  cf := some (fileOf pool4 7 #[] #[{ accessFlags := 4, nameIndex := 5, descriptorIndex := 6, attributes := #[] }] 1057 2 #[] #[])
  fields := #[]
  methods := #[k4m0]
  instanceTypes := #[]
  staticTypes := #[]
  resolved := Array.replicate 22 none
  statics := none }

def pool5 : Array CpInfo := pool [(1, .methodref 2 3), (0, .class_ 4), (0, .nameAndType 5 6), (0, u "java/lang/Record"), (0, u "<init>"), (0, u "()V"), (0, .fieldref 8 9), (0, .class_ 10), (0, .nameAndType 11 12), (0, u "com/example/ceruline/ceruline/source/SourceFile"), (0, u "name"), (0, u "Ljava/lang/String;"), (0, .fieldref 8 14), (0, .nameAndType 15 12), (0, u "text"), (16, u "(Ljava/lang/String;Ljava/lang/String;)V"), (20, u "()Ljava/lang/String;")] 23

def k5c0 : Code := { maxStack := 2, maxLocals := 3, code := prog_120_method_1_code, exceptionTable := #[], attributes := #[] }
def k5m0 : Method := { name := "<init>", desc := "(Ljava/lang/String;Ljava/lang/String;)V", sig := { parameters := [(.object "java/lang/String"), (.object "java/lang/String")], returnType := none }, accessFlags := 1, code := some k5c0 }
def k5c1 : Code := { maxStack := 1, maxLocals := 1, code := prog_120_method_7_code, exceptionTable := #[], attributes := #[] }
def k5m1 : Method := { name := "text", desc := "()Ljava/lang/String;", sig := { parameters := [], returnType := some (.object "java/lang/String") }, accessFlags := 1, code := some k5c1 }
/-- com/example/ceruline/ceruline/source/SourceFile -/
def k5 : Class := { plain "com/example/ceruline/ceruline/source/SourceFile" (some 4) with
  accessFlags := 49
  interfaces := #[]
  cf := some (fileOf pool5 8 #[] #[{ accessFlags := 1, nameIndex := 5, descriptorIndex := 32, attributes := #[] }, { accessFlags := 1, nameIndex := 15, descriptorIndex := 53, attributes := #[] }] 49 2 #[] #[{ accessFlags := 18, nameIndex := 11, descriptorIndex := 12, attributes := #[] }, { accessFlags := 18, nameIndex := 15, descriptorIndex := 12, attributes := #[] }])
  fields := #[{ name := "name", type := (.object "java/lang/String"), accessFlags := 18, slot := 0, constantValue := 0 }, { name := "text", type := (.object "java/lang/String"), accessFlags := 18, slot := 1, constantValue := 0 }]
  methods := #[k5m0, k5m1]
  instanceTypes := #[(.object "java/lang/String"), (.object "java/lang/String")]
  staticTypes := #[]
  resolved := Array.replicate 77 none
  statics := none }

def pool6 : Array CpInfo := pool [(1, .class_ 2), (0, u "java/io/Serializable"), (0, .class_ 4), (0, u "java/lang/Object")] 2

/-- java/io/Serializable -/
def k6 : Class := { plain "java/io/Serializable" (some 0) with
  accessFlags := 1537
  interfaces := #[]
  cf := some (fileOf pool6 1 #[] #[] 1537 3 #[] #[])
  fields := #[]
  methods := #[]
  instanceTypes := #[]
  staticTypes := #[]
  resolved := Array.replicate 7 none
  statics := none }

def pool7 : Array CpInfo := pool [(1, .class_ 2), (0, u "java/lang/Comparable"), (0, .class_ 4), (0, u "java/lang/Object")] 7

/-- java/lang/Comparable -/
def k7 : Class := { plain "java/lang/Comparable" (some 0) with
  accessFlags := 1537
  interfaces := #[]
  cf := some (fileOf pool7 1 #[] #[] 1537 3 #[] #[])
  fields := #[]
  methods := #[]
  instanceTypes := #[]
  staticTypes := #[]
  resolved := Array.replicate 12 none
  statics := none }

def pool8 : Array CpInfo := pool [(2, .class_ 4), (1, u "java/lang/CharSequence"), (42, .class_ 48), (0, u "java/lang/CharSequence$1CodePointIterator"), (10, .class_ 60), (0, u "java/lang/CharSequence$1CharIterator"), (5, .class_ 67), (0, u "java/lang/Object")] 63

/-- java/lang/CharSequence -/
def k8 : Class := { plain "java/lang/CharSequence" (some 0) with
  accessFlags := 1537
  interfaces := #[]
  cf := some (fileOf pool8 2 #[.nestMembers #[47, 59]] #[] 1537 66 #[] #[])
  fields := #[]
  methods := #[]
  instanceTypes := #[]
  staticTypes := #[]
  resolved := Array.replicate 131 none
  statics := none }

def pool9 : Array CpInfo := pool [(1, .class_ 2), (0, u "java/lang/constant/Constable"), (0, .class_ 4), (0, u "java/lang/Object")] 6

/-- java/lang/constant/Constable -/
def k9 : Class := { plain "java/lang/constant/Constable" (some 0) with
  accessFlags := 1537
  interfaces := #[]
  cf := some (fileOf pool9 1 #[] #[] 1537 3 #[] #[])
  fields := #[]
  methods := #[]
  instanceTypes := #[]
  staticTypes := #[]
  resolved := Array.replicate 11 none
  statics := none }

def pool10 : Array CpInfo := pool [(1, .class_ 2), (0, u "java/lang/constant/ConstantDesc"), (0, .class_ 4), (0, u "java/lang/Object")] 32

/-- java/lang/constant/ConstantDesc -/
def k10 : Class := { plain "java/lang/constant/ConstantDesc" (some 0) with
  accessFlags := 1537
  interfaces := #[]
  cf := some (fileOf pool10 1 #[] #[] 1537 3 #[] #[])
  fields := #[]
  methods := #[]
  instanceTypes := #[]
  staticTypes := #[]
  resolved := Array.replicate 37 none
  statics := none }

def pool11 : Array CpInfo := pool [(1, .methodref 2 3), (0, .class_ 4), (0, .nameAndType 5 6), (0, u "java/lang/Object"), (0, u "<init>"), (0, u "()V"), (0, .string 8), (0, u ""), (0, .fieldref 10 11), (0, .class_ 12), (0, .nameAndType 13 14), (0, u "java/lang/String"), (0, u "value"), (0, u "[B"), (0, .fieldref 10 16), (0, .nameAndType 17 18), (0, u "coder"), (0, u "B"), (2, u "hash"), (0, u "I"), (2, u "hashIsZero"), (0, u "Z"), (0, .methodref 10 28), (0, .nameAndType 5 29), (0, u "([CIILjava/lang/Void;)V"), (8, .fieldref 10 39), (0, .nameAndType 40 26), (0, u "COMPACT_STRINGS"), (1, .class_ 44), (1, u "java/lang/StringUTF16"), (0, u "compress"), (1, .methodref 42 48), (0, .nameAndType 49 50), (0, u "coderFromArrayLen"), (0, u "([BI)B"), (46, u "([BII)I"), (44, u "()Z"), (34, .methodref 42 178), (0, .nameAndType 45 179), (0, u "([CII)[B"), (154, u "()I"), (0, .methodref 10 336), (0, .nameAndType 17 337), (0, u "()B"), (53, u "(II)V"), (100, .methodref 10 493), (0, .nameAndType 494 142), (0, u "isLatin1"), (4, .methodref 10 500), (0, .nameAndType 501 391), (0, u "checkIndex"), (0, .methodref 42 503), (0, .nameAndType 504 97), (0, u "codePointAt"), (2, u "length"), (67, .class_ 576), (0, u "java/lang/CharSequence"), (22, u "CASE_INSENSITIVE_ORDER"), (0, u "Ljava/util/Comparator;"), (164, u "(I)I"), (244, u "([C)V"), (42, .fieldref 1054 1055), (0, .class_ 1056), (0, .nameAndType 1057 1058), (0, u "jdk/internal/util/Preconditions"), (0, u "SIOOBE_FORMATTER"), (0, u "Ljava/util/function/BiFunction;"), (0, .methodref 1054 1060), (0, .nameAndType 501 1061), (0, u "(IILjava/util/function/BiFunction;)I"), (39, u "serialPersistentFields"), (0, u "[Ljava/io/ObjectStreamField;"), (0, .class_ 1104), (0, u "java/lang/String$CaseInsensitiveComparator"), (1, .class_ 1107), (0, u "java/io/Serializable"), (0, .class_ 1109), (0, u "java/lang/Comparable"), (0, .class_ 1111), (0, u "java/lang/constant/Constable"), (0, .class_ 1113), (0, u "java/lang/constant/ConstantDesc"), (2, u "serialVersionUID"), (0, u "J"), (3, u "REPL"), (0, u "C"), (2, u "LATIN1"), (1, u "UTF16")] 323

def k11m0 : Method := { name := "<init>", desc := "()V", sig := { parameters := [], returnType := none }, accessFlags := 1, code := none }
def k11c1 : Code := { maxStack := 5, maxLocals := 2, code := jdk_42_method_3_code, exceptionTable := #[], attributes := #[] }
def k11m1 : Method := { name := "<init>", desc := "([C)V", sig := { parameters := [(.array .char)], returnType := none }, accessFlags := 1, code := some k11c1 }
def k11c2 : Code := { maxStack := 2, maxLocals := 1, code := jdk_42_method_54_code, exceptionTable := #[], attributes := #[] }
def k11m2 : Method := { name := "length", desc := "()I", sig := { parameters := [], returnType := some .int }, accessFlags := 1, code := some k11c2 }
def k11c3 : Code := { maxStack := 3, maxLocals := 3, code := jdk_42_method_57_code, exceptionTable := #[], attributes := #[] }
def k11m3 : Method := { name := "codePointAt", desc := "(I)I", sig := { parameters := [.int], returnType := some .int }, accessFlags := 1, code := some k11c3 }
def k11c4 : Code := { maxStack := 4, maxLocals := 6, code := jdk_42_method_149_code, exceptionTable := #[], attributes := #[] }
def k11m4 : Method := { name := "<init>", desc := "([CIILjava/lang/Void;)V", sig := { parameters := [(.array .char), .int, .int, (.object "java/lang/Void")], returnType := none }, accessFlags := 2, code := some k11c4 }
def k11c5 : Code := { maxStack := 1, maxLocals := 1, code := jdk_42_method_152_code, exceptionTable := #[], attributes := #[] }
def k11m5 : Method := { name := "coder", desc := "()B", sig := { parameters := [], returnType := some .byte }, accessFlags := 0, code := some k11c5 }
def k11c6 : Code := { maxStack := 1, maxLocals := 1, code := jdk_42_method_154_code, exceptionTable := #[], attributes := #[] }
def k11m6 : Method := { name := "isLatin1", desc := "()Z", sig := { parameters := [], returnType := some .boolean }, accessFlags := 0, code := some k11c6 }
def k11c7 : Code := { maxStack := 3, maxLocals := 2, code := jdk_42_method_155_code, exceptionTable := #[], attributes := #[] }
def k11m7 : Method := { name := "checkIndex", desc := "(II)V", sig := { parameters := [.int, .int], returnType := none }, accessFlags := 8, code := some k11c7 }
/-- java/lang/String -/
def k11 : Class := { plain "java/lang/String" (some 0) with
  accessFlags := 49
  interfaces := #[6, 7, 8, 9, 10]
  cf := some (fileOf pool11 10 #[.nestMembers #[1103]] #[{ accessFlags := 1, nameIndex := 5, descriptorIndex := 6, attributes := #[] }, { accessFlags := 1, nameIndex := 5, descriptorIndex := 1010, attributes := #[] }, { accessFlags := 1, nameIndex := 507, descriptorIndex := 334, attributes := #[] }, { accessFlags := 1, nameIndex := 504, descriptorIndex := 765, attributes := #[] }, { accessFlags := 2, nameIndex := 5, descriptorIndex := 29, attributes := #[] }, { accessFlags := 0, nameIndex := 17, descriptorIndex := 337, attributes := #[] }, { accessFlags := 0, nameIndex := 494, descriptorIndex := 142, attributes := #[] }, { accessFlags := 8, nameIndex := 501, descriptorIndex := 391, attributes := #[] }] 49 2 #[1106, 1108, 575, 1110, 1112] #[{ accessFlags := 18, nameIndex := 13, descriptorIndex := 14, attributes := #[] }, { accessFlags := 18, nameIndex := 17, descriptorIndex := 18, attributes := #[] }, { accessFlags := 2, nameIndex := 21, descriptorIndex := 22, attributes := #[] }, { accessFlags := 2, nameIndex := 25, descriptorIndex := 26, attributes := #[] }, { accessFlags := 26, nameIndex := 1116, descriptorIndex := 1117, attributes := #[] }, { accessFlags := 24, nameIndex := 40, descriptorIndex := 26, attributes := #[] }, { accessFlags := 26, nameIndex := 1101, descriptorIndex := 1102, attributes := #[] }, { accessFlags := 26, nameIndex := 1121, descriptorIndex := 1122, attributes := #[] }, { accessFlags := 25, nameIndex := 599, descriptorIndex := 600, attributes := #[] }, { accessFlags := 24, nameIndex := 1125, descriptorIndex := 18, attributes := #[] }, { accessFlags := 24, nameIndex := 1127, descriptorIndex := 18, attributes := #[] }])
  fields := #[{ name := "value", type := (.array .byte), accessFlags := 18, slot := 0, constantValue := 0 }, { name := "coder", type := .byte, accessFlags := 18, slot := 1, constantValue := 0 }, { name := "hash", type := .int, accessFlags := 2, slot := 2, constantValue := 0 }, { name := "hashIsZero", type := .boolean, accessFlags := 2, slot := 3, constantValue := 0 }, { name := "serialVersionUID", type := .long, accessFlags := 26, slot := 0, constantValue := 0 }, { name := "COMPACT_STRINGS", type := .boolean, accessFlags := 24, slot := 1, constantValue := 0 }, { name := "serialPersistentFields", type := (.array (.object "java/io/ObjectStreamField")), accessFlags := 26, slot := 2, constantValue := 0 }, { name := "REPL", type := .char, accessFlags := 26, slot := 3, constantValue := 0 }, { name := "CASE_INSENSITIVE_ORDER", type := (.object "java/util/Comparator"), accessFlags := 25, slot := 4, constantValue := 0 }, { name := "LATIN1", type := .byte, accessFlags := 24, slot := 5, constantValue := 0 }, { name := "UTF16", type := .byte, accessFlags := 24, slot := 6, constantValue := 0 }]
  methods := #[k11m0, k11m1, k11m2, k11m3, k11m4, k11m5, k11m6, k11m7]
  instanceTypes := #[(.array .byte), .byte, .int, .boolean]
  staticTypes := #[.long, .boolean, (.array (.object "java/io/ObjectStreamField")), .char, (.object "java/util/Comparator"), .byte, .byte]
  resolved := Array.replicate 1451 none
  statics := some 0 }

def pool12 : Array CpInfo := pool [(6, .class_ 8), (1, u "java/lang/Object"), (0, u "<init>"), (0, u "()V"), (0, .methodref 12 13), (0, .class_ 14), (0, .nameAndType 15 16), (0, u "java/lang/StringUTF16"), (0, u "newBytesLength"), (0, u "(I)I"), (3, .integer 1073741823), (23, .fieldref 12 45), (0, .nameAndType 46 47), (0, u "$assertionsDisabled"), (0, u "Z"), (11, .fieldref 12 60), (0, .nameAndType 61 62), (0, u "HI_BYTE_SHIFT"), (0, u "I"), (0, .fieldref 12 64), (0, .nameAndType 65 62), (0, u "LO_BYTE_SHIFT"), (5, .methodref 12 72), (0, .nameAndType 73 74), (0, u "getChar"), (0, u "([BI)C"), (0, .methodref 76 77), (0, .class_ 78), (0, .nameAndType 79 80), (0, u "java/lang/Character"), (0, u "isHighSurrogate"), (0, u "(C)Z"), (0, .methodref 76 82), (0, .nameAndType 83 80), (0, u "isLowSurrogate"), (0, .methodref 76 85), (0, .nameAndType 86 87), (0, u "toCodePoint"), (0, u "(CC)I"), (0, .methodref 12 89), (0, .nameAndType 90 91), (0, u "codePointAt"), (0, u "([BIIZ)I"), (15, .methodref 12 108), (0, .nameAndType 109 110), (0, u "newBytesFor"), (0, u "(I)[B"), (0, .methodref 12 112), (0, .nameAndType 113 114), (0, u "putChar"), (0, u "([BII)V"), (0, .methodref 12 116), (0, .nameAndType 117 118), (0, u "compress"), (0, u "([CI[BII)I"), (0, .methodref 12 120), (0, .nameAndType 121 122), (0, u "toBytes"), (0, u "([CII)[B"), (127, u "([BII)I"), (10, u "coderFromArrayLen"), (0, u "([BI)B"), (106, .class_ 371), (1, u "java/lang/StringUTF16$LinesSpliterator"), (58, u "MAX_LENGTH"), (196, .class_ 628), (0, u "java/lang/StringUTF16$CodePointsSpliterator"), (0, .class_ 630), (0, u "java/lang/StringUTF16$CharsSpliterator")] 4

def k12m0 : Method := { name := "<init>", desc := "()V", sig := { parameters := [], returnType := none }, accessFlags := 0, code := none }
def k12c1 : Code := { maxStack := 1, maxLocals := 1, code := jdk_52_method_2_code, exceptionTable := #[], attributes := #[] }
def k12m1 : Method := { name := "newBytesFor", desc := "(I)[B", sig := { parameters := [.int], returnType := some (.array .byte) }, accessFlags := 9, code := some k12c1 }
def k12c2 : Code := { maxStack := 4, maxLocals := 1, code := jdk_52_method_3_code, exceptionTable := #[], attributes := #[] }
def k12m2 : Method := { name := "newBytesLength", desc := "(I)I", sig := { parameters := [.int], returnType := some .int }, accessFlags := 9, code := some k12c2 }
def k12c3 : Code := { maxStack := 4, maxLocals := 3, code := jdk_52_method_4_code, exceptionTable := #[], attributes := #[] }
def k12m3 : Method := { name := "putChar", desc := "([BII)V", sig := { parameters := [(.array .byte), .int, .int], returnType := none }, accessFlags := 8, code := some k12c3 }
def k12c4 : Code := { maxStack := 3, maxLocals := 2, code := jdk_52_method_5_code, exceptionTable := #[], attributes := #[] }
def k12m4 : Method := { name := "getChar", desc := "([BI)C", sig := { parameters := [(.array .byte), .int], returnType := some .char }, accessFlags := 8, code := some k12c4 }
def k12c5 : Code := { maxStack := 2, maxLocals := 6, code := jdk_52_method_7_code, exceptionTable := #[], attributes := #[] }
def k12m5 : Method := { name := "codePointAt", desc := "([BIIZ)I", sig := { parameters := [(.array .byte), .int, .int, .boolean], returnType := some .int }, accessFlags := 10, code := some k12c5 }
def k12c6 : Code := { maxStack := 4, maxLocals := 3, code := jdk_52_method_8_code, exceptionTable := #[], attributes := #[] }
def k12m6 : Method := { name := "codePointAt", desc := "([BII)I", sig := { parameters := [(.array .byte), .int, .int], returnType := some .int }, accessFlags := 9, code := some k12c6 }
def k12c7 : Code := { maxStack := 4, maxLocals := 5, code := jdk_52_method_14_code, exceptionTable := #[], attributes := #[] }
def k12m7 : Method := { name := "toBytes", desc := "([CII)[B", sig := { parameters := [(.array .char), .int, .int], returnType := some (.array .byte) }, accessFlags := 9, code := some k12c7 }
def k12c8 : Code := { maxStack := 2, maxLocals := 2, code := jdk_52_method_15_code, exceptionTable := #[], attributes := #[] }
def k12m8 : Method := { name := "coderFromArrayLen", desc := "([BI)B", sig := { parameters := [(.array .byte), .int], returnType := some .byte }, accessFlags := 8, code := some k12c8 }
def k12c9 : Code := { maxStack := 5, maxLocals := 6, code := jdk_52_method_16_code, exceptionTable := #[], attributes := #[] }
def k12m9 : Method := { name := "compress", desc := "([CII)[B", sig := { parameters := [(.array .char), .int, .int], returnType := some (.array .byte) }, accessFlags := 9, code := some k12c9 }
def k12c10 : Code := { maxStack := 3, maxLocals := 7, code := jdk_52_method_21_code, exceptionTable := #[], attributes := #[] }
def k12m10 : Method := { name := "compress", desc := "([CI[BII)I", sig := { parameters := [(.array .char), .int, (.array .byte), .int, .int], returnType := some .int }, accessFlags := 9, code := some k12c10 }
/-- java/lang/StringUTF16 -/
def k12 : Class := { plain "java/lang/StringUTF16" (some 0) with
  accessFlags := 48
  interfaces := #[]
  cf := some (fileOf pool12 12 #[.nestMembers #[627, 629, 369]] #[{ accessFlags := 0, nameIndex := 9, descriptorIndex := 10, attributes := #[] }, { accessFlags := 9, nameIndex := 109, descriptorIndex := 110, attributes := #[] }, { accessFlags := 9, nameIndex := 15, descriptorIndex := 16, attributes := #[] }, { accessFlags := 8, nameIndex := 113, descriptorIndex := 114, attributes := #[] }, { accessFlags := 8, nameIndex := 73, descriptorIndex := 74, attributes := #[] }, { accessFlags := 10, nameIndex := 90, descriptorIndex := 91, attributes := #[] }, { accessFlags := 9, nameIndex := 90, descriptorIndex := 250, attributes := #[] }, { accessFlags := 9, nameIndex := 121, descriptorIndex := 122, attributes := #[] }, { accessFlags := 8, nameIndex := 261, descriptorIndex := 262, attributes := #[] }, { accessFlags := 9, nameIndex := 117, descriptorIndex := 122, attributes := #[] }, { accessFlags := 9, nameIndex := 117, descriptorIndex := 118, attributes := #[] }] 48 6 #[] #[{ accessFlags := 26, nameIndex := 61, descriptorIndex := 62, attributes := #[] }, { accessFlags := 26, nameIndex := 65, descriptorIndex := 62, attributes := #[] }, { accessFlags := 24, nameIndex := 430, descriptorIndex := 62, attributes := #[] }, { accessFlags := 4120, nameIndex := 46, descriptorIndex := 47, attributes := #[] }])
  fields := #[{ name := "HI_BYTE_SHIFT", type := .int, accessFlags := 26, slot := 0, constantValue := 0 }, { name := "LO_BYTE_SHIFT", type := .int, accessFlags := 26, slot := 1, constantValue := 0 }, { name := "MAX_LENGTH", type := .int, accessFlags := 24, slot := 2, constantValue := 0 }, { name := "$assertionsDisabled", type := .boolean, accessFlags := 4120, slot := 3, constantValue := 0 }]
  methods := #[k12m0, k12m1, k12m2, k12m3, k12m4, k12m5, k12m6, k12m7, k12m8, k12m9, k12m10]
  instanceTypes := #[]
  staticTypes := #[.int, .int, .int, .boolean]
  resolved := Array.replicate 635 none
  statics := some 1 }

def pool13 : Array CpInfo := pool [(2, .class_ 4), (1, u "java/lang/Object"), (0, u "<init>"), (0, u "()V"), (17, .class_ 26), (1, u "jdk/internal/util/Preconditions"), (6, u "checkIndex"), (21, .class_ 56), (0, u "jdk/internal/util/Preconditions$4"), (57, .class_ 115), (0, u "jdk/internal/util/Preconditions$1"), (7, u "SIOOBE_FORMATTER"), (0, u "Ljava/util/function/BiFunction;"), (0, .class_ 126), (0, u "jdk/internal/util/Preconditions$2"), (3, u "AIOOBE_FORMATTER"), (0, .class_ 132), (0, u "jdk/internal/util/Preconditions$3"), (3, u "IOOBE_FORMATTER"), (41, u "(IILjava/util/function/BiFunction;)I")] 15

def k13m0 : Method := { name := "<init>", desc := "()V", sig := { parameters := [], returnType := none }, accessFlags := 1, code := none }
def k13c1 : Code := { maxStack := 3, maxLocals := 3, code := jdk_41_method_11_code, exceptionTable := #[], attributes := #[] }
def k13m1 : Method := { name := "checkIndex", desc := "(IILjava/util/function/BiFunction;)I", sig := { parameters := [.int, .int, (.object "java/util/function/BiFunction")], returnType := some .int }, accessFlags := 9, code := some k13c1 }
/-- jdk/internal/util/Preconditions -/
def k13 : Class := { plain "jdk/internal/util/Preconditions" (some 0) with
  accessFlags := 33
  interfaces := #[]
  cf := some (fileOf pool13 24 #[.nestMembers #[55, 131, 125, 114]] #[{ accessFlags := 1, nameIndex := 5, descriptorIndex := 6, attributes := #[] }, { accessFlags := 9, nameIndex := 33, descriptorIndex := 178, attributes := #[] }] 33 2 #[] #[{ accessFlags := 25, nameIndex := 123, descriptorIndex := 124, attributes := #[] }, { accessFlags := 25, nameIndex := 130, descriptorIndex := 124, attributes := #[] }, { accessFlags := 25, nameIndex := 136, descriptorIndex := 124, attributes := #[] }])
  fields := #[{ name := "SIOOBE_FORMATTER", type := (.object "java/util/function/BiFunction"), accessFlags := 25, slot := 0, constantValue := 0 }, { name := "AIOOBE_FORMATTER", type := (.object "java/util/function/BiFunction"), accessFlags := 25, slot := 1, constantValue := 0 }, { name := "IOOBE_FORMATTER", type := (.object "java/util/function/BiFunction"), accessFlags := 25, slot := 2, constantValue := 0 }]
  methods := #[k13m0, k13m1]
  instanceTypes := #[]
  staticTypes := #[(.object "java/util/function/BiFunction"), (.object "java/util/function/BiFunction"), (.object "java/util/function/BiFunction")]
  resolved := Array.replicate 194 none
  statics := some 2 }

def pool14 : Array CpInfo := pool [(1, .class_ 2), (0, u "java/lang/Character"), (18, u "value"), (0, u "C"), (19, .class_ 44), (1, u "java/lang/Object"), (3, .class_ 50), (1, u "java/lang/Character$CharacterCache"), (22, .integer 65536), (1, .integer 55296), (0, .integer 56320), (0, .integer 57344), (2, u "isHighSurrogate"), (0, u "(C)Z"), (2, u "isLowSurrogate"), (0, .integer 4238353408), (12, u "toCodePoint"), (0, u "(CC)I"), (74, u "(I)I"), (109, u "$assertionsDisabled"), (0, u "Z"), (21, .class_ 309), (1, u "java/lang/Character$UnicodeBlock"), (73, u "TYPE"), (0, u "Ljava/lang/Class;"), (0, .class_ 386), (0, u "java/io/Serializable"), (0, .class_ 388), (0, u "java/lang/Comparable"), (0, .class_ 390), (0, u "java/lang/constant/Constable"), (0, u "MIN_RADIX"), (0, u "I"), (2, u "MAX_RADIX"), (1, u "MIN_VALUE"), (1, u "MAX_VALUE"), (3, u "UNASSIGNED"), (0, u "B"), (0, u "UPPERCASE_LETTER"), (1, u "LOWERCASE_LETTER"), (0, u "TITLECASE_LETTER"), (1, u "MODIFIER_LETTER"), (1, u "OTHER_LETTER"), (1, u "NON_SPACING_MARK"), (1, u "ENCLOSING_MARK"), (1, u "COMBINING_SPACING_MARK"), (1, u "DECIMAL_DIGIT_NUMBER"), (1, u "LETTER_NUMBER"), (1, u "OTHER_NUMBER"), (1, u "SPACE_SEPARATOR"), (1, u "LINE_SEPARATOR"), (1, u "PARAGRAPH_SEPARATOR"), (1, u "CONTROL"), (1, u "FORMAT"), (1, u "PRIVATE_USE"), (1, u "SURROGATE"), (1, u "DASH_PUNCTUATION"), (1, u "START_PUNCTUATION"), (1, u "END_PUNCTUATION"), (1, u "CONNECTOR_PUNCTUATION"), (1, u "OTHER_PUNCTUATION"), (1, u "MATH_SYMBOL"), (1, u "CURRENCY_SYMBOL"), (1, u "MODIFIER_SYMBOL"), (1, u "OTHER_SYMBOL"), (1, u "INITIAL_QUOTE_PUNCTUATION"), (1, u "FINAL_QUOTE_PUNCTUATION"), (1, u "ERROR"), (1, u "DIRECTIONALITY_UNDEFINED"), (0, u "DIRECTIONALITY_LEFT_TO_RIGHT"), (0, u "DIRECTIONALITY_RIGHT_TO_LEFT"), (0, u "DIRECTIONALITY_RIGHT_TO_LEFT_ARABIC"), (0, u "DIRECTIONALITY_EUROPEAN_NUMBER"), (0, u "DIRECTIONALITY_EUROPEAN_NUMBER_SEPARATOR"), (0, u "DIRECTIONALITY_EUROPEAN_NUMBER_TERMINATOR"), (0, u "DIRECTIONALITY_ARABIC_NUMBER"), (0, u "DIRECTIONALITY_COMMON_NUMBER_SEPARATOR"), (0, u "DIRECTIONALITY_NONSPACING_MARK"), (0, u "DIRECTIONALITY_BOUNDARY_NEUTRAL"), (0, u "DIRECTIONALITY_PARAGRAPH_SEPARATOR"), (0, u "DIRECTIONALITY_SEGMENT_SEPARATOR"), (0, u "DIRECTIONALITY_WHITESPACE"), (0, u "DIRECTIONALITY_OTHER_NEUTRALS"), (0, u "DIRECTIONALITY_LEFT_TO_RIGHT_EMBEDDING"), (0, u "DIRECTIONALITY_LEFT_TO_RIGHT_OVERRIDE"), (0, u "DIRECTIONALITY_RIGHT_TO_LEFT_EMBEDDING"), (0, u "DIRECTIONALITY_RIGHT_TO_LEFT_OVERRIDE"), (1, u "DIRECTIONALITY_POP_DIRECTIONAL_FORMAT"), (0, u "DIRECTIONALITY_LEFT_TO_RIGHT_ISOLATE"), (0, u "DIRECTIONALITY_RIGHT_TO_LEFT_ISOLATE"), (0, u "DIRECTIONALITY_FIRST_STRONG_ISOLATE"), (0, u "DIRECTIONALITY_POP_DIRECTIONAL_ISOLATE"), (0, u "MIN_HIGH_SURROGATE"), (0, u "MAX_HIGH_SURROGATE"), (1, u "MIN_LOW_SURROGATE"), (0, u "MAX_LOW_SURROGATE"), (1, u "MIN_SURROGATE"), (0, u "MAX_SURROGATE"), (0, u "MIN_SUPPLEMENTARY_CODE_POINT"), (0, u "MIN_CODE_POINT"), (0, u "MAX_CODE_POINT"), (1, u "serialVersionUID"), (0, u "J"), (2, u "SIZE"), (0, u "BYTES"), (29, u "charCount"), (58, .class_ 596), (0, u "java/lang/Character$UnicodeScript"), (0, .class_ 598), (0, u "java/lang/Character$Subset")] 5

def k14c0 : Code := { maxStack := 2, maxLocals := 1, code := jdk_89_method_14_code, exceptionTable := #[], attributes := #[] }
def k14m0 : Method := { name := "isHighSurrogate", desc := "(C)Z", sig := { parameters := [.char], returnType := some .boolean }, accessFlags := 9, code := some k14c0 }
def k14c1 : Code := { maxStack := 2, maxLocals := 1, code := jdk_89_method_15_code, exceptionTable := #[], attributes := #[] }
def k14m1 : Method := { name := "isLowSurrogate", desc := "(C)Z", sig := { parameters := [.char], returnType := some .boolean }, accessFlags := 9, code := some k14c1 }
def k14c2 : Code := { maxStack := 2, maxLocals := 1, code := jdk_89_method_18_code, exceptionTable := #[], attributes := #[] }
def k14m2 : Method := { name := "charCount", desc := "(I)I", sig := { parameters := [.int], returnType := some .int }, accessFlags := 9, code := some k14c2 }
def k14c3 : Code := { maxStack := 2, maxLocals := 2, code := jdk_89_method_19_code, exceptionTable := #[], attributes := #[] }
def k14m3 : Method := { name := "toCodePoint", desc := "(CC)I", sig := { parameters := [.char, .char], returnType := some .int }, accessFlags := 9, code := some k14c3 }
/-- java/lang/Character -/
def k14 : Class := { plain "java/lang/Character" (some 0) with
  accessFlags := 49
  interfaces := #[6, 7, 9]
  cf := some (fileOf pool14 1 #[.nestMembers #[48, 595, 307, 597]] #[{ accessFlags := 9, nameIndex := 80, descriptorIndex := 81, attributes := #[] }, { accessFlags := 9, nameIndex := 84, descriptorIndex := 81, attributes := #[] }, { accessFlags := 9, nameIndex := 536, descriptorIndex := 174, attributes := #[] }, { accessFlags := 9, nameIndex := 98, descriptorIndex := 99, attributes := #[] }] 49 42 #[385, 387, 389] #[{ accessFlags := 25, nameIndex := 391, descriptorIndex := 392, attributes := #[] }, { accessFlags := 25, nameIndex := 395, descriptorIndex := 392, attributes := #[] }, { accessFlags := 25, nameIndex := 397, descriptorIndex := 22, attributes := #[] }, { accessFlags := 25, nameIndex := 399, descriptorIndex := 22, attributes := #[] }, { accessFlags := 25, nameIndex := 383, descriptorIndex := 384, attributes := #[] }, { accessFlags := 25, nameIndex := 403, descriptorIndex := 404, attributes := #[] }, { accessFlags := 25, nameIndex := 405, descriptorIndex := 404, attributes := #[] }, { accessFlags := 25, nameIndex := 407, descriptorIndex := 404, attributes := #[] }, { accessFlags := 25, nameIndex := 408, descriptorIndex := 404, attributes := #[] }, { accessFlags := 25, nameIndex := 410, descriptorIndex := 404, attributes := #[] }, { accessFlags := 25, nameIndex := 412, descriptorIndex := 404, attributes := #[] }, { accessFlags := 25, nameIndex := 414, descriptorIndex := 404, attributes := #[] }, { accessFlags := 25, nameIndex := 416, descriptorIndex := 404, attributes := #[] }, { accessFlags := 25, nameIndex := 418, descriptorIndex := 404, attributes := #[] }, { accessFlags := 25, nameIndex := 420, descriptorIndex := 404, attributes := #[] }, { accessFlags := 25, nameIndex := 422, descriptorIndex := 404, attributes := #[] }, { accessFlags := 25, nameIndex := 424, descriptorIndex := 404, attributes := #[] }, { accessFlags := 25, nameIndex := 426, descriptorIndex := 404, attributes := #[] }, { accessFlags := 25, nameIndex := 428, descriptorIndex := 404, attributes := #[] }, { accessFlags := 25, nameIndex := 430, descriptorIndex := 404, attributes := #[] }, { accessFlags := 25, nameIndex := 432, descriptorIndex := 404, attributes := #[] }, { accessFlags := 25, nameIndex := 434, descriptorIndex := 404, attributes := #[] }, { accessFlags := 25, nameIndex := 436, descriptorIndex := 404, attributes := #[] }, { accessFlags := 25, nameIndex := 438, descriptorIndex := 404, attributes := #[] }, { accessFlags := 25, nameIndex := 440, descriptorIndex := 404, attributes := #[] }, { accessFlags := 25, nameIndex := 442, descriptorIndex := 404, attributes := #[] }, { accessFlags := 25, nameIndex := 444, descriptorIndex := 404, attributes := #[] }, { accessFlags := 25, nameIndex := 446, descriptorIndex := 404, attributes := #[] }, { accessFlags := 25, nameIndex := 448, descriptorIndex := 404, attributes := #[] }, { accessFlags := 25, nameIndex := 450, descriptorIndex := 404, attributes := #[] }, { accessFlags := 25, nameIndex := 452, descriptorIndex := 404, attributes := #[] }, { accessFlags := 25, nameIndex := 454, descriptorIndex := 404, attributes := #[] }, { accessFlags := 25, nameIndex := 456, descriptorIndex := 404, attributes := #[] }, { accessFlags := 25, nameIndex := 458, descriptorIndex := 404, attributes := #[] }, { accessFlags := 25, nameIndex := 460, descriptorIndex := 404, attributes := #[] }, { accessFlags := 24, nameIndex := 462, descriptorIndex := 392, attributes := #[] }, { accessFlags := 25, nameIndex := 464, descriptorIndex := 404, attributes := #[] }, { accessFlags := 25, nameIndex := 465, descriptorIndex := 404, attributes := #[] }, { accessFlags := 25, nameIndex := 466, descriptorIndex := 404, attributes := #[] }, { accessFlags := 25, nameIndex := 467, descriptorIndex := 404, attributes := #[] }, { accessFlags := 25, nameIndex := 468, descriptorIndex := 404, attributes := #[] }, { accessFlags := 25, nameIndex := 469, descriptorIndex := 404, attributes := #[] }, { accessFlags := 25, nameIndex := 470, descriptorIndex := 404, attributes := #[] }, { accessFlags := 25, nameIndex := 471, descriptorIndex := 404, attributes := #[] }, { accessFlags := 25, nameIndex := 472, descriptorIndex := 404, attributes := #[] }, { accessFlags := 25, nameIndex := 473, descriptorIndex := 404, attributes := #[] }, { accessFlags := 25, nameIndex := 474, descriptorIndex := 404, attributes := #[] }, { accessFlags := 25, nameIndex := 475, descriptorIndex := 404, attributes := #[] }, { accessFlags := 25, nameIndex := 476, descriptorIndex := 404, attributes := #[] }, { accessFlags := 25, nameIndex := 477, descriptorIndex := 404, attributes := #[] }, { accessFlags := 25, nameIndex := 478, descriptorIndex := 404, attributes := #[] }, { accessFlags := 25, nameIndex := 479, descriptorIndex := 404, attributes := #[] }, { accessFlags := 25, nameIndex := 480, descriptorIndex := 404, attributes := #[] }, { accessFlags := 25, nameIndex := 481, descriptorIndex := 404, attributes := #[] }, { accessFlags := 25, nameIndex := 482, descriptorIndex := 404, attributes := #[] }, { accessFlags := 25, nameIndex := 484, descriptorIndex := 404, attributes := #[] }, { accessFlags := 25, nameIndex := 485, descriptorIndex := 404, attributes := #[] }, { accessFlags := 25, nameIndex := 486, descriptorIndex := 404, attributes := #[] }, { accessFlags := 25, nameIndex := 487, descriptorIndex := 404, attributes := #[] }, { accessFlags := 25, nameIndex := 488, descriptorIndex := 404, attributes := #[] }, { accessFlags := 25, nameIndex := 489, descriptorIndex := 22, attributes := #[] }, { accessFlags := 25, nameIndex := 490, descriptorIndex := 22, attributes := #[] }, { accessFlags := 25, nameIndex := 492, descriptorIndex := 22, attributes := #[] }, { accessFlags := 25, nameIndex := 493, descriptorIndex := 22, attributes := #[] }, { accessFlags := 25, nameIndex := 495, descriptorIndex := 22, attributes := #[] }, { accessFlags := 25, nameIndex := 496, descriptorIndex := 22, attributes := #[] }, { accessFlags := 25, nameIndex := 497, descriptorIndex := 392, attributes := #[] }, { accessFlags := 25, nameIndex := 498, descriptorIndex := 392, attributes := #[] }, { accessFlags := 25, nameIndex := 499, descriptorIndex := 392, attributes := #[] }, { accessFlags := 18, nameIndex := 21, descriptorIndex := 22, attributes := #[] }, { accessFlags := 26, nameIndex := 501, descriptorIndex := 502, attributes := #[] }, { accessFlags := 25, nameIndex := 505, descriptorIndex := 392, attributes := #[] }, { accessFlags := 25, nameIndex := 506, descriptorIndex := 392, attributes := #[] }, { accessFlags := 4120, nameIndex := 284, descriptorIndex := 285, attributes := #[] }])
  fields := #[{ name := "MIN_RADIX", type := .int, accessFlags := 25, slot := 0, constantValue := 0 }, { name := "MAX_RADIX", type := .int, accessFlags := 25, slot := 1, constantValue := 0 }, { name := "MIN_VALUE", type := .char, accessFlags := 25, slot := 2, constantValue := 0 }, { name := "MAX_VALUE", type := .char, accessFlags := 25, slot := 3, constantValue := 0 }, { name := "TYPE", type := (.object "java/lang/Class"), accessFlags := 25, slot := 4, constantValue := 0 }, { name := "UNASSIGNED", type := .byte, accessFlags := 25, slot := 5, constantValue := 0 }, { name := "UPPERCASE_LETTER", type := .byte, accessFlags := 25, slot := 6, constantValue := 0 }, { name := "LOWERCASE_LETTER", type := .byte, accessFlags := 25, slot := 7, constantValue := 0 }, { name := "TITLECASE_LETTER", type := .byte, accessFlags := 25, slot := 8, constantValue := 0 }, { name := "MODIFIER_LETTER", type := .byte, accessFlags := 25, slot := 9, constantValue := 0 }, { name := "OTHER_LETTER", type := .byte, accessFlags := 25, slot := 10, constantValue := 0 }, { name := "NON_SPACING_MARK", type := .byte, accessFlags := 25, slot := 11, constantValue := 0 }, { name := "ENCLOSING_MARK", type := .byte, accessFlags := 25, slot := 12, constantValue := 0 }, { name := "COMBINING_SPACING_MARK", type := .byte, accessFlags := 25, slot := 13, constantValue := 0 }, { name := "DECIMAL_DIGIT_NUMBER", type := .byte, accessFlags := 25, slot := 14, constantValue := 0 }, { name := "LETTER_NUMBER", type := .byte, accessFlags := 25, slot := 15, constantValue := 0 }, { name := "OTHER_NUMBER", type := .byte, accessFlags := 25, slot := 16, constantValue := 0 }, { name := "SPACE_SEPARATOR", type := .byte, accessFlags := 25, slot := 17, constantValue := 0 }, { name := "LINE_SEPARATOR", type := .byte, accessFlags := 25, slot := 18, constantValue := 0 }, { name := "PARAGRAPH_SEPARATOR", type := .byte, accessFlags := 25, slot := 19, constantValue := 0 }, { name := "CONTROL", type := .byte, accessFlags := 25, slot := 20, constantValue := 0 }, { name := "FORMAT", type := .byte, accessFlags := 25, slot := 21, constantValue := 0 }, { name := "PRIVATE_USE", type := .byte, accessFlags := 25, slot := 22, constantValue := 0 }, { name := "SURROGATE", type := .byte, accessFlags := 25, slot := 23, constantValue := 0 }, { name := "DASH_PUNCTUATION", type := .byte, accessFlags := 25, slot := 24, constantValue := 0 }, { name := "START_PUNCTUATION", type := .byte, accessFlags := 25, slot := 25, constantValue := 0 }, { name := "END_PUNCTUATION", type := .byte, accessFlags := 25, slot := 26, constantValue := 0 }, { name := "CONNECTOR_PUNCTUATION", type := .byte, accessFlags := 25, slot := 27, constantValue := 0 }, { name := "OTHER_PUNCTUATION", type := .byte, accessFlags := 25, slot := 28, constantValue := 0 }, { name := "MATH_SYMBOL", type := .byte, accessFlags := 25, slot := 29, constantValue := 0 }, { name := "CURRENCY_SYMBOL", type := .byte, accessFlags := 25, slot := 30, constantValue := 0 }, { name := "MODIFIER_SYMBOL", type := .byte, accessFlags := 25, slot := 31, constantValue := 0 }, { name := "OTHER_SYMBOL", type := .byte, accessFlags := 25, slot := 32, constantValue := 0 }, { name := "INITIAL_QUOTE_PUNCTUATION", type := .byte, accessFlags := 25, slot := 33, constantValue := 0 }, { name := "FINAL_QUOTE_PUNCTUATION", type := .byte, accessFlags := 25, slot := 34, constantValue := 0 }, { name := "ERROR", type := .int, accessFlags := 24, slot := 35, constantValue := 0 }, { name := "DIRECTIONALITY_UNDEFINED", type := .byte, accessFlags := 25, slot := 36, constantValue := 0 }, { name := "DIRECTIONALITY_LEFT_TO_RIGHT", type := .byte, accessFlags := 25, slot := 37, constantValue := 0 }, { name := "DIRECTIONALITY_RIGHT_TO_LEFT", type := .byte, accessFlags := 25, slot := 38, constantValue := 0 }, { name := "DIRECTIONALITY_RIGHT_TO_LEFT_ARABIC", type := .byte, accessFlags := 25, slot := 39, constantValue := 0 }, { name := "DIRECTIONALITY_EUROPEAN_NUMBER", type := .byte, accessFlags := 25, slot := 40, constantValue := 0 }, { name := "DIRECTIONALITY_EUROPEAN_NUMBER_SEPARATOR", type := .byte, accessFlags := 25, slot := 41, constantValue := 0 }, { name := "DIRECTIONALITY_EUROPEAN_NUMBER_TERMINATOR", type := .byte, accessFlags := 25, slot := 42, constantValue := 0 }, { name := "DIRECTIONALITY_ARABIC_NUMBER", type := .byte, accessFlags := 25, slot := 43, constantValue := 0 }, { name := "DIRECTIONALITY_COMMON_NUMBER_SEPARATOR", type := .byte, accessFlags := 25, slot := 44, constantValue := 0 }, { name := "DIRECTIONALITY_NONSPACING_MARK", type := .byte, accessFlags := 25, slot := 45, constantValue := 0 }, { name := "DIRECTIONALITY_BOUNDARY_NEUTRAL", type := .byte, accessFlags := 25, slot := 46, constantValue := 0 }, { name := "DIRECTIONALITY_PARAGRAPH_SEPARATOR", type := .byte, accessFlags := 25, slot := 47, constantValue := 0 }, { name := "DIRECTIONALITY_SEGMENT_SEPARATOR", type := .byte, accessFlags := 25, slot := 48, constantValue := 0 }, { name := "DIRECTIONALITY_WHITESPACE", type := .byte, accessFlags := 25, slot := 49, constantValue := 0 }, { name := "DIRECTIONALITY_OTHER_NEUTRALS", type := .byte, accessFlags := 25, slot := 50, constantValue := 0 }, { name := "DIRECTIONALITY_LEFT_TO_RIGHT_EMBEDDING", type := .byte, accessFlags := 25, slot := 51, constantValue := 0 }, { name := "DIRECTIONALITY_LEFT_TO_RIGHT_OVERRIDE", type := .byte, accessFlags := 25, slot := 52, constantValue := 0 }, { name := "DIRECTIONALITY_RIGHT_TO_LEFT_EMBEDDING", type := .byte, accessFlags := 25, slot := 53, constantValue := 0 }, { name := "DIRECTIONALITY_RIGHT_TO_LEFT_OVERRIDE", type := .byte, accessFlags := 25, slot := 54, constantValue := 0 }, { name := "DIRECTIONALITY_POP_DIRECTIONAL_FORMAT", type := .byte, accessFlags := 25, slot := 55, constantValue := 0 }, { name := "DIRECTIONALITY_LEFT_TO_RIGHT_ISOLATE", type := .byte, accessFlags := 25, slot := 56, constantValue := 0 }, { name := "DIRECTIONALITY_RIGHT_TO_LEFT_ISOLATE", type := .byte, accessFlags := 25, slot := 57, constantValue := 0 }, { name := "DIRECTIONALITY_FIRST_STRONG_ISOLATE", type := .byte, accessFlags := 25, slot := 58, constantValue := 0 }, { name := "DIRECTIONALITY_POP_DIRECTIONAL_ISOLATE", type := .byte, accessFlags := 25, slot := 59, constantValue := 0 }, { name := "MIN_HIGH_SURROGATE", type := .char, accessFlags := 25, slot := 60, constantValue := 0 }, { name := "MAX_HIGH_SURROGATE", type := .char, accessFlags := 25, slot := 61, constantValue := 0 }, { name := "MIN_LOW_SURROGATE", type := .char, accessFlags := 25, slot := 62, constantValue := 0 }, { name := "MAX_LOW_SURROGATE", type := .char, accessFlags := 25, slot := 63, constantValue := 0 }, { name := "MIN_SURROGATE", type := .char, accessFlags := 25, slot := 64, constantValue := 0 }, { name := "MAX_SURROGATE", type := .char, accessFlags := 25, slot := 65, constantValue := 0 }, { name := "MIN_SUPPLEMENTARY_CODE_POINT", type := .int, accessFlags := 25, slot := 66, constantValue := 0 }, { name := "MIN_CODE_POINT", type := .int, accessFlags := 25, slot := 67, constantValue := 0 }, { name := "MAX_CODE_POINT", type := .int, accessFlags := 25, slot := 68, constantValue := 0 }, { name := "value", type := .char, accessFlags := 18, slot := 0, constantValue := 0 }, { name := "serialVersionUID", type := .long, accessFlags := 26, slot := 69, constantValue := 0 }, { name := "SIZE", type := .int, accessFlags := 25, slot := 70, constantValue := 0 }, { name := "BYTES", type := .int, accessFlags := 25, slot := 71, constantValue := 0 }, { name := "$assertionsDisabled", type := .boolean, accessFlags := 4120, slot := 72, constantValue := 0 }]
  methods := #[k14m0, k14m1, k14m2, k14m3]
  instanceTypes := #[.char]
  staticTypes := #[.int, .int, .char, .char, (.object "java/lang/Class"), .byte, .byte, .byte, .byte, .byte, .byte, .byte, .byte, .byte, .byte, .byte, .byte, .byte, .byte, .byte, .byte, .byte, .byte, .byte, .byte, .byte, .byte, .byte, .byte, .byte, .byte, .byte, .byte, .byte, .byte, .int, .byte, .byte, .byte, .byte, .byte, .byte, .byte, .byte, .byte, .byte, .byte, .byte, .byte, .byte, .byte, .byte, .byte, .byte, .byte, .byte, .byte, .byte, .byte, .byte, .char, .char, .char, .char, .char, .char, .int, .int, .int, .long, .int, .int, .boolean]
  resolved := Array.replicate 604 none
  statics := none }

def pool15 : Array CpInfo := pool [(4, .class_ 6), (1, u "java/lang/Object"), (0, u "<init>"), (0, u "()V"), (5, .class_ 16), (1, u "java/lang/StringLatin1"), (104, u "$assertionsDisabled"), (0, u "Z"), (98, .class_ 223), (1, u "java/lang/StringLatin1$LinesSpliterator"), (166, .class_ 391), (0, u "java/lang/StringLatin1$CharsSpliterator")] 3

def k15m0 : Method := { name := "<init>", desc := "()V", sig := { parameters := [], returnType := none }, accessFlags := 0, code := none }
/-- java/lang/StringLatin1 -/
def k15 : Class := { plain "java/lang/StringLatin1" (some 0) with
  accessFlags := 48
  interfaces := #[]
  cf := some (fileOf pool15 14 #[.nestMembers #[390, 221]] #[{ accessFlags := 0, nameIndex := 7, descriptorIndex := 8, attributes := #[] }] 48 4 #[] #[{ accessFlags := 4120, nameIndex := 121, descriptorIndex := 122, attributes := #[] }])
  fields := #[{ name := "$assertionsDisabled", type := .boolean, accessFlags := 4120, slot := 0, constantValue := 0 }]
  methods := #[k15m0]
  instanceTypes := #[]
  staticTypes := #[.boolean]
  resolved := Array.replicate 395 none
  statics := none }

def pool16 : Array CpInfo := pool [(9, u "<init>"), (6, .class_ 18), (1, u "java/lang/Object"), (0, u "()V"), (1, .class_ 23), (1, u "jdk/internal/util/ArraysSupport"), (0, u "LOG2_ARRAY_LONG_INDEX_SCALE"), (0, u "I"), (2, u "U"), (0, u "Ljdk/internal/misc/Unsafe;"), (8, u "BIG_ENDIAN"), (0, u "Z"), (8, u "LOG2_BYTE_BIT_SIZE"), (4, u "LOG2_ARRAY_INT_INDEX_SCALE"), (54, u "JLA"), (0, u "Ljdk/internal/access/JavaLangAccess;"), (11, u "LOG2_ARRAY_BOOLEAN_INDEX_SCALE"), (9, u "LOG2_ARRAY_BYTE_INDEX_SCALE"), (5, u "LOG2_ARRAY_CHAR_INDEX_SCALE"), (5, u "LOG2_ARRAY_SHORT_INDEX_SCALE"), (18, u "LOG2_ARRAY_FLOAT_INDEX_SCALE"), (24, u "LOG2_ARRAY_DOUBLE_INDEX_SCALE"), (89, u "T_BOOLEAN"), (2, u "T_CHAR"), (1, u "T_FLOAT"), (1, u "T_DOUBLE"), (1, u "T_BYTE"), (1, u "T_SHORT"), (1, u "T_INT"), (1, u "T_LONG"), (1, u "SOFT_MAX_ARRAY_LENGTH")] 83

def k16m0 : Method := { name := "<init>", desc := "()V", sig := { parameters := [], returnType := none }, accessFlags := 2, code := none }
/-- jdk/internal/util/ArraysSupport -/
def k16 : Class := { plain "jdk/internal/util/ArraysSupport" (some 0) with
  accessFlags := 33
  interfaces := #[]
  cf := some (fileOf pool16 21 #[] #[{ accessFlags := 2, nameIndex := 9, descriptorIndex := 19, attributes := #[] }] 33 16 #[] #[{ accessFlags := 24, nameIndex := 28, descriptorIndex := 29, attributes := #[] }, { accessFlags := 26, nameIndex := 38, descriptorIndex := 39, attributes := #[] }, { accessFlags := 25, nameIndex := 121, descriptorIndex := 25, attributes := #[] }, { accessFlags := 25, nameIndex := 131, descriptorIndex := 25, attributes := #[] }, { accessFlags := 25, nameIndex := 137, descriptorIndex := 25, attributes := #[] }, { accessFlags := 25, nameIndex := 143, descriptorIndex := 25, attributes := #[] }, { accessFlags := 25, nameIndex := 53, descriptorIndex := 25, attributes := #[] }, { accessFlags := 25, nameIndex := 24, descriptorIndex := 25, attributes := #[] }, { accessFlags := 25, nameIndex := 162, descriptorIndex := 25, attributes := #[] }, { accessFlags := 25, nameIndex := 187, descriptorIndex := 25, attributes := #[] }, { accessFlags := 26, nameIndex := 48, descriptorIndex := 25, attributes := #[] }, { accessFlags := 25, nameIndex := 277, descriptorIndex := 25, attributes := #[] }, { accessFlags := 25, nameIndex := 280, descriptorIndex := 25, attributes := #[] }, { accessFlags := 25, nameIndex := 282, descriptorIndex := 25, attributes := #[] }, { accessFlags := 25, nameIndex := 284, descriptorIndex := 25, attributes := #[] }, { accessFlags := 25, nameIndex := 286, descriptorIndex := 25, attributes := #[] }, { accessFlags := 25, nameIndex := 288, descriptorIndex := 25, attributes := #[] }, { accessFlags := 25, nameIndex := 290, descriptorIndex := 25, attributes := #[] }, { accessFlags := 25, nameIndex := 292, descriptorIndex := 25, attributes := #[] }, { accessFlags := 26, nameIndex := 108, descriptorIndex := 109, attributes := #[] }, { accessFlags := 25, nameIndex := 294, descriptorIndex := 25, attributes := #[] }])
  fields := #[{ name := "U", type := (.object "jdk/internal/misc/Unsafe"), accessFlags := 24, slot := 0, constantValue := 0 }, { name := "BIG_ENDIAN", type := .boolean, accessFlags := 26, slot := 1, constantValue := 0 }, { name := "LOG2_ARRAY_BOOLEAN_INDEX_SCALE", type := .int, accessFlags := 25, slot := 2, constantValue := 0 }, { name := "LOG2_ARRAY_BYTE_INDEX_SCALE", type := .int, accessFlags := 25, slot := 3, constantValue := 0 }, { name := "LOG2_ARRAY_CHAR_INDEX_SCALE", type := .int, accessFlags := 25, slot := 4, constantValue := 0 }, { name := "LOG2_ARRAY_SHORT_INDEX_SCALE", type := .int, accessFlags := 25, slot := 5, constantValue := 0 }, { name := "LOG2_ARRAY_INT_INDEX_SCALE", type := .int, accessFlags := 25, slot := 6, constantValue := 0 }, { name := "LOG2_ARRAY_LONG_INDEX_SCALE", type := .int, accessFlags := 25, slot := 7, constantValue := 0 }, { name := "LOG2_ARRAY_FLOAT_INDEX_SCALE", type := .int, accessFlags := 25, slot := 8, constantValue := 0 }, { name := "LOG2_ARRAY_DOUBLE_INDEX_SCALE", type := .int, accessFlags := 25, slot := 9, constantValue := 0 }, { name := "LOG2_BYTE_BIT_SIZE", type := .int, accessFlags := 26, slot := 10, constantValue := 0 }, { name := "T_BOOLEAN", type := .int, accessFlags := 25, slot := 11, constantValue := 0 }, { name := "T_CHAR", type := .int, accessFlags := 25, slot := 12, constantValue := 0 }, { name := "T_FLOAT", type := .int, accessFlags := 25, slot := 13, constantValue := 0 }, { name := "T_DOUBLE", type := .int, accessFlags := 25, slot := 14, constantValue := 0 }, { name := "T_BYTE", type := .int, accessFlags := 25, slot := 15, constantValue := 0 }, { name := "T_SHORT", type := .int, accessFlags := 25, slot := 16, constantValue := 0 }, { name := "T_INT", type := .int, accessFlags := 25, slot := 17, constantValue := 0 }, { name := "T_LONG", type := .int, accessFlags := 25, slot := 18, constantValue := 0 }, { name := "JLA", type := (.object "jdk/internal/access/JavaLangAccess"), accessFlags := 26, slot := 19, constantValue := 0 }, { name := "SOFT_MAX_ARRAY_LENGTH", type := .int, accessFlags := 25, slot := 20, constantValue := 0 }]
  methods := #[k16m0]
  instanceTypes := #[]
  staticTypes := #[(.object "jdk/internal/misc/Unsafe"), .boolean, .int, .int, .int, .int, .int, .int, .int, .int, .int, .int, .int, .int, .int, .int, .int, .int, .int, (.object "jdk/internal/access/JavaLangAccess"), .int]
  resolved := Array.replicate 378 none
  statics := none }

def pool17 : Array CpInfo := pool [(1, u "java/lang/Cloneable"), (0, .class_ 1), (0, u "java/lang/Object"), (0, .class_ 3)] 3

/-- java/lang/Cloneable -/
def k17 : Class := { plain "java/lang/Cloneable" (some 0) with
  accessFlags := 1537
  interfaces := #[]
  cf := some (fileOf pool17 2 #[] #[] 1537 4 #[] #[])
  fields := #[]
  methods := #[]
  instanceTypes := #[]
  staticTypes := #[]
  resolved := Array.replicate 8 none
  statics := none }

/-- the primitive byte -/
def k18 : Class := { plain "byte" none with kind := .primitive 'B', accessFlags := 0x411 }
/-- [B -/
def k19 : Class := { plain "[B" (some 0) with kind := .array 18 .byte, interfaces := #[17, 6], accessFlags := 1041 }

/-- the primitive char -/
def k20 : Class := { plain "char" none with kind := .primitive 'C', accessFlags := 0x411 }
/-- [C -/
def k21 : Class := { plain "[C" (some 0) with kind := .array 20 .char, interfaces := #[17, 6], accessFlags := 1041 }

/-- the primitive int -/
def k22 : Class := { plain "int" none with kind := .primitive 'I', accessFlags := 0x411 }
/-- [I -/
def k23 : Class := { plain "[I" (some 0) with kind := .array 22 .int, interfaces := #[17, 6], accessFlags := 1041 }

def heap : Heap := #[{ cls := 11, slots := #[.long 0, .int 1, .null, .int 0, .null, .int 0, .int 0], vm := .statics 11 },
  { cls := 12, slots := #[.int 0, .int 8, .int 0, .int 1], vm := .statics 12 },
  { cls := 13, slots := #[.null, .null, .null], vm := .statics 13 }]
def classes : Array Class := #[k0, k1, k2, k3, k4, k5, k6, k7, k8, k9, k10, k11, k12, k13, k14, k15, k16, k17, k18, k19, k20, k21, k22, k23]
def interned : List (Array UInt16 × Addr) := []
def slotsUsed : Nat := 14
def theMethod : MethodId := ⟨1, 1⟩
def args0 : Array Value := #[.int 2, .int 7, .int 4276803, .int 3]
def aboutOver (below : List Frame) : State where
  vm := { classes := classes, interned := interned.toArray }
  heap := heap
  slotsUsed := slotsUsed
  threads := #[{ frames := .invoking theMethod args0 :: below }]
def below0 : List Frame := [.native { method := ⟨0, 0⟩, args := #[] }]
def about1 : State := aboutOver below0
def p0 : Program := .bare "" "" ""
def e0 : Env := launch0.env 0 0 0
theorem w_frames : about1.frames = Frame.invoking theMethod args0 :: below0 := rfl
set_option maxRecDepth 65536 in
theorem w_args : argsFit about1.vm theMethod args0 = true := by decide +kernel
set_option maxRecDepth 65536 in
theorem w_heap : heapFits about1 = true := by decide +kernel
set_option maxRecDepth 65536 in
theorem w_runnable : about1.curStatus? = some .runnable := by decide +kernel
set_option maxRecDepth 65536 in
theorem w_alone : about1.alone = true := by decide +kernel
set_option maxRecDepth 65536 in
theorem w_named : about1.methodNamed? x = some theMethod := by decide +kernel
set_option maxRecDepth 65536 in
theorem w_hears : about1.hears theMethod below0 = true := by decide +kernel
set_option maxRecDepth 65536 in
theorem w_ripe : about1.ripe theMethod args0 below0 = true := by decide +kernel
theorem w_running : about1.status = .running := rfl
set_option maxRecDepth 65536 in
theorem w_room : about1.hasRoom e0.platform room_1 = true :=
  launch0.hasRoom_least _ room_1 (by decide +kernel) (by decide +kernel) (by decide +kernel) (by decide +kernel) (by decide +kernel) (by decide +kernel)
theorem allAtoms_all (ts : List Jvm.Cond) (a : Array Jvm.Value) (st : Jvm.State) : (allAtoms ts).before a st = ts.all (fun c => c.before a st) := by
  induction ts with
  | nil => rfl
  | cons c t ih =>
    show (Jvm.Cond.and c (allAtoms t)).before a st = _
    rw [Jvm.Cond.before_and, ih, List.all_cons]
def words1 : List Jvm.Cond := Jvm.Cond.code x code maxLocals ret :: tables_1
/-- a 'code' word, met by the world's own term for the bytes: nothing is compared byte by byte -/
theorem code_word {y : MethodName} {bytes : ByteArray} {mx : Nat} {rt : Option FieldType} {a : Array Value} {s : State} {m : MethodId} {meth : Method} {c : Code} (h1 : s.methodNamed? y = some m) (h2 : s.vm.method? m = some meth) (h3 : meth.code = some c) (h4 : c.code = bytes)
    (h5 : (c.maxLocals == mx && c.exceptionTable.isEmpty && decide (c.maxStack ≤ mostOperands) && decide (meth.sig.returnType = rt) && !meth.locks && decide (parseMethodDescriptor y.desc = some meth.sig)) = true) : (Jvm.Cond.code y bytes mx rt).before a s = true := by
  simp only [Bool.and_eq_true, beq_iff_eq, Bool.not_eq_true', decide_eq_true_eq] at h5
  obtain ⟨⟨⟨⟨⟨g1, g2⟩, g3⟩, g4⟩, g5⟩, g6⟩ := h5
  simp [Cond.before, Cond.holds, Cond.value, h1, h2, h3, h4, g1, g2, g3, g4, g5, g6]
def isCode : Jvm.Cond → Bool
  | .code _ _ _ _ => true
  | _ => false
theorem all_split {L : List Jvm.Cond} {P : Jvm.Cond → Bool} (h1 : L.all (fun c => isCode c || P c) = true) (h2 : ∀ c ∈ L.filter isCode, P c = true) : L.all P = true := by
  refine List.all_eq_true.mpr fun c hc => ?_
  have h := List.all_eq_true.mp h1 c hc
  rcases Bool.eq_false_or_eq_true (isCode c) with hi | hi
  · exact h2 c (List.mem_filter.mpr ⟨hc, hi⟩)
  · simpa [hi] using h
set_option maxRecDepth 65536 in
theorem w_c0 : (Jvm.Cond.code x code maxLocals ret).before args0 about1 = true := code_word (m := ⟨1, 1⟩) (meth := k1m1) (c := k1c1) (by decide +kernel) rfl rfl rfl (by decide +kernel)
set_option maxRecDepth 65536 in
theorem w_c1 : (Jvm.Cond.code ({ cls := "java/lang/Math", name := "min", desc := "(II)I" } : Jvm.MethodName) jdk_29_method_69_code (2 : Nat) (Option.some Jvm.ClassFile.FieldType.int)).before args0 about1 = true := code_word (m := ⟨2, 1⟩) (meth := k2m1) (c := k2c1) (by decide +kernel) rfl rfl rfl (by decide +kernel)
set_option maxRecDepth 65536 in
theorem w_c2 : (Jvm.Cond.code ({ cls := "java/lang/String", name := "<init>", desc := "([C)V" } : Jvm.MethodName) jdk_42_method_3_code (2 : Nat) (Option.none : Option Jvm.ClassFile.FieldType)).before args0 about1 = true := code_word (m := ⟨11, 1⟩) (meth := k11m1) (c := k11c1) (by decide +kernel) rfl rfl rfl (by decide +kernel)
set_option maxRecDepth 65536 in
theorem w_c3 : (Jvm.Cond.code ({ cls := "java/lang/String", name := "<init>", desc := "([CIILjava/lang/Void;)V" } : Jvm.MethodName) jdk_42_method_149_code (6 : Nat) (Option.none : Option Jvm.ClassFile.FieldType)).before args0 about1 = true := code_word (m := ⟨11, 4⟩) (meth := k11m4) (c := k11c4) (by decide +kernel) rfl rfl rfl (by decide +kernel)
set_option maxRecDepth 65536 in
theorem w_c4 : (Jvm.Cond.code ({ cls := "java/lang/Object", name := "<init>", desc := "()V" } : Jvm.MethodName) object_method_1_code (1 : Nat) (Option.none : Option Jvm.ClassFile.FieldType)).before args0 about1 = true := code_word (m := ⟨0, 0⟩) (meth := k0m0) (c := k0c0) (by decide +kernel) rfl rfl rfl (by decide +kernel)
set_option maxRecDepth 65536 in
theorem w_c5 : (Jvm.Cond.code ({ cls := "java/lang/StringUTF16", name := "compress", desc := "([CII)[B" } : Jvm.MethodName) jdk_52_method_16_code (6 : Nat) (Option.some (Jvm.ClassFile.FieldType.array Jvm.ClassFile.FieldType.byte))).before args0 about1 = true := code_word (m := ⟨12, 9⟩) (meth := k12m9) (c := k12c9) (by decide +kernel) rfl rfl rfl (by decide +kernel)
set_option maxRecDepth 65536 in
theorem w_c6 : (Jvm.Cond.code ({ cls := "java/lang/StringUTF16", name := "compress", desc := "([CI[BII)I" } : Jvm.MethodName) jdk_52_method_21_code (7 : Nat) (Option.some Jvm.ClassFile.FieldType.int)).before args0 about1 = true := code_word (m := ⟨12, 10⟩) (meth := k12m10) (c := k12c10) (by decide +kernel) rfl rfl rfl (by decide +kernel)
set_option maxRecDepth 65536 in
theorem w_c7 : (Jvm.Cond.code ({ cls := "java/lang/StringUTF16", name := "toBytes", desc := "([CII)[B" } : Jvm.MethodName) jdk_52_method_14_code (5 : Nat) (Option.some (Jvm.ClassFile.FieldType.array Jvm.ClassFile.FieldType.byte))).before args0 about1 = true := code_word (m := ⟨12, 7⟩) (meth := k12m7) (c := k12c7) (by decide +kernel) rfl rfl rfl (by decide +kernel)
set_option maxRecDepth 65536 in
theorem w_c8 : (Jvm.Cond.code ({ cls := "java/lang/StringUTF16", name := "newBytesFor", desc := "(I)[B" } : Jvm.MethodName) jdk_52_method_2_code (1 : Nat) (Option.some (Jvm.ClassFile.FieldType.array Jvm.ClassFile.FieldType.byte))).before args0 about1 = true := code_word (m := ⟨12, 1⟩) (meth := k12m1) (c := k12c1) (by decide +kernel) rfl rfl rfl (by decide +kernel)
set_option maxRecDepth 65536 in
theorem w_c9 : (Jvm.Cond.code ({ cls := "java/lang/StringUTF16", name := "newBytesLength", desc := "(I)I" } : Jvm.MethodName) jdk_52_method_3_code (1 : Nat) (Option.some Jvm.ClassFile.FieldType.int)).before args0 about1 = true := code_word (m := ⟨12, 2⟩) (meth := k12m2) (c := k12c2) (by decide +kernel) rfl rfl rfl (by decide +kernel)
set_option maxRecDepth 65536 in
theorem w_c10 : (Jvm.Cond.code ({ cls := "java/lang/StringUTF16", name := "putChar", desc := "([BII)V" } : Jvm.MethodName) jdk_52_method_4_code (3 : Nat) (Option.none : Option Jvm.ClassFile.FieldType)).before args0 about1 = true := code_word (m := ⟨12, 3⟩) (meth := k12m3) (c := k12c3) (by decide +kernel) rfl rfl rfl (by decide +kernel)
set_option maxRecDepth 65536 in
theorem w_c11 : (Jvm.Cond.code ({ cls := "java/lang/StringUTF16", name := "getChar", desc := "([BI)C" } : Jvm.MethodName) jdk_52_method_5_code (2 : Nat) (Option.some Jvm.ClassFile.FieldType.char)).before args0 about1 = true := code_word (m := ⟨12, 4⟩) (meth := k12m4) (c := k12c4) (by decide +kernel) rfl rfl rfl (by decide +kernel)
set_option maxRecDepth 65536 in
theorem w_c12 : (Jvm.Cond.code ({ cls := "java/lang/StringUTF16", name := "coderFromArrayLen", desc := "([BI)B" } : Jvm.MethodName) jdk_52_method_15_code (2 : Nat) (Option.some Jvm.ClassFile.FieldType.byte)).before args0 about1 = true := code_word (m := ⟨12, 8⟩) (meth := k12m8) (c := k12c8) (by decide +kernel) rfl rfl rfl (by decide +kernel)
set_option maxRecDepth 65536 in
theorem w_c13 : (Jvm.Cond.code ({ cls := "com/example/ceruline/ceruline/source/SourceFile", name := "<init>", desc := "(Ljava/lang/String;Ljava/lang/String;)V" } : Jvm.MethodName) prog_120_method_1_code (3 : Nat) (Option.none : Option Jvm.ClassFile.FieldType)).before args0 about1 = true := code_word (m := ⟨5, 0⟩) (meth := k5m0) (c := k5c0) (by decide +kernel) rfl rfl rfl (by decide +kernel)
set_option maxRecDepth 65536 in
theorem w_c14 : (Jvm.Cond.code ({ cls := "java/lang/Record", name := "<init>", desc := "()V" } : Jvm.MethodName) jdk_30_method_1_code (1 : Nat) (Option.none : Option Jvm.ClassFile.FieldType)).before args0 about1 = true := code_word (m := ⟨4, 0⟩) (meth := k4m0) (c := k4c0) (by decide +kernel) rfl rfl rfl (by decide +kernel)
set_option maxRecDepth 65536 in
theorem w_c15 : (Jvm.Cond.code ({ cls := "com/example/ceruline/ceruline/parsing/SourceReader", name := "<init>", desc := "(Lcom/example/ceruline/ceruline/source/SourceFile;)V" } : Jvm.MethodName) prog_66_method_1_code (2 : Nat) (Option.none : Option Jvm.ClassFile.FieldType)).before args0 about1 = true := code_word (m := ⟨3, 0⟩) (meth := k3m0) (c := k3c0) (by decide +kernel) rfl rfl rfl (by decide +kernel)
set_option maxRecDepth 65536 in
theorem w_c16 : (Jvm.Cond.code ({ cls := "com/example/ceruline/ceruline/source/SourceFile", name := "text", desc := "()Ljava/lang/String;" } : Jvm.MethodName) prog_120_method_7_code (1 : Nat) (Option.some (Jvm.ClassFile.FieldType.object "java/lang/String"))).before args0 about1 = true := code_word (m := ⟨5, 1⟩) (meth := k5m1) (c := k5c1) (by decide +kernel) rfl rfl rfl (by decide +kernel)
set_option maxRecDepth 65536 in
theorem w_c17 : (Jvm.Cond.code ({ cls := "com/example/ceruline/ceruline/parsing/SourceReader", name := "advance", desc := "()V" } : Jvm.MethodName) prog_66_method_4_code (2 : Nat) (Option.none : Option Jvm.ClassFile.FieldType)).before args0 about1 = true := code_word (m := ⟨3, 2⟩) (meth := k3m2) (c := k3c2) (by decide +kernel) rfl rfl rfl (by decide +kernel)
set_option maxRecDepth 65536 in
theorem w_c18 : (Jvm.Cond.code ({ cls := "java/lang/String", name := "codePointAt", desc := "(I)I" } : Jvm.MethodName) jdk_42_method_57_code (3 : Nat) (Option.some Jvm.ClassFile.FieldType.int)).before args0 about1 = true := code_word (m := ⟨11, 3⟩) (meth := k11m3) (c := k11c3) (by decide +kernel) rfl rfl rfl (by decide +kernel)
set_option maxRecDepth 65536 in
theorem w_c19 : (Jvm.Cond.code ({ cls := "java/lang/String", name := "isLatin1", desc := "()Z" } : Jvm.MethodName) jdk_42_method_154_code (1 : Nat) (Option.some Jvm.ClassFile.FieldType.boolean)).before args0 about1 = true := code_word (m := ⟨11, 6⟩) (meth := k11m6) (c := k11c6) (by decide +kernel) rfl rfl rfl (by decide +kernel)
set_option maxRecDepth 65536 in
theorem w_c20 : (Jvm.Cond.code ({ cls := "java/lang/String", name := "checkIndex", desc := "(II)V" } : Jvm.MethodName) jdk_42_method_155_code (2 : Nat) (Option.none : Option Jvm.ClassFile.FieldType)).before args0 about1 = true := code_word (m := ⟨11, 7⟩) (meth := k11m7) (c := k11c7) (by decide +kernel) rfl rfl rfl (by decide +kernel)
set_option maxRecDepth 65536 in
theorem w_c21 : (Jvm.Cond.code ({ cls := "jdk/internal/util/Preconditions", name := "checkIndex", desc := "(IILjava/util/function/BiFunction;)I" } : Jvm.MethodName) jdk_41_method_11_code (3 : Nat) (Option.some Jvm.ClassFile.FieldType.int)).before args0 about1 = true := code_word (m := ⟨13, 1⟩) (meth := k13m1) (c := k13c1) (by decide +kernel) rfl rfl rfl (by decide +kernel)
set_option maxRecDepth 65536 in
theorem w_c22 : (Jvm.Cond.code ({ cls := "java/lang/StringUTF16", name := "codePointAt", desc := "([BII)I" } : Jvm.MethodName) jdk_52_method_8_code (3 : Nat) (Option.some Jvm.ClassFile.FieldType.int)).before args0 about1 = true := code_word (m := ⟨12, 6⟩) (meth := k12m6) (c := k12c6) (by decide +kernel) rfl rfl rfl (by decide +kernel)
set_option maxRecDepth 65536 in
theorem w_c23 : (Jvm.Cond.code ({ cls := "java/lang/StringUTF16", name := "codePointAt", desc := "([BIIZ)I" } : Jvm.MethodName) jdk_52_method_7_code (6 : Nat) (Option.some Jvm.ClassFile.FieldType.int)).before args0 about1 = true := code_word (m := ⟨12, 5⟩) (meth := k12m5) (c := k12c5) (by decide +kernel) rfl rfl rfl (by decide +kernel)
set_option maxRecDepth 65536 in
theorem w_c24 : (Jvm.Cond.code ({ cls := "java/lang/Character", name := "isHighSurrogate", desc := "(C)Z" } : Jvm.MethodName) jdk_89_method_14_code (1 : Nat) (Option.some Jvm.ClassFile.FieldType.boolean)).before args0 about1 = true := code_word (m := ⟨14, 0⟩) (meth := k14m0) (c := k14c0) (by decide +kernel) rfl rfl rfl (by decide +kernel)
set_option maxRecDepth 65536 in
theorem w_c25 : (Jvm.Cond.code ({ cls := "java/lang/Character", name := "isLowSurrogate", desc := "(C)Z" } : Jvm.MethodName) jdk_89_method_15_code (1 : Nat) (Option.some Jvm.ClassFile.FieldType.boolean)).before args0 about1 = true := code_word (m := ⟨14, 1⟩) (meth := k14m1) (c := k14c1) (by decide +kernel) rfl rfl rfl (by decide +kernel)
set_option maxRecDepth 65536 in
theorem w_c26 : (Jvm.Cond.code ({ cls := "java/lang/Character", name := "toCodePoint", desc := "(CC)I" } : Jvm.MethodName) jdk_89_method_19_code (2 : Nat) (Option.some Jvm.ClassFile.FieldType.int)).before args0 about1 = true := code_word (m := ⟨14, 3⟩) (meth := k14m3) (c := k14c3) (by decide +kernel) rfl rfl rfl (by decide +kernel)
set_option maxRecDepth 65536 in
theorem w_c27 : (Jvm.Cond.code ({ cls := "java/lang/Character", name := "charCount", desc := "(I)I" } : Jvm.MethodName) jdk_89_method_18_code (1 : Nat) (Option.some Jvm.ClassFile.FieldType.int)).before args0 about1 = true := code_word (m := ⟨14, 2⟩) (meth := k14m2) (c := k14c2) (by decide +kernel) rfl rfl rfl (by decide +kernel)
set_option maxRecDepth 65536 in
theorem w_c28 : (Jvm.Cond.code ({ cls := "com/example/ceruline/ceruline/parsing/SourceReader", name := "atEnd", desc := "()Z" } : Jvm.MethodName) prog_66_method_2_code (1 : Nat) (Option.some Jvm.ClassFile.FieldType.boolean)).before args0 about1 = true := code_word (m := ⟨3, 1⟩) (meth := k3m1) (c := k3c1) (by decide +kernel) rfl rfl rfl (by decide +kernel)
set_option maxRecDepth 65536 in
theorem w_c29 : (Jvm.Cond.code ({ cls := "java/lang/String", name := "length", desc := "()I" } : Jvm.MethodName) jdk_42_method_54_code (1 : Nat) (Option.some Jvm.ClassFile.FieldType.int)).before args0 about1 = true := code_word (m := ⟨11, 2⟩) (meth := k11m2) (c := k11c2) (by decide +kernel) rfl rfl rfl (by decide +kernel)
set_option maxRecDepth 65536 in
theorem w_c30 : (Jvm.Cond.code ({ cls := "java/lang/String", name := "coder", desc := "()B" } : Jvm.MethodName) jdk_42_method_152_code (1 : Nat) (Option.some Jvm.ClassFile.FieldType.byte)).before args0 about1 = true := code_word (m := ⟨11, 5⟩) (meth := k11m5) (c := k11c5) (by decide +kernel) rfl rfl rfl (by decide +kernel)
def codes1 : List Jvm.Cond := [Jvm.Cond.code x code maxLocals ret, Jvm.Cond.code ({ cls := "java/lang/Math", name := "min", desc := "(II)I" } : Jvm.MethodName) jdk_29_method_69_code (2 : Nat) (Option.some Jvm.ClassFile.FieldType.int), Jvm.Cond.code ({ cls := "java/lang/String", name := "<init>", desc := "([C)V" } : Jvm.MethodName) jdk_42_method_3_code (2 : Nat) (Option.none : Option Jvm.ClassFile.FieldType), Jvm.Cond.code ({ cls := "java/lang/String", name := "<init>", desc := "([CIILjava/lang/Void;)V" } : Jvm.MethodName) jdk_42_method_149_code (6 : Nat) (Option.none : Option Jvm.ClassFile.FieldType), Jvm.Cond.code ({ cls := "java/lang/Object", name := "<init>", desc := "()V" } : Jvm.MethodName) object_method_1_code (1 : Nat) (Option.none : Option Jvm.ClassFile.FieldType), Jvm.Cond.code ({ cls := "java/lang/StringUTF16", name := "compress", desc := "([CII)[B" } : Jvm.MethodName) jdk_52_method_16_code (6 : Nat) (Option.some (Jvm.ClassFile.FieldType.array Jvm.ClassFile.FieldType.byte)), Jvm.Cond.code ({ cls := "java/lang/StringUTF16", name := "compress", desc := "([CI[BII)I" } : Jvm.MethodName) jdk_52_method_21_code (7 : Nat) (Option.some Jvm.ClassFile.FieldType.int), Jvm.Cond.code ({ cls := "java/lang/StringUTF16", name := "toBytes", desc := "([CII)[B" } : Jvm.MethodName) jdk_52_method_14_code (5 : Nat) (Option.some (Jvm.ClassFile.FieldType.array Jvm.ClassFile.FieldType.byte)), Jvm.Cond.code ({ cls := "java/lang/StringUTF16", name := "newBytesFor", desc := "(I)[B" } : Jvm.MethodName) jdk_52_method_2_code (1 : Nat) (Option.some (Jvm.ClassFile.FieldType.array Jvm.ClassFile.FieldType.byte)), Jvm.Cond.code ({ cls := "java/lang/StringUTF16", name := "newBytesLength", desc := "(I)I" } : Jvm.MethodName) jdk_52_method_3_code (1 : Nat) (Option.some Jvm.ClassFile.FieldType.int), Jvm.Cond.code ({ cls := "java/lang/StringUTF16", name := "putChar", desc := "([BII)V" } : Jvm.MethodName) jdk_52_method_4_code (3 : Nat) (Option.none : Option Jvm.ClassFile.FieldType), Jvm.Cond.code ({ cls := "java/lang/StringUTF16", name := "getChar", desc := "([BI)C" } : Jvm.MethodName) jdk_52_method_5_code (2 : Nat) (Option.some Jvm.ClassFile.FieldType.char), Jvm.Cond.code ({ cls := "java/lang/StringUTF16", name := "coderFromArrayLen", desc := "([BI)B" } : Jvm.MethodName) jdk_52_method_15_code (2 : Nat) (Option.some Jvm.ClassFile.FieldType.byte), Jvm.Cond.code ({ cls := "com/example/ceruline/ceruline/source/SourceFile", name := "<init>", desc := "(Ljava/lang/String;Ljava/lang/String;)V" } : Jvm.MethodName) prog_120_method_1_code (3 : Nat) (Option.none : Option Jvm.ClassFile.FieldType), Jvm.Cond.code ({ cls := "java/lang/Record", name := "<init>", desc := "()V" } : Jvm.MethodName) jdk_30_method_1_code (1 : Nat) (Option.none : Option Jvm.ClassFile.FieldType), Jvm.Cond.code ({ cls := "com/example/ceruline/ceruline/parsing/SourceReader", name := "<init>", desc := "(Lcom/example/ceruline/ceruline/source/SourceFile;)V" } : Jvm.MethodName) prog_66_method_1_code (2 : Nat) (Option.none : Option Jvm.ClassFile.FieldType), Jvm.Cond.code ({ cls := "com/example/ceruline/ceruline/source/SourceFile", name := "text", desc := "()Ljava/lang/String;" } : Jvm.MethodName) prog_120_method_7_code (1 : Nat) (Option.some (Jvm.ClassFile.FieldType.object "java/lang/String")), Jvm.Cond.code ({ cls := "com/example/ceruline/ceruline/parsing/SourceReader", name := "advance", desc := "()V" } : Jvm.MethodName) prog_66_method_4_code (2 : Nat) (Option.none : Option Jvm.ClassFile.FieldType), Jvm.Cond.code ({ cls := "java/lang/String", name := "codePointAt", desc := "(I)I" } : Jvm.MethodName) jdk_42_method_57_code (3 : Nat) (Option.some Jvm.ClassFile.FieldType.int), Jvm.Cond.code ({ cls := "java/lang/String", name := "isLatin1", desc := "()Z" } : Jvm.MethodName) jdk_42_method_154_code (1 : Nat) (Option.some Jvm.ClassFile.FieldType.boolean), Jvm.Cond.code ({ cls := "java/lang/String", name := "checkIndex", desc := "(II)V" } : Jvm.MethodName) jdk_42_method_155_code (2 : Nat) (Option.none : Option Jvm.ClassFile.FieldType), Jvm.Cond.code ({ cls := "jdk/internal/util/Preconditions", name := "checkIndex", desc := "(IILjava/util/function/BiFunction;)I" } : Jvm.MethodName) jdk_41_method_11_code (3 : Nat) (Option.some Jvm.ClassFile.FieldType.int), Jvm.Cond.code ({ cls := "java/lang/StringUTF16", name := "codePointAt", desc := "([BII)I" } : Jvm.MethodName) jdk_52_method_8_code (3 : Nat) (Option.some Jvm.ClassFile.FieldType.int), Jvm.Cond.code ({ cls := "java/lang/StringUTF16", name := "codePointAt", desc := "([BIIZ)I" } : Jvm.MethodName) jdk_52_method_7_code (6 : Nat) (Option.some Jvm.ClassFile.FieldType.int), Jvm.Cond.code ({ cls := "java/lang/Character", name := "isHighSurrogate", desc := "(C)Z" } : Jvm.MethodName) jdk_89_method_14_code (1 : Nat) (Option.some Jvm.ClassFile.FieldType.boolean), Jvm.Cond.code ({ cls := "java/lang/Character", name := "isLowSurrogate", desc := "(C)Z" } : Jvm.MethodName) jdk_89_method_15_code (1 : Nat) (Option.some Jvm.ClassFile.FieldType.boolean), Jvm.Cond.code ({ cls := "java/lang/Character", name := "toCodePoint", desc := "(CC)I" } : Jvm.MethodName) jdk_89_method_19_code (2 : Nat) (Option.some Jvm.ClassFile.FieldType.int), Jvm.Cond.code ({ cls := "java/lang/Character", name := "charCount", desc := "(I)I" } : Jvm.MethodName) jdk_89_method_18_code (1 : Nat) (Option.some Jvm.ClassFile.FieldType.int), Jvm.Cond.code ({ cls := "com/example/ceruline/ceruline/parsing/SourceReader", name := "atEnd", desc := "()Z" } : Jvm.MethodName) prog_66_method_2_code (1 : Nat) (Option.some Jvm.ClassFile.FieldType.boolean), Jvm.Cond.code ({ cls := "java/lang/String", name := "length", desc := "()I" } : Jvm.MethodName) jdk_42_method_54_code (1 : Nat) (Option.some Jvm.ClassFile.FieldType.int), Jvm.Cond.code ({ cls := "java/lang/String", name := "coder", desc := "()B" } : Jvm.MethodName) jdk_42_method_152_code (1 : Nat) (Option.some Jvm.ClassFile.FieldType.byte)]
set_option maxRecDepth 65536 in
theorem codes_eq : words1.filter isCode = codes1 := rfl
theorem w_codes : ∀ c ∈ words1.filter isCode, c.before args0 about1 = true := by
  rw [codes_eq]
  intro c hc
  simp only [codes1, List.mem_cons, List.not_mem_nil, or_false] at hc
  rcases hc with rfl | rfl | rfl | rfl | rfl | rfl | rfl | rfl | rfl | rfl | rfl | rfl | rfl | rfl | rfl | rfl | rfl | rfl | rfl | rfl | rfl | rfl | rfl | rfl | rfl | rfl | rfl | rfl | rfl | rfl | rfl
  · exact w_c0
  · exact w_c1
  · exact w_c2
  · exact w_c3
  · exact w_c4
  · exact w_c5
  · exact w_c6
  · exact w_c7
  · exact w_c8
  · exact w_c9
  · exact w_c10
  · exact w_c11
  · exact w_c12
  · exact w_c13
  · exact w_c14
  · exact w_c15
  · exact w_c16
  · exact w_c17
  · exact w_c18
  · exact w_c19
  · exact w_c20
  · exact w_c21
  · exact w_c22
  · exact w_c23
  · exact w_c24
  · exact w_c25
  · exact w_c26
  · exact w_c27
  · exact w_c28
  · exact w_c29
  · exact w_c30
set_option maxRecDepth 65536 in
theorem w_t1 : (words1.take 24).all (fun c => isCode c || c.before args0 about1) = true := by decide +kernel
set_option maxRecDepth 65536 in
theorem w_t2 : ((words1.drop 24).take 24).all (fun c => isCode c || c.before args0 about1) = true := by decide +kernel
set_option maxRecDepth 65536 in
theorem w_t3 : (((words1.drop 24).drop 24).take 24).all (fun c => isCode c || c.before args0 about1) = true := by decide +kernel
set_option maxRecDepth 65536 in
theorem w_t4 : ((((words1.drop 24).drop 24).drop 24).take 24).all (fun c => isCode c || c.before args0 about1) = true := by decide +kernel
set_option maxRecDepth 65536 in
theorem w_t5 : (((((words1.drop 24).drop 24).drop 24).drop 24).take 24).all (fun c => isCode c || c.before args0 about1) = true := by decide +kernel
set_option maxRecDepth 65536 in
theorem w_t6 : ((((((words1.drop 24).drop 24).drop 24).drop 24).drop 24).take 24).all (fun c => isCode c || c.before args0 about1) = true := by decide +kernel
set_option maxRecDepth 65536 in
theorem w_t7 : ((((((words1.drop 24).drop 24).drop 24).drop 24).drop 24).drop 24).all (fun c => isCode c || c.before args0 about1) = true := by decide +kernel
theorem w_tables : (allAtoms (Jvm.Cond.code x code maxLocals ret :: tables_1)).before args0 about1 = true := by
  rw [allAtoms_all]
  show words1.all (fun c => c.before args0 about1) = true
  refine all_split ?_ w_codes
  rw [← List.take_append_drop 24 words1, List.all_append, w_t1, ← List.take_append_drop 24 (words1.drop 24), List.all_append, w_t2, ← List.take_append_drop 24 ((words1.drop 24).drop 24), List.all_append, w_t3, ← List.take_append_drop 24 (((words1.drop 24).drop 24).drop 24), List.all_append, w_t4, ← List.take_append_drop 24 ((((words1.drop 24).drop 24).drop 24).drop 24), List.all_append, w_t5, ← List.take_append_drop 24 (((((words1.drop 24).drop 24).drop 24).drop 24).drop 24), List.all_append, w_t6, w_t7]
  rfl
set_option maxRecDepth 65536 in
theorem w_rest : rest_1_c.before args0 about1 = true := by decide +kernel
set_option maxRecDepth 65536 in
theorem w_case : (Jvm.Cond.and given_1 narrow_1).before args0 about1 = true := by decide +kernel
set_option maxRecDepth 65536 in
theorem w_consts : constsHeld consts_1 about1 := Jvm.Lit.constsHeldB_iff.mp (by decide +kernel)
theorem w_applies : (headSpec (Jvm.Cond.code x code maxLocals ret :: tables_1) room_1).applies x e0.platform about1 = true :=
  (Spec.applies_iff w_frames).mpr ⟨w_running, w_runnable, w_alone, w_named, w_hears, w_ripe, w_room, w_tables⟩
theorem atStart : AtStart classFile x code maxLocals ret World_1 tables_1 room_1 Calls_1 rest_1 Pre_1 launch0 p0 e0 about1 theMethod args0 below0 :=
  ⟨lists_1, trivial, launch0.admits_env _ _ _, launch0.least_env, fairChoices_fair.cas, fairChoices_fair.clock, w_frames, w_args, w_heap, w_applies, ⟨w_consts, trivial⟩, w_rest, w_case⟩
end start1
theorem witness_1 : WitnessClaimed_1 := ⟨start1.p0, start1.e0, start1.about1, start1.theMethod, start1.args0, start1.below0, start1.atStart⟩
end Jvm.Pilot.@@N@@
