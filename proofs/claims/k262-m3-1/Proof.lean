import JvmDerived
import JvmDerived.Pilot.@@N@@Statement
import JvmDerived.Pilot.@@N@@Code
set_option linter.unusedVariables false
set_option linter.unusedSimpArgs false
namespace Jvm.Pilot.@@N@@
open Jvm Jvm.ClassFile Sem Op Lib Jvm.Free Jvm.Stand Jvm.LawKit Jvm.RoadKit Bundle Jvm.Pilot.@@N@@.Jvm.D
/-- whatever is reached from v is reached from u -/
abbrev To (tb : Tables) (e : Env) (below : List Frame) (u v : State) : Prop := ∀ t, Steps tb e below v t → Steps tb e below u t
/-- a body's contract: called with as' over the heap h0 it returns, and Q holds of what it returns, of the heap and of the places written -/
abbrev Con (l : Launch) (Z : State) (y : MethodName) (bs : ByteArray) (ml : Nat) (rt : Option FieldType) (ws : List Jvm.Cond) (R : Room) (as' : Array Value) (h0 : Heap) (Q : Option Value → Heap → List Loc → Prop) : Prop :=
  MetFree l y (head1 (Jvm.Cond.code y bs ml rt :: ws) R) (fun a U => a = as' ∧ Z.Warmed39 U.vm ∧ U.heap = h0) (fun _ _ _ _ _ => True) (fun _ U o U' => ∃ v L, o = .returned v ∧ Q v U'.heap L ∧ FrameEnd U o U' L R.cells R.slots)
/-- the walk from S0 has ended well -/
def Fin (p : Program) (e : Env) (below : List Frame) (s : State) (R : Room) (S0 : State) (Q : Option Value → Heap → List Loc → Prop) : Prop :=
  ∃ s₂ o, Steps p.tables e below S0 s₂ ∧ s₂.status = .running ∧ Ended s₂ below o ∧ ∃ v L, o = .returned v ∧ Q v s₂.heap L ∧ FrameEnd s o s₂ L R.cells R.slots
def slotsOf : List Value → List Slot
  | [] => []
  | v :: r => if v.category = 2 then .val v :: .second :: slotsOf r else .val v :: slotsOf r
theorem foldl_slots (L : List Value) : ∀ acc : Array Slot, L.foldl (fun acc v => if v.category = 2 then (acc.push (Slot.val v)).push Slot.second else acc.push (Slot.val v)) acc = acc ++ (slotsOf L).toArray := by
  induction L with
  | nil => intro acc; simp [slotsOf]
  | cons v r ih =>
    intro acc
    rw [List.foldl_cons, ih]
    by_cases h : v.category = 2
    · simp [slotsOf, h]
    · simp [slotsOf, h]
theorem entry_eq {m : MethodId} {L : List Value} {ml : Nat} {Ls : List Slot} (h : slotsOf L ++ List.replicate (ml - (slotsOf L).length) Slot.unset = Ls) : entryFrame m L.toArray ml = mkF m 0 Ls.toArray [] := by
  subst h
  have e : argsToLocals L.toArray ml = (slotsOf L ++ List.replicate (ml - (slotsOf L).length) Slot.unset).toArray := by
    show (L.toArray.foldl (init := #[]) fun acc v => if v.category = 2 then (acc.push (Slot.val v)).push Slot.second else acc.push (Slot.val v)) ++ Array.replicate (ml - (L.toArray.foldl (init := #[]) fun acc v => if v.category = 2 then (acc.push (Slot.val v)).push Slot.second else acc.push (Slot.val v)).size) Slot.unset = _
    rw [List.foldl_toArray, foldl_slots]
    simp
  show ({ method := m, pc := 0, locals := argsToLocals L.toArray ml, stack := [], locked := none } : JFrame) = _
  rw [e]
section Own
variable {p : Program} {l : Launch} {e : Env} {R : Room} {s : State} {m : MethodId} {args : Array Value} {below : List Frame} {meth : Method} {c : Code} {T S0 : State} {locs : List Loc} {cells slots : Nat} {Z : State} {a0 : Array Value} {h : Heap} {Q : Option Value → Heap → List Loc → Prop}
theorem enter {y : MethodName} {bs : ByteArray} {ml : Nat} {rt : Option FieldType} {ws : List Jvm.Cond} {as' : Array Value} {h0 : Heap} {Ls : Array Slot} (hpl : plainFor y = true) (hef : ∀ m, entryFrame m as' ml = mkF m 0 Ls [])
    (body : ∀ (p : Program) (e : Env) (s : State) (m : MethodId) (below : List Frame) (meth : Method) (c : Code) (s₁ S0 : State), p.tables.exec = Jvm.exec → c.code = bs → c.maxLocals = ml → meth.sig.returnType = rt → meth.locks = false → meth.name = y.name →
      s.vm.findClass y.cls = some m.cls → Z.Warmed39 s.vm → Stand p l e R s m as' below meth c s₁ [] 0 0 → s₁.heap = h0 → To p.tables e below S0 (s₁.setTop (mkF m 0 Ls [])) → Fin p e below s R S0 Q) : Con l Z y bs ml rt ws R as' h0 Q := by
  refine MetFree.of_bodySF hpl hisR ?_
  intro p e s m args below meth c s₁ Bd hml0 hP hK
  obtain ⟨rfl, hZ, hh⟩ := hP
  exact body p e s m below meth c s₁ _ Bd.exec Bd.bytes hml0 Bd.returns Bd.notSynchronized (name_of_methodNamed Bd.named Bd.method).1 (findClass_of_methodNamed Bd.named) hZ (Stand.of_body Bd) (by rw [← hh, Bd.state]; rfl) (fun t k => castTop (hef m) k)
theorem retV (X : Stand p l e R s m args below meth c T locs cells slots) (hx : p.tables.exec = Jvm.exec) {pc : Nat} {Ls : Array Slot} {w : Value} {t : FieldType} {i : Instr} {rest : List Value} (hret : meth.sig.returnType = some t) (hlk : meth.locks = false) (hn : narrow t w = w)
    (hi : (i = .ireturn ∧ (t = .int ∨ t = .boolean ∨ t = .byte ∨ t = .char ∨ t = .short) ∧ ∃ z, w = .int z) ∨ (i = .lreturn ∧ t = .long ∧ ∃ z, w = .long z) ∨ (i = .dreturn ∧ t = .double ∧ ∃ z, w = .double z) ∨ (i = .freturn ∧ t = .float ∧ ∃ z, w = .float z) ∨ (i = .areturn ∧ t.isReference = true ∧ w.isRef = true))
    (hd : decode c.code pc = .ok (i, 1)) (k : To p.tables e below S0 (T.setTop (mkF m pc Ls (w :: rest)))) (hQ : Q (some w) T.heap locs) (hc : cells ≤ R.cells) (hs : slots ≤ R.slots) : Fin p e below s R S0 Q := by
  obtain ⟨fs, hr, hrun, hended, hW, hsame⟩ := X.leave (v := some w) (fun h => by rw [hret] at h; cases h) hlk
  exact ⟨_, _, k _ (retOut X hx hret hn hi hd hr), hrun, hended, _, _, rfl, hQ, ⟨_, rfl⟩, hW, hsame.mono hc hs⟩
theorem retInt (X : Stand p l e R s m args below meth c T locs cells slots) (hx : p.tables.exec = Jvm.exec) {pc : Nat} {Ls : Array Slot} {z : Int32} {t : FieldType} {rest : List Value} (hret : meth.sig.returnType = some t) (hlk : meth.locks = false) (ht : t = .int ∨ t = .boolean ∨ t = .byte ∨ t = .char ∨ t = .short) (hn : narrow t (.int z) = .int z)
    (hd : decode c.code pc = .ok (.ireturn, 1)) (k : To p.tables e below S0 (T.setTop (mkF m pc Ls (.int z :: rest)))) (hQ : Q (some (.int z)) T.heap locs) (hc : cells ≤ R.cells) (hs : slots ≤ R.slots) : Fin p e below s R S0 Q :=
  retV X hx hret hlk hn (Or.inl ⟨rfl, ht, z, rfl⟩) hd k hQ hc hs
theorem retRef (X : Stand p l e R s m args below meth c T locs cells slots) (hx : p.tables.exec = Jvm.exec) {pc : Nat} {Ls : Array Slot} {w : Value} {t : FieldType} {rest : List Value} (hret : meth.sig.returnType = some t) (hlk : meth.locks = false) (ht : t.isReference = true) (hw : w.isRef = true)
    (hd : decode c.code pc = .ok (.areturn, 1)) (k : To p.tables e below S0 (T.setTop (mkF m pc Ls (w :: rest)))) (hQ : Q (some w) T.heap locs) (hc : cells ≤ R.cells) (hs : slots ≤ R.slots) : Fin p e below s R S0 Q :=
  retV X hx hret hlk (by rcases ref_cases hw with rfl | ⟨z, rfl⟩ <;> cases t <;> first | rfl | (cases ht; done)) (Or.inr (Or.inr (Or.inr (Or.inr ⟨rfl, ht, hw⟩)))) hd k hQ hc hs
theorem retLong (X : Stand p l e R s m args below meth c T locs cells slots) (hx : p.tables.exec = Jvm.exec) {pc : Nat} {Ls : Array Slot} {z : Int64} {rest : List Value} (hret : meth.sig.returnType = some .long) (hlk : meth.locks = false)
    (hd : decode c.code pc = .ok (.lreturn, 1)) (k : To p.tables e below S0 (T.setTop (mkF m pc Ls (.long z :: rest)))) (hQ : Q (some (.long z)) T.heap locs) (hc : cells ≤ R.cells) (hs : slots ≤ R.slots) : Fin p e below s R S0 Q :=
  retV X hx hret hlk rfl (Or.inr (Or.inl ⟨rfl, rfl, z, rfl⟩)) hd k hQ hc hs
theorem retVoid (X : Stand p l e R s m args below meth c T locs cells slots) (hx : p.tables.exec = Jvm.exec) {pc : Nat} {Ls : Array Slot} (hret : meth.sig.returnType = none) (hlk : meth.locks = false)
    (hd : decode c.code pc = .ok (.return_, 1)) (k : To p.tables e below S0 (T.setTop (mkF m pc Ls []))) (hQ : Q none T.heap locs) (hc : cells ≤ R.cells) (hs : slots ≤ R.slots) : Fin p e below s R S0 Q := by
  obtain ⟨fs, hr, hrun, hended, hW, hsame⟩ := X.leave (v := none) (fun _ => rfl) hlk
  exact ⟨_, _, k _ (X.returnOut hx hret hd hr), hrun, hended, _, _, rfl, hQ, ⟨_, rfl⟩, hW, hsame.mono hc hs⟩
theorem backC {y : MethodName} {bs : ByteArray} {ml : Nat} {rt : Option FieldType} {rm : Room} {len W : Nat} {as' : Array Value} (hM : Con l Z y bs ml rt [] rm as' h Q) (hZ : Z.Warmed39 s.vm) (wc : (Cond.code y bs ml rt).before a0 Z = true) (wz : (Cond.initialized y.cls).before a0 Z = true) (hf : rm.frames + 1 ≤ R.frames) (hl : W + (ml + 11) + rm.locals ≤ R.locals) :
    Back l R p e below s args y len W (fun A a => a = as' ∧ A.U.heap = h ∧ A.cells + rm.cells ≤ R.cells ∧ A.slots + rm.slots ≤ R.slots) (fun A _ v B => ∃ L, Q v B.U.heap L ∧ B.locs = A.locs ++ L ∧ B.cells = A.cells + rm.cells ∧ B.slots = A.slots + rm.slots) :=
  backOf (Q := Q) hM hZ wc wz hf hl
/-! calls by a contract -/
theorem callS' (X : Stand p l e R s m args below meth c T locs cells slots) (hx : p.tables.exec = Jvm.exec) (hZ : Z.Warmed39 s.vm) {own : String} {index : Nat} {y : MethodName} {bs : ByteArray} {ml : Nat} {rt : Option FieldType} {cc ss W : Nat} {as' : Array Value} {Q : Option Value → Heap → List Loc → Prop}
    (hown : s.vm.findClass own = some m.cls) (w1 : (Cond.methodLink own index y).before a0 Z = true) (w2 : (Cond.static y).before a0 Z = true) (w3 : (Cond.initialized y.cls).before a0 Z = true) (w4 : (Cond.code y bs ml rt).before a0 Z = true) (hy : y.cls ≠ "java/lang/invoke/MethodHandle" ∧ y.cls ≠ "java/lang/invoke/VarHandle")
    (hK : Back l R p e below s args y 3 W (fun A a => a = as' ∧ A.U.heap = h ∧ A.cells + cc ≤ R.cells ∧ A.slots + ss ≤ R.slots) (fun A _ v B => ∃ L, Q v B.U.heap L ∧ B.locs = A.locs ++ L ∧ B.cells = A.cells + cc ∧ B.slots = A.slots + ss)) (eT : T.heap = h) {pc : Nat} {Ls : Array Slot} {st argsL rest : List Value} (hst : st = argsL.reverse ++ rest) (has : argsL.toArray = as') {ps : List FieldType} {r : Option FieldType} (hpd : parseMethodDescriptor y.desc = some ⟨ps, r⟩) (hlen : argsL.length = ps.length) (hsize : Ls.size = c.maxLocals)
    (hd : decode c.code pc = .ok (.invokestatic index, 3)) (hW : (rest.map fun v => v.category).sum ≤ W) (hc : cells + cc ≤ R.cells) (hs : slots + ss ≤ R.slots) (k : To p.tables e below S0 (T.setTop (mkF m pc Ls st))) :
    ∃ v T' L, Stand p l e R s m args below meth c T' (locs ++ L) (cells + cc) (slots + ss) ∧ Q v T'.heap L ∧ To p.tables e below S0 (T'.setTop (mkF m (pc + 3) Ls (v.toList ++ rest))) := by
  obtain ⟨v, vm₁, ⟨T', L', k', n'⟩, -, X', ⟨L, hQ, q1, q2, q3⟩, stp⟩ := Jvm.LawKit.callS X hx hown (mvT hZ w1) (mvT hZ w2) (mvT hZ w3) (mvT hZ w4) hy hK (g := mkF m pc Ls st) rfl hsize (argsL := argsL) (rest := rest) (lenOf hpd hlen) hst (by show 2 * 0 + _ ≤ _; omega) hd (fun _ _ => ⟨has, eT, hc, hs⟩)
  dsimp only [Pt.U, Pt.locs, Pt.cells, Pt.slots] at X' q1 q2 q3 stp hQ
  subst q1 q2 q3
  exact ⟨v, T', L, X', hQ, fun t q => k t (stp t q)⟩
theorem callC' (X : Stand p l e R s m args below meth c T locs cells slots) (hx : p.tables.exec = Jvm.exec) (hZ : Z.Warmed39 s.vm) {own : String} {index : Nat} {y : MethodName} {bs : ByteArray} {ml : Nat} {cc ss W : Nat} {as' : Array Value} {Q : Option Value → Heap → List Loc → Prop}
    (hy1 : y.name = "<init>") (hown : s.vm.findClass own = some m.cls) (w1 : (Cond.methodLink own index y).before a0 Z = true) (w2 : (Cond.instanceMethod y).before a0 Z = true) (w4 : (Cond.code y bs ml none).before a0 Z = true) (hy : y.cls ≠ "java/lang/invoke/MethodHandle" ∧ y.cls ≠ "java/lang/invoke/VarHandle")
    (hK : Back l R p e below s args y 3 W (fun A a => a = as' ∧ A.U.heap = h ∧ A.cells + cc ≤ R.cells ∧ A.slots + ss ≤ R.slots) (fun A _ v B => ∃ L, Q v B.U.heap L ∧ B.locs = A.locs ++ L ∧ B.cells = A.cells + cc ∧ B.slots = A.slots + ss)) (eT : T.heap = h) {pc : Nat} {Ls : Array Slot} {a : Addr} {st argsL rest : List Value} (hst : st = argsL.reverse ++ .ref a :: rest) (has : (.ref a :: argsL).toArray = as') {ps : List FieldType} {r : Option FieldType} (hpd : parseMethodDescriptor y.desc = some ⟨ps, r⟩) (hlen : argsL.length = ps.length) (hsize : Ls.size = c.maxLocals)
    (hd : decode c.code pc = .ok (.invokespecial index, 3)) (hW : (rest.map fun v => v.category).sum ≤ W) (hc : cells + cc ≤ R.cells) (hs : slots + ss ≤ R.slots) (k : To p.tables e below S0 (T.setTop (mkF m pc Ls st))) :
    ∃ v T' L, Stand p l e R s m args below meth c T' (locs ++ L) (cells + cc) (slots + ss) ∧ Q v T'.heap L ∧ To p.tables e below S0 (T'.setTop (mkF m (pc + 3) Ls (v.toList ++ rest))) := by
  obtain ⟨v, vm₁, ⟨T', L', k', n'⟩, -, X', ⟨L, hQ, q1, q2, q3⟩, stp⟩ := X.specialBack hx hy1 hown (mvT hZ w1) (mvT hZ w2) (mvT hZ w4) hy hK (g := mkF m pc Ls st) rfl hsize (Steps.refl _) (a := a) (argsL := argsL) (rest := rest) (lenOf hpd hlen) hst (by show 2 * 0 + _ ≤ _; omega) hd (fun _ _ => ⟨has, eT, hc, hs⟩)
  dsimp only [Pt.U, Pt.locs, Pt.cells, Pt.slots] at X' q1 q2 q3 stp hQ
  subst q1 q2 q3
  exact ⟨v, T', L, X', hQ, fun t q => k t (stp.trans q)⟩
theorem callV' (X : Stand p l e R s m args below meth c T locs cells slots) (hx : p.tables.exec = Jvm.exec) (hZ : Z.Warmed39 s.vm) {own C : String} {index : Nat} {y z : MethodName} {cc ss W : Nat} {as' : Array Value} {Q : Option Value → Heap → List Loc → Prop}
    (hown : s.vm.findClass own = some m.cls) (w1 : (Cond.methodLink own index y).before a0 Z = true) (w2 : (Cond.declares y).before a0 Z = true) (hnf : NotFace s y) (w5 : (Cond.selects C y z).before a0 Z = true) (w6 : (Cond.instanceMethod z).before a0 Z = true)
    (hy : y.cls ≠ "java/lang/invoke/MethodHandle" ∧ y.cls ≠ "java/lang/invoke/VarHandle") {b : Addr} (E : Exa Z h b C)
    (hK : Back l R p e below s args z 3 W (fun A a => a = as' ∧ A.U.heap = h ∧ A.cells + cc ≤ R.cells ∧ A.slots + ss ≤ R.slots) (fun A _ v B => ∃ L, Q v B.U.heap L ∧ B.locs = A.locs ++ L ∧ B.cells = A.cells + cc ∧ B.slots = A.slots + ss)) (eT : T.heap = h) {pc : Nat} {Ls : Array Slot} {st argsL rest : List Value} (hst : st = argsL.reverse ++ .ref b :: rest) (has : (.ref b :: argsL).toArray = as') {ps : List FieldType} {r : Option FieldType} (hpd : parseMethodDescriptor y.desc = some ⟨ps, r⟩) (hlen : argsL.length = ps.length) (hsize : Ls.size = c.maxLocals)
    (hd : decode c.code pc = .ok (.invokevirtual index, 3)) (hW : (rest.map fun v => v.category).sum ≤ W) (hc : cells + cc ≤ R.cells) (hs : slots + ss ≤ R.slots) (k : To p.tables e below S0 (T.setTop (mkF m pc Ls st))) :
    ∃ v T' L, Stand p l e R s m args below meth c T' (locs ++ L) (cells + cc) (slots + ss) ∧ Q v T'.heap L ∧ To p.tables e below S0 (T'.setTop (mkF m (pc + 3) Ls (v.toList ++ rest))) := by
  obtain ⟨cq, kq, qa, qb, qc⟩ := isOf hZ eT E
  obtain ⟨v, vm₁, ⟨T', L', k', n'⟩, -, X', ⟨L, hQ, q1, q2, q3⟩, stp⟩ := X.virtualBack hx hown (mvT hZ w1) (mvT hZ w2) hnf (mvT hZ w5) (mvT hZ w6) hy hK qa qc (g := mkF m pc Ls st) rfl hsize (Steps.refl _) (argsL := argsL) (rest := rest) (lenOf hpd hlen) hst (by show 2 * 0 + _ ≤ _; omega) hd (fun _ _ => ⟨has, eT, hc, hs⟩)
  dsimp only [Pt.U, Pt.locs, Pt.cells, Pt.slots] at X' q1 q2 q3 stp hQ
  subst q1 q2 q3
  exact ⟨v, T', L, X', hQ, fun t q => k t (stp.trans q)⟩
theorem callU' (X : Stand p l e R s m args below meth c T locs cells slots) (hx : p.tables.exec = Jvm.exec) (hZ : Z.Warmed39 s.vm) {own C owner : String} {index : Nat} {y z : MethodName} {cc ss W : Nat} {as' : Array Value} {Q : Option Value → Heap → List Loc → Prop}
    (hown : s.vm.findClass own = some m.cls) (w1 : (Cond.methodLink own index y).before a0 Z = true) (w7 : (Cond.sameMethod y.cls owner y.name y.desc).before a0 Z = true) (w2 : (Cond.declares ⟨owner, y.name, y.desc⟩).before a0 Z = true) (w5 : (Cond.selects C y z).before a0 Z = true) (w6 : (Cond.instanceMethod z).before a0 Z = true)
    (hy : owner ≠ "java/lang/invoke/MethodHandle" ∧ owner ≠ "java/lang/invoke/VarHandle") {b : Addr} (E : Exa Z h b C)
    (hK : Back l R p e below s args z 3 W (fun A a => a = as' ∧ A.U.heap = h ∧ A.cells + cc ≤ R.cells ∧ A.slots + ss ≤ R.slots) (fun A _ v B => ∃ L, Q v B.U.heap L ∧ B.locs = A.locs ++ L ∧ B.cells = A.cells + cc ∧ B.slots = A.slots + ss)) (eT : T.heap = h) {pc : Nat} {Ls : Array Slot} {st argsL rest : List Value} (hst : st = argsL.reverse ++ .ref b :: rest) (has : (.ref b :: argsL).toArray = as') {ps : List FieldType} {r : Option FieldType} (hpd : parseMethodDescriptor y.desc = some ⟨ps, r⟩) (hlen : argsL.length = ps.length) (hsize : Ls.size = c.maxLocals)
    (hd : decode c.code pc = .ok (.invokevirtual index, 3)) (hW : (rest.map fun v => v.category).sum ≤ W) (hc : cells + cc ≤ R.cells) (hs : slots + ss ≤ R.slots) (k : To p.tables e below S0 (T.setTop (mkF m pc Ls st))) :
    ∃ v T' L, Stand p l e R s m args below meth c T' (locs ++ L) (cells + cc) (slots + ss) ∧ Q v T'.heap L ∧ To p.tables e below S0 (T'.setTop (mkF m (pc + 3) Ls (v.toList ++ rest))) := by
  obtain ⟨cq, kq, qa, qb, qc⟩ := isOf hZ eT E
  obtain ⟨v, vm₁, ⟨T', L', k', n'⟩, -, X', ⟨L, hQ, q1, q2, q3⟩, stp⟩ := X.virtualBackUp hx hown (mvT hZ w1) (mvT hZ w7) (mvT hZ w2) hy (mvT hZ w5) (mvT hZ w6) hK qa qc (g := mkF m pc Ls st) rfl hsize (Steps.refl _) (argsL := argsL) (rest := rest) (lenOf hpd hlen) hst (by show 2 * 0 + _ ≤ _; omega) hd (fun _ _ => ⟨has, eT, hc, hs⟩)
  dsimp only [Pt.U, Pt.locs, Pt.cells, Pt.slots] at X' q1 q2 q3 stp hQ
  subst q1 q2 q3
  exact ⟨v, T', L, X', hQ, fun t q => k t (stp.trans q)⟩
theorem callI' (X : Stand p l e R s m args below meth c T locs cells slots) (hx : p.tables.exec = Jvm.exec) (hZ : Z.Warmed39 s.vm) {own C : String} {index count : Nat} {y z : MethodName} {cc ss W : Nat} {as' : Array Value} {Q : Option Value → Heap → List Loc → Prop}
    (hown : s.vm.findClass own = some m.cls) (w1 : (Cond.methodLink own index y).before a0 Z = true) (w2 : (Cond.declares y).before a0 Z = true) (w7 : (Cond.interfaceMethod y.cls y.cls y.name y.desc).before a0 Z = true) (hd7 : ((Cond.interfaceMethod y.cls y.cls y.name y.desc).onTables && (Cond.interfaceMethod y.cls y.cls y.name y.desc).keepsFace) = true) (w5 : (Cond.selects C y z).before a0 Z = true) (w6 : (Cond.instanceMethod z).before a0 Z = true) (w8 : (Cond.publicMethod z).before a0 Z = true) (w9 : (Cond.unhidden C y.name y.desc).before a0 Z = true) (w10 : (Cond.castable C y.cls).before a0 Z = true)
    (hy : y.cls ≠ "java/lang/invoke/MethodHandle" ∧ y.cls ≠ "java/lang/invoke/VarHandle") {b : Addr} (E : Exa Z h b C)
    (hK : Back l R p e below s args z 5 W (fun A a => a = as' ∧ A.U.heap = h ∧ A.cells + cc ≤ R.cells ∧ A.slots + ss ≤ R.slots) (fun A _ v B => ∃ L, Q v B.U.heap L ∧ B.locs = A.locs ++ L ∧ B.cells = A.cells + cc ∧ B.slots = A.slots + ss)) (eT : T.heap = h) {pc : Nat} {Ls : Array Slot} {st argsL rest : List Value} (hst : st = argsL.reverse ++ .ref b :: rest) (has : (.ref b :: argsL).toArray = as') {ps : List FieldType} {r : Option FieldType} (hpd : parseMethodDescriptor y.desc = some ⟨ps, r⟩) (hlen : argsL.length = ps.length) (hsize : Ls.size = c.maxLocals)
    (hd : decode c.code pc = .ok (.invokeinterface index count, 5)) (hW : (rest.map fun v => v.category).sum ≤ W) (hc : cells + cc ≤ R.cells) (hs : slots + ss ≤ R.slots) (k : To p.tables e below S0 (T.setTop (mkF m pc Ls st))) :
    ∃ v T' L, Stand p l e R s m args below meth c T' (locs ++ L) (cells + cc) (slots + ss) ∧ Q v T'.heap L ∧ To p.tables e below S0 (T'.setTop (mkF m (pc + 5) Ls (v.toList ++ rest))) := by
  obtain ⟨cq, kq, qa, qb, qc⟩ := isOf hZ eT E
  obtain ⟨v, vm₁, ⟨T', L', k', n'⟩, -, X', ⟨L, hQ, q1, q2, q3⟩, stp⟩ := X.interfaceBack hx hown (mvT hZ w1) (mvT hZ w2) (mvT hZ w7 hd7) (mvT hZ w5) (mvT hZ w6) (mvT hZ w8) (mvT hZ w9) (mvT hZ w10) hy hK qa qb qc (g := mkF m pc Ls st) rfl hsize (Steps.refl _) (argsL := argsL) (rest := rest) (lenOf hpd hlen) hst (by show 2 * 0 + _ ≤ _; omega) hd (fun _ _ => ⟨has, eT, hc, hs⟩)
  dsimp only [Pt.U, Pt.locs, Pt.cells, Pt.slots] at X' q1 q2 q3 stp hQ
  subst q1 q2 q3
  exact ⟨v, T', L, X', hQ, fun t q => k t (stp.trans q)⟩
theorem staOld {n0 : Nat} {C n d : String} {v : Value} (F : Sta Z Z.heap C n d v) (O : Old Z n0 h) : Sta Z h C n d v := F.ext O.2
theorem exaOld {n0 : Nat} {C : String} {a : Addr} (F : Exa Z Z.heap a C) (O : Old Z n0 h) : Exa Z h a C := F.ext O.2
theorem fldOld {n0 : Nat} {C n d : String} {a : Addr} {v : Value} (F : Fld Z Z.heap a C n d v) (O : Old Z n0 h) : Fld Z h a C n d v := F.ext O.2
theorem joinT (X : Stand p l e R s m args below meth c T locs cells slots) (eT : T.heap = h) (F : JFrame) {G : Prop} (br : (∀ T', Stand p l e R s m args below meth c T' locs cells slots → T'.heap = h → To p.tables e below S0 (T'.setTop F) → G) → G)
    (rest : ∀ T', Stand p l e R s m args below meth c T' locs cells slots → T'.heap = h → To p.tables e below S0 (T'.setTop F) → G) : G := br rest
theorem own_m255 (c : Int32) : ¬ (c &&& 255) < (0 : Int32) ∧ ¬ (255 : Int32) < (c &&& 255) := by
  have h : (c &&& 255).toBitVec.toNat ≤ 255 := by
    rw [Int32.toBitVec_and, BitVec.toNat_and]; exact Nat.and_le_right
  have h2 : (c &&& 255).toInt = ((c &&& 255).toBitVec.toNat : Int) := by
    show (c &&& 255).toBitVec.toInt = _
    rw [BitVec.toInt_eq_toNat_of_lt (by omega)]
  rw [Int32.lt_iff_toInt_lt, Int32.lt_iff_toInt_lt, h2, show (0 : Int32).toInt = 0 from rfl, show (255 : Int32).toInt = 255 by decide]
  omega
theorem own_and255_of {v : Int32} (h : ¬ v < (0 : Int32) ∧ ¬ (255 : Int32) < v) : v &&& 255 = v := by
  rw [Int32.lt_iff_toInt_lt, Int32.lt_iff_toInt_lt, show (0 : Int32).toInt = 0 from rfl, show (255 : Int32).toInt = 255 by decide] at h
  have e : v.toInt = (v.toBitVec.toNat : Int) := by
    show v.toBitVec.toInt = _
    have h1 : ¬ v.toBitVec.toInt < 0 := h.1
    rw [BitVec.toInt_eq_toNat_cond] at h1 ⊢
    split <;> rename_i q
    · rfl
    · rw [if_neg q] at h1; have := v.toBitVec.isLt; omega
  apply Int32.toBitVec_inj.mp
  apply BitVec.eq_of_toNat_eq
  rw [Int32.toBitVec_and, BitVec.toNat_and, show (255 : Int32).toBitVec.toNat = 2 ^ 8 - 1 from rfl, Nat.and_two_pow_sub_one_eq_mod]
  omega
theorem own_narc {v : Int32} (h : ¬ v < (0 : Int32) ∧ ¬ (255 : Int32) < v) : nar .char v = v := by
  have e := own_and255_of h
  rw [← e]; exact i2c_mask v
theorem own_fitc {v : Int32} (h : ¬ v < (0 : Int32) ∧ ¬ (255 : Int32) < v) : fits .char (.int v) = true := by
  have q := fits_nar_char v; rw [own_narc h] at q; exact q
theorem own_b255 {v : Int32} (h : ¬ v < (0 : Int32) ∧ ¬ (255 : Int32) < v) : (nar .byte (v.toInt8.toInt32)) &&& (255 : Int32) = v := by
  refine Eq.trans ?_ (own_and255_of h)
  have e : (v.toInt8.toInt32).toInt8 = v.toInt8 := by
    apply Int8.toBitVec_inj.mp; rw [Int32.toBitVec_toInt8, Int8.toBitVec_toInt32, BitVec.signExtend_eq_setWidth_of_le _ (by omega)]
    apply BitVec.eq_of_toNat_eq
    rw [BitVec.toNat_setWidth, BitVec.toNat_signExtend]
    have := v.toInt8.toBitVec.isLt
    simp only [BitVec.toNat_setWidth]
    split <;> omega
  show (v.toInt8.toInt32).toInt8.toInt32 &&& 255 = v &&& 255
  rw [e]
  apply Int32.toBitVec_inj.mp
  apply BitVec.eq_of_toNat_eq
  rw [Int32.toBitVec_and, Int32.toBitVec_and, BitVec.toNat_and, BitVec.toNat_and, show (255 : Int32).toBitVec.toNat = 2 ^ 8 - 1 from rfl, Nat.and_two_pow_sub_one_eq_mod, Nat.and_two_pow_sub_one_eq_mod, Int8.toBitVec_toInt32, Int32.toBitVec_toInt8, BitVec.toNat_signExtend]
  have h1 := v.toBitVec.isLt
  simp only [BitVec.toNat_setWidth, BitVec.toNat_signExtend]
  split <;> split <;> omega
theorem own_narrowc (x : Int32) : narrow .char (.int (x &&& 255)) = .int (x &&& 255) := congrArg Value.int (own_narc (own_m255 x))
theorem nin1 {x y : Addr} (h : ¬ (@Eq Nat x y)) : x ∉ [y] := ninS h nin0
theorem wq {Z : State} {a0 : Array Value} {ts : List Jvm.Cond} (hw : ∀ d ∈ ts, d.before a0 Z = true) (i : Nat) {d : Jvm.Cond} (q : ts[i]? = some d) : d.before a0 Z = true := hw _ (List.mem_of_getElem? q)
theorem adr_lt {a b : Nat} (h : @LT.lt Nat instLTNat a b) : a < b := h
theorem adr_ne {a b : Nat} (h : ¬ a = b) : a ≠ b := h
theorem own_nz {s : State} {args : Array Value} {t : Term} {z : Int32} (e : t.eval args s none [] s = some (.int z)) (h : (Jvm.Cond.not (.eq t (.int 0))).value args s none s [] = some true) : ¬ z = (0 : Int32) := fun q => by
  subst q; have h2 := not_v h; simp [Cond.value, e, Term.eval] at h2
theorem fits_isref {C : String} {w : Value} (h : w.isRef = true) : fits (.object C) w = true := by rcases ref_cases h with rfl | ⟨z, rfl⟩ <;> rfl
theorem narrow_ref {t : FieldType} {w : Value} (h : w.isRef = true) : narrow t w = w := by rcases ref_cases h with rfl | ⟨z, rfl⟩ <;> cases t <;> rfl
end Own
/-! the wide family: walks that load String constants -/
section Wide
variable {p : Program} {l : Launch} {e : Env} {R : Room} {s : State} {m : MethodId} {args : Array Value} {below : List Frame} {meth : Method} {c : Code} {T S0 : State} {locs : List Loc} {cells slots : Nat} {Z : State} {a0 : Array Value} {h h0 : Heap} {Q : Option Value → Heap → List Loc → Prop} {EL : List (String × Nat)} {vm vm0 : Vm} {sf : List Addr} {n : Nat}
abbrev ConW (l : Launch) (Z : State) (EL : List (String × Nat)) (y : MethodName) (bs : ByteArray) (ml : Nat) (rt : Option FieldType) (ws : List Jvm.Cond) (R : Room) (as' : Array Value) (h0 : Heap) (sf : List Addr) (Q : Option Value → Heap → List Loc → Prop) : Prop :=
  MetFree l y (head1 (Jvm.Cond.code y bs ml rt :: ws) R) (fun a U => a = as' ∧ Z.Warmed39 U.vm ∧ U.heap = h0 ∧ CHv Z EL U.vm h0 ∧ ∀ x ∈ sf, Safe Z EL U.vm h0 x) (fun _ _ _ _ _ => True)
    (fun _ U o U' => ∃ v L, o = .returned v ∧ Q v U'.heap L ∧ CHr Z EL U.vm U.heap U'.vm U'.heap ∧ ReturnedEndW U o U' L R.cells R.slots)
def FinW (p : Program) (e : Env) (below : List Frame) (s : State) (R : Room) (S0 : State) (Z : State) (EL : List (String × Nat)) (vm0 : Vm) (h0 : Heap) (Q : Option Value → Heap → List Loc → Prop) : Prop :=
  ∃ s₂ o, Steps p.tables e below S0 s₂ ∧ s₂.status = .running ∧ Ended s₂ below o ∧ ∃ v L, o = .returned v ∧ Q v s₂.heap L ∧ CHr Z EL vm0 h0 s₂.vm s₂.heap ∧ ReturnedEndW s o s₂ L R.cells R.slots
theorem enterW {y : MethodName} {bs : ByteArray} {ml : Nat} {rt : Option FieldType} {ws : List Jvm.Cond} {as' : Array Value} {Ls : Array Slot} (hpl : plainFor y = true) (hef : ∀ m, entryFrame m as' ml = mkF m 0 Ls [])
    (body : ∀ (p : Program) (e : Env) (s : State) (m : MethodId) (below : List Frame) (meth : Method) (c : Code) (s₁ S0 : State) (vm0 : Vm), p.tables.exec = Jvm.exec → c.code = bs → c.maxLocals = ml → meth.sig.returnType = rt → meth.locks = false → meth.name = y.name →
      vm0.findClass y.cls = some m.cls → Z.Warmed39 vm0 → Stand p l e R (s.setVm vm0) m as' below meth c s₁ [] 0 0 → s₁.heap = h0 → To p.tables e below S0 (s₁.setTop (mkF m 0 Ls [])) → CHr Z EL vm0 h0 vm0 h0 → (∀ x ∈ sf, Safe Z EL vm0 h0 x) → s.Since vm0 h0.size → FinW p e below s R S0 Z EL vm0 h0 Q) : ConW l Z EL y bs ml rt ws R as' h0 sf Q := by
  refine MetFree.of_bodySF hpl hisR ?_
  intro p e s m args below meth c s₁ Bd hml0 hP hK
  obtain ⟨rfl, hZ, hh, hC, hsf⟩ := hP
  subst hh
  exact body p e s m below meth c s₁ _ s.vm Bd.exec Bd.bytes hml0 Bd.returns Bd.notSynchronized (name_of_methodNamed Bd.named Bd.method).1 (findClass_of_methodNamed Bd.named) hZ (show Stand p l e R s m _ below meth c s₁ [] 0 0 from Stand.of_body Bd) (by rw [Bd.state]; rfl) (fun t k => castTop (hef m) k) (CHr.refl hC) hsf ((State.WarmedH.refl s).since _)
theorem endW_mono {s t : State} {o : Outcome} {L : List Loc} {k n k' n' : Nat} (h : ReturnedEndW s o t L k n) (hk : k ≤ k') (hn : n ≤ n') : ReturnedEndW s o t L k' n' := ⟨h.1, h.2.1, h.2.2.1, h.2.2.2.mono hk hn⟩
theorem retVW (X : Stand p l e R (s.setVm vm) m args below meth c T locs cells slots) (hx : p.tables.exec = Jvm.exec) (hZ : Z.Warmed39 vm) (hEL : EW Z a0 EL) (hS : s.Since vm n) (hn0 : n ≤ h.size) (C : CHr Z EL vm0 h0 vm h) (eT : T.heap = h) {pc : Nat} {Ls : Array Slot} {w : Value} {t : FieldType} {i : Instr} {rest : List Value} (hret : meth.sig.returnType = some t) (hlk : meth.locks = false) (hn : narrow t w = w)
    (hi : (i = .ireturn ∧ (t = .int ∨ t = .boolean ∨ t = .byte ∨ t = .char ∨ t = .short) ∧ ∃ z, w = .int z) ∨ (i = .lreturn ∧ t = .long ∧ ∃ z, w = .long z) ∨ (i = .dreturn ∧ t = .double ∧ ∃ z, w = .double z) ∨ (i = .freturn ∧ t = .float ∧ ∃ z, w = .float z) ∨ (i = .areturn ∧ t.isReference = true ∧ w.isRef = true))
    (hd : decode c.code pc = .ok (i, 1)) (k : To p.tables e below S0 (T.setTop (mkF m pc Ls (w :: rest)))) (hQ : Q (some w) h locs) (hc : cells ≤ R.cells) (hs : slots ≤ R.slots) : FinW p e below s R S0 Z EL vm0 h0 Q := by
  subst eT
  obtain ⟨fs, hr, hrun, hended, hend⟩ := leaveW X hS hn0 (v := some w) (fun h => by rw [hret] at h; cases h) hlk
  have A := C.trans (CHv.at X hZ hEL C.1)
  exact ⟨_, _, k _ (retOut X hx hret hn hi hd hr), hrun, hended, _, _, rfl, hQ, A, endW_mono hend hc hs⟩
theorem retIntW (X : Stand p l e R (s.setVm vm) m args below meth c T locs cells slots) (hx : p.tables.exec = Jvm.exec) (hZ : Z.Warmed39 vm) (hEL : EW Z a0 EL) (hS : s.Since vm n) (hn0 : n ≤ h.size) (C : CHr Z EL vm0 h0 vm h) (eT : T.heap = h) {pc : Nat} {Ls : Array Slot} {z : Int32} {t : FieldType} {rest : List Value} (hret : meth.sig.returnType = some t) (hlk : meth.locks = false) (ht : t = .int ∨ t = .boolean ∨ t = .byte ∨ t = .char ∨ t = .short) (hn : narrow t (.int z) = .int z)
    (hd : decode c.code pc = .ok (.ireturn, 1)) (k : To p.tables e below S0 (T.setTop (mkF m pc Ls (.int z :: rest)))) (hQ : Q (some (.int z)) h locs) (hc : cells ≤ R.cells) (hs : slots ≤ R.slots) : FinW p e below s R S0 Z EL vm0 h0 Q :=
  retVW X hx hZ hEL hS hn0 C eT hret hlk hn (Or.inl ⟨rfl, ht, z, rfl⟩) hd k hQ hc hs
theorem retRefW (X : Stand p l e R (s.setVm vm) m args below meth c T locs cells slots) (hx : p.tables.exec = Jvm.exec) (hZ : Z.Warmed39 vm) (hEL : EW Z a0 EL) (hS : s.Since vm n) (hn0 : n ≤ h.size) (C : CHr Z EL vm0 h0 vm h) (eT : T.heap = h) {pc : Nat} {Ls : Array Slot} {w : Value} {t : FieldType} {rest : List Value} (hret : meth.sig.returnType = some t) (hlk : meth.locks = false) (ht : t.isReference = true) (hw : w.isRef = true)
    (hd : decode c.code pc = .ok (.areturn, 1)) (k : To p.tables e below S0 (T.setTop (mkF m pc Ls (w :: rest)))) (hQ : Q (some w) h locs) (hc : cells ≤ R.cells) (hs : slots ≤ R.slots) : FinW p e below s R S0 Z EL vm0 h0 Q :=
  retVW X hx hZ hEL hS hn0 C eT hret hlk (narrow_ref hw) (Or.inr (Or.inr (Or.inr (Or.inr ⟨rfl, ht, hw⟩)))) hd k hQ hc hs
theorem retVoidW (X : Stand p l e R (s.setVm vm) m args below meth c T locs cells slots) (hx : p.tables.exec = Jvm.exec) (hZ : Z.Warmed39 vm) (hEL : EW Z a0 EL) (hS : s.Since vm n) (hn0 : n ≤ h.size) (C : CHr Z EL vm0 h0 vm h) (eT : T.heap = h) {pc : Nat} {Ls : Array Slot} (hret : meth.sig.returnType = none) (hlk : meth.locks = false)
    (hd : decode c.code pc = .ok (.return_, 1)) (k : To p.tables e below S0 (T.setTop (mkF m pc Ls []))) (hQ : Q none h locs) (hc : cells ≤ R.cells) (hs : slots ≤ R.slots) : FinW p e below s R S0 Z EL vm0 h0 Q := by
  subst eT
  obtain ⟨fs, hr, hrun, hended, hend⟩ := leaveW X hS hn0 (v := none) (fun _ => rfl) hlk
  have A := C.trans (CHv.at X hZ hEL C.1)
  exact ⟨_, _, k _ (X.returnOut hx hret hd hr), hrun, hended, _, _, rfl, hQ, A, endW_mono hend hc hs⟩
theorem backOfW {y : MethodName} {bs : ByteArray} {ml : Nat} {rt : Option FieldType} {rm : Room} {len W : Nat} {as' : Array Value} (hM : ConW l Z EL y bs ml rt [] rm as' h sf Q) (hZ : Z.Warmed39 vm) (wc : (Cond.code y bs ml rt).before a0 Z = true) (wz : (Cond.initialized y.cls).before a0 Z = true)
    (hf : rm.frames + 1 ≤ R.frames) (hl : W + (ml + 11) + rm.locals ≤ R.locals) (hEL : EW Z a0 EL) (H : CHv Z EL vm h) (hsf : ∀ x ∈ sf, x < h.size ∧ Safe Z EL vm h x) :
    BackS l R p e below (s.setVm vm) args y len W (fun A a => a = as' ∧ A.U.heap = h ∧ A.cells + rm.cells ≤ R.cells ∧ A.slots + rm.slots ≤ R.slots)
      (fun A _ v B => ∃ L, Q v B.U.heap L ∧ B.locs = A.locs ++ L ∧ B.cells = A.cells + rm.cells ∧ B.slots = A.slots + rm.slots ∧ CHr Z EL vm h B.U.vm B.U.heap) :=
  BackS.of_freeW (bytes := bs) (maxL := ml) (ret := rt) (E := fun _ first o t L k n => k = rm.cells ∧ n = rm.slots ∧ (∃ v, o = .returned v ∧ Q v t.heap L) ∧ CHr Z EL first.vm first.heap t.vm t.heap) hM hf hl
    (fun m meth c A a Y hp => have hU : Z.Warmed39 A.U.vm := wtrans (s := s.setVm vm) hZ Y.warmed
      ⟨by show (Cond.and _ .tt).before a A.U = true; rw [Cond.before_and, mv hU wc]; rfl, mv hU wc, mv hU wz, hp.2.2.1, hp.2.2.2⟩)
    (fun m meth c A a g mk Y hp => ⟨hp.1, wtrans (s := s.setVm vm) hZ Y.warmed, hp.2.1, (CHv.at Y hZ hEL H).1, fun x hx => (CHv.at Y hZ hEL H).safe (hsf x hx).1 (hsf x hx).2⟩) (fun _ _ _ _ _ _ _ _ _ => trivial)
    (fun _ _ _ _ ⟨v, L, h1, h2, h3, h4⟩ => ⟨L, _, _, h4, rfl, rfl, ⟨v, h1, h2⟩, h3⟩)
    (fun m meth c A a g mk v t L k n Y hp _ _ ⟨e1, e2, ⟨v', e3, e4⟩, e5⟩ => by
      cases e3; subst e1 e2
      refine ⟨L, e4, rfl, rfl, rfl, (CHv.at Y hZ hEL H).trans ?_⟩
      rw [← hp.2.1]; exact e5)
/-- what lies behind a call that may intern -/
abbrev BehW (p : Program) (l : Launch) (e : Env) (R : Room) (s : State) (m : MethodId) (args : Array Value) (below : List Frame) (meth : Method) (c : Code) (Z : State) (EL : List (String × Nat)) (vm : Vm) (h : Heap) (locs : List Loc) (cells slots cc ss : Nat) (own : String) (Q : Option Value → Heap → List Loc → Prop) (S0 : State) (pc : Nat) (Ls : Array Slot) (rest : List Value) : Prop :=
  ∃ v T' L, Stand p l e R (s.setVm T'.vm) m args below meth c T' (locs ++ L) (cells + cc) (slots + ss) ∧ Q v T'.heap L ∧ To p.tables e below S0 (T'.setTop (mkF m pc Ls (v.toList ++ rest))) ∧ CHr Z EL vm h T'.vm T'.heap ∧ s.Since T'.vm T'.heap.size ∧ Z.Warmed39 T'.vm ∧ T'.vm.findClass own = some m.cls
theorem behW {own : String} {cc ss : Nat} {pc : Nat} {Ls : Array Slot} {rest : List Value} {v : Option Value} {T' : State} {L : List Loc} (hZ : Z.Warmed39 vm) (hown : vm.findClass own = some m.cls) (hS : s.Since vm n) (hn : n ≤ h.size) (X' : Stand p l e R ((s.setVm vm).setVm T'.vm) m args below meth c T' (locs ++ L) (cells + cc) (slots + ss)) (hS' : (s.setVm vm).Since T'.vm T'.heap.size) (hg : h.size ≤ T'.heap.size)
    (hQ : Q v T'.heap L) (hC : CHr Z EL vm h T'.vm T'.heap) (k : To p.tables e below S0 (T'.setTop (mkF m pc Ls (v.toList ++ rest)))) : BehW p l e R s m args below meth c Z EL vm h locs cells slots cc ss own Q S0 pc Ls rest :=
  ⟨v, T', L, X', hQ, k, hC, hS.trans hS' (Nat.le_trans hn hg), State.Warmed39.trans (t := s.setVm vm) hZ hS'.1, by rw [hS'.1.alike.findClass]; exact hown⟩
theorem callSW (X : Stand p l e R (s.setVm vm) m args below meth c T locs cells slots) (hx : p.tables.exec = Jvm.exec) (hZ : Z.Warmed39 vm) {own : String} {index : Nat} {y : MethodName} {bs : ByteArray} {ml : Nat} {rt : Option FieldType} {cc ss W : Nat} {as' : Array Value}
    (hown : vm.findClass own = some m.cls) (hS : s.Since vm n) (hn : n ≤ h.size) (w1 : (Cond.methodLink own index y).before a0 Z = true) (w2 : (Cond.static y).before a0 Z = true) (w3 : (Cond.initialized y.cls).before a0 Z = true) (w4 : (Cond.code y bs ml rt).before a0 Z = true) (hy : y.cls ≠ "java/lang/invoke/MethodHandle" ∧ y.cls ≠ "java/lang/invoke/VarHandle")
    (hK : BackS l R p e below (s.setVm vm) args y 3 W (fun A a => a = as' ∧ A.U.heap = h ∧ A.cells + cc ≤ R.cells ∧ A.slots + ss ≤ R.slots) (fun A _ v B => ∃ L, Q v B.U.heap L ∧ B.locs = A.locs ++ L ∧ B.cells = A.cells + cc ∧ B.slots = A.slots + ss ∧ CHr Z EL vm h B.U.vm B.U.heap)) (eT : T.heap = h) {pc : Nat} {Ls : Array Slot} {st argsL rest : List Value} (hst : st = argsL.reverse ++ rest) (has : argsL.toArray = as') {ps : List FieldType} {r : Option FieldType} (hpd : parseMethodDescriptor y.desc = some ⟨ps, r⟩) (hlen : argsL.length = ps.length) (hsize : Ls.size = c.maxLocals)
    (hd : decode c.code pc = .ok (.invokestatic index, 3)) (hW : (rest.map fun v => v.category).sum ≤ W) (hc : cells + cc ≤ R.cells) (hs : slots + ss ≤ R.slots) (k : To p.tables e below S0 (T.setTop (mkF m pc Ls st))) :
    BehW p l e R s m args below meth c Z EL vm h locs cells slots cc ss own Q S0 (pc + 3) Ls rest := by
  obtain ⟨v, vm₁, ⟨T', L', k', n'⟩, -, X', hS', hg, ⟨L, hQ, q1, q2, q3, hC⟩, stp⟩ := callSS X hx hown (mvT (s := s.setVm vm) hZ w1) (mvT (s := s.setVm vm) hZ w2) (mvT (s := s.setVm vm) hZ w3) (mvT (s := s.setVm vm) hZ w4) hy hK (g := mkF m pc Ls st) rfl hsize (argsL := argsL) (rest := rest) (lenOf hpd hlen) hst (by show 2 * 0 + _ ≤ _; omega) hd (fun _ _ => ⟨has, eT, hc, hs⟩)
  dsimp only [Pt.U, Pt.locs, Pt.cells, Pt.slots] at X' q1 q2 q3 stp hQ hS' hg hC
  subst q1 q2 q3
  exact behW hZ hown hS hn X' hS' (eT ▸ hg) hQ hC fun t q => k t (stp.trans q)
theorem callCW (X : Stand p l e R (s.setVm vm) m args below meth c T locs cells slots) (hx : p.tables.exec = Jvm.exec) (hZ : Z.Warmed39 vm) {own : String} {index : Nat} {y : MethodName} {bs : ByteArray} {ml : Nat} {cc ss W : Nat} {as' : Array Value}
    (hy1 : y.name = "<init>") (hown : vm.findClass own = some m.cls) (hS : s.Since vm n) (hn : n ≤ h.size) (w1 : (Cond.methodLink own index y).before a0 Z = true) (w2 : (Cond.instanceMethod y).before a0 Z = true) (w4 : (Cond.code y bs ml none).before a0 Z = true) (hy : y.cls ≠ "java/lang/invoke/MethodHandle" ∧ y.cls ≠ "java/lang/invoke/VarHandle")
    (hK : BackS l R p e below (s.setVm vm) args y 3 W (fun A a => a = as' ∧ A.U.heap = h ∧ A.cells + cc ≤ R.cells ∧ A.slots + ss ≤ R.slots) (fun A _ v B => ∃ L, Q v B.U.heap L ∧ B.locs = A.locs ++ L ∧ B.cells = A.cells + cc ∧ B.slots = A.slots + ss ∧ CHr Z EL vm h B.U.vm B.U.heap)) (eT : T.heap = h) {pc : Nat} {Ls : Array Slot} {a : Addr} {st argsL rest : List Value} (hst : st = argsL.reverse ++ .ref a :: rest) (has : (.ref a :: argsL).toArray = as') {ps : List FieldType} {r : Option FieldType} (hpd : parseMethodDescriptor y.desc = some ⟨ps, r⟩) (hlen : argsL.length = ps.length) (hsize : Ls.size = c.maxLocals)
    (hd : decode c.code pc = .ok (.invokespecial index, 3)) (hW : (rest.map fun v => v.category).sum ≤ W) (hc : cells + cc ≤ R.cells) (hs : slots + ss ≤ R.slots) (k : To p.tables e below S0 (T.setTop (mkF m pc Ls st))) :
    BehW p l e R s m args below meth c Z EL vm h locs cells slots cc ss own Q S0 (pc + 3) Ls rest := by
  obtain ⟨v, vm₁, ⟨T', L', k', n'⟩, -, X', hS', hg, ⟨L, hQ, q1, q2, q3, hC⟩, stp⟩ := specialBackS X hx hy1 hown (mvT (s := s.setVm vm) hZ w1) (mvT (s := s.setVm vm) hZ w2) (mvT (s := s.setVm vm) hZ w4) hy hK (g := mkF m pc Ls st) rfl hsize (Steps.refl _) (a := a) (argsL := argsL) (rest := rest) (lenOf hpd hlen) hst (by show 2 * 0 + _ ≤ _; omega) hd (fun _ _ => ⟨has, eT, hc, hs⟩)
  dsimp only [Pt.U, Pt.locs, Pt.cells, Pt.slots] at X' q1 q2 q3 stp hQ hS' hg hC
  subst q1 q2 q3
  exact behW hZ hown hS hn X' hS' (eT ▸ hg) hQ hC fun t q => k t (stp.trans q)
theorem callVW (X : Stand p l e R (s.setVm vm) m args below meth c T locs cells slots) (hx : p.tables.exec = Jvm.exec) (hZ : Z.Warmed39 vm) {own C : String} {index : Nat} {y z : MethodName} {cc ss W : Nat} {as' : Array Value}
    (hown : vm.findClass own = some m.cls) (hS : s.Since vm n) (hn : n ≤ h.size) (w1 : (Cond.methodLink own index y).before a0 Z = true) (w2 : (Cond.declares y).before a0 Z = true) (hnf : NotFace (s.setVm vm) y) (w5 : (Cond.selects C y z).before a0 Z = true) (w6 : (Cond.instanceMethod z).before a0 Z = true)
    (hy : y.cls ≠ "java/lang/invoke/MethodHandle" ∧ y.cls ≠ "java/lang/invoke/VarHandle") {b : Addr} (E : Exa Z h b C)
    (hK : BackS l R p e below (s.setVm vm) args z 3 W (fun A a => a = as' ∧ A.U.heap = h ∧ A.cells + cc ≤ R.cells ∧ A.slots + ss ≤ R.slots) (fun A _ v B => ∃ L, Q v B.U.heap L ∧ B.locs = A.locs ++ L ∧ B.cells = A.cells + cc ∧ B.slots = A.slots + ss ∧ CHr Z EL vm h B.U.vm B.U.heap)) (eT : T.heap = h) {pc : Nat} {Ls : Array Slot} {st argsL rest : List Value} (hst : st = argsL.reverse ++ .ref b :: rest) (has : (.ref b :: argsL).toArray = as') {ps : List FieldType} {r : Option FieldType} (hpd : parseMethodDescriptor y.desc = some ⟨ps, r⟩) (hlen : argsL.length = ps.length) (hsize : Ls.size = c.maxLocals)
    (hd : decode c.code pc = .ok (.invokevirtual index, 3)) (hW : (rest.map fun v => v.category).sum ≤ W) (hc : cells + cc ≤ R.cells) (hs : slots + ss ≤ R.slots) (k : To p.tables e below S0 (T.setTop (mkF m pc Ls st))) :
    BehW p l e R s m args below meth c Z EL vm h locs cells slots cc ss own Q S0 (pc + 3) Ls rest := by
  obtain ⟨cq, kq, qa, qb, qc⟩ := isOf (s := s.setVm vm) hZ eT E
  obtain ⟨v, vm₁, ⟨T', L', k', n'⟩, -, X', hS', hg, ⟨L, hQ, q1, q2, q3, hC⟩, stp⟩ := virtualBackS X hx hown (mvT (s := s.setVm vm) hZ w1) (mvT (s := s.setVm vm) hZ w2) hnf (mvT (s := s.setVm vm) hZ w5) (mvT (s := s.setVm vm) hZ w6) hy hK qa qc (g := mkF m pc Ls st) rfl hsize (Steps.refl _) (argsL := argsL) (rest := rest) (lenOf hpd hlen) hst (by show 2 * 0 + _ ≤ _; omega) hd (fun _ _ => ⟨has, eT, hc, hs⟩)
  dsimp only [Pt.U, Pt.locs, Pt.cells, Pt.slots] at X' q1 q2 q3 stp hQ hS' hg hC
  subst q1 q2 q3
  exact behW hZ hown hS hn X' hS' (eT ▸ hg) hQ hC fun t q => k t (stp.trans q)
end Wide
abbrev own_EL : List (String × Nat) := consts_1
theorem own_EW {Z : State} {a0 : Array Value} (hw : ∀ d ∈ tables_1, d.before a0 Z = true) : EW Z a0 own_EL := (EW.cons (wq hw 36 rfl) (by decide) (EW.cons (wq hw 142 rfl) (by decide) EW.nil))
theorem own_wS {Z : State} {a0 : Array Value} (hw : ∀ d ∈ tables_1, d.before a0 Z = true) : ∀ a ∈ Bundle.stringAtoms, a.before a0 Z = true := fun a ha => by
  simp only [Bundle.stringAtoms, List.mem_cons, List.not_mem_nil, or_false] at ha
  rcases ha with rfl | rfl | rfl | rfl | rfl | rfl | rfl
  · exact (wq hw 3 rfl)
  · exact (wq hw 2 rfl)
  · exact (wq hw 19 rfl)
  · exact (wq hw 29 rfl)
  · exact (wq hw 27 rfl)
  · exact (wq hw 37 rfl)
  · exact (wq hw 38 rfl)
/-- System.arraycopy between two byte[] made here: the whole target is written -/
theorem copyB {p : Program} {l : Launch} {e : Env} {R : Room} {s : State} {m : MethodId} {args : Array Value} {below : List Frame} {meth : Method} {c : Code} {T Z : State} {locs : List Loc} {cells slots : Nat} {h : Heap} (X : Stand p l e R s m args below meth c T locs cells slots) (hx : p.tables.exec = Jvm.exec) (hZ : Z.Warmed39 s.vm) {a0 : Array Value} {own : String} {index : Nat} (hown : s.vm.findClass own = some m.cls)
    (w1 : (Jvm.Cond.methodLink own index arraycopyName).before a0 Z = true) (w2 : (Jvm.Cond.native arraycopyName).before a0 Z = true) (w3 : (Jvm.Cond.static arraycopyName).before a0 Z = true) (w4 : (Jvm.Cond.initialized "java/lang/System").before a0 Z = true) (eT : T.heap = h) {src dst : Addr} {k1 k2 : ClassId} {z1 z2 i : Int32} {vs us ws : List Value} {d1 d2 : Value}
    (A : Arv Z h src k1 .byte z1 vs d1) (B : Arv Z h dst k2 .byte z2 us d2) (q1 : ¬ i < 0) (q3 : i.toNatClampNeg + z2.toNatClampNeg ≤ z1.toNatClampNeg) (hws : ∀ j, j < z2.toNatClampNeg → ws.getD j d2 = vs.getD (i.toNatClampNeg + j) d1)
    {g : JFrame} (hg : g.method = m) (hsize : g.locals.size = c.maxLocals) {rest : List Value} (hstack : g.stack = .int z2 :: .int 0 :: .ref dst :: .int i :: .ref src :: rest) (hd : decode c.code g.pc = .ok (.invokestatic index, 3)) (hf : 1 ≤ R.frames) (hl : 2 * g.monitorRoom + (rest.map fun v => v.category).sum + (nativeFrameWords "java/lang/System" "arraycopy" 5 + 11) ≤ R.locals) :
    ∃ T' h' L, Stand p l e R s m args below meth c T' (locs ++ L) cells slots ∧ (∀ k : Nat, k ≤ dst → Fr k L) ∧ T'.heap = h' ∧ Keep h h' [dst] ∧ Arv Z h' dst k2 .byte z2 ws d2 ∧ ∀ target, Steps p.tables e below (T'.setTop { g with pc := g.pc + 3, stack := rest }) target → Steps p.tables e below (T.setTop g) target := by
  obtain ⟨cs, As, s1, s2, s3, s4, s5⟩ := A
  obtain ⟨cd, Ad, t1, t2, t3, t4, t5⟩ := B
  subst eT
  obtain ⟨us1, ks, us2, c1, us3⟩ := State.isArrayOf_alike hZ.alike As.2.1
  obtain ⟨ud1, kd, ud2, c2, ud3⟩ := State.isArrayOf_alike hZ.alike Ad.2.1
  have nz := toNatClampNeg_of_not_neg32 z2 t3; have ni := toNatClampNeg_of_not_neg32 i q1
  have gv : ∀ j, j < z2.toNatClampNeg → cs.slots.getD (i.toNatClampNeg + j) .null = ws.getD j d2 ∧ fits .byte (ws.getD j d2) = true := fun j hj => by
    have lt : i.toNatClampNeg + j < cs.slots.size := by omega
    have e1 := s4 _ lt; have e2 := s5 _ lt
    rw [hws j hj]
    exact ⟨by rw [Array.getD_eq_getD_getElem?, e1]; rfl, e2⟩
  obtain ⟨vm', X', st⟩ := X.arraycopy hx hown (mv hZ w1) (mv hZ w2) (mv hZ w3) (mv hZ w4) As.1 Ad.1 us1 ud1 As.2.2 Ad.2.2 us2 ud2 us3 ud3 (by decide) q1 (by decide) t3 (by omega) (by rw [show (0 : Int32).toInt = 0 from rfl]; omega)
    (fun vm' _ j hj => by obtain ⟨g1, g2⟩ := gv j hj; rw [g1]; exact ⟨g2, State.takes_of_prim _ _ rfl g2⟩) hg hsize hstack hd hf hl
  obtain ⟨f1, f2, f3, -, -⟩ := Cell.storeRun_facts cd (0 : Int32).toNatClampNeg (cs.stretch i.toNatClampNeg z2.toNatClampNeg)
  have hh : ((T.setVm vm').setCell dst (copied cs cd i 0 z2)).heap[dst]? = some (copied cs cd i 0 z2) := State.heap_setCell_self (s := T.setVm vm') Ad.1
  have ho : ∀ x : Addr, x ≠ dst → ((T.setVm vm').setCell dst (copied cs cd i 0 z2)).heap[x]? = T.heap[x]? := fun x q => State.heap_setCell_other (s := T.setVm vm') (Ne.symm q)
  refine ⟨_, _, _, X', fun k hk y hy => ?_, rfl, ⟨?_, fun x c' hc hn => ?_, fun x c' hc => ?_⟩, ⟨_, ⟨hh, ?_, ?_⟩, f1.trans t1, f3.trans t2, t3, fun j hj => ?_, fun j hj => ?_⟩, st⟩
  · obtain ⟨q, -, rfl⟩ := List.mem_map.mp hy; exact hk
  · simp [State.setCell, State.setVm]
  · rw [ho x (fun q => hn (by simp [q]))]; exact hc
  · by_cases q : x = dst
    · subst q; cases Ad.1.symm.trans hc; exact ⟨_, hh, f1, f2, f3⟩
    · exact ⟨c', (ho x q).trans hc, rfl, rfl, rfl⟩
  · exact ⟨by rw [f2]; exact Ad.2.1.1, by rw [f1]; exact Ad.2.1.2⟩
  · rw [f2]; exact Ad.2.2
  · rw [f3, t2] at hj
    have sl : (cs.stretch i.toNatClampNeg z2.toNatClampNeg).length = z2.toNatClampNeg := Cell.stretch_length _ _ _
    have z0 : (0 : Int32).toNatClampNeg = 0 := rfl
    rw [Cell.storeRun_get _ _ _ _ (by rw [sl, z0]; omega), z0, sl, if_pos (by omega)]
    simp only [Cell.stretch, Nat.sub_zero, List.getElem?_map, List.getElem?_range hj, Option.map_some, (gv j hj).1]
  · rw [f3, t2] at hj; exact (gv j hj).2
theorem own_small (c : Int32) : (c &&& 255) < (65536 : Int32) := by
  have h := (own_m255 c).2
  rw [Int32.lt_iff_toInt_lt] at h ⊢; have e1 : (65536 : Int32).toInt = 65536 := by decide
  have e2 : (255 : Int32).toInt = 255 := by decide
  omega
theorem own_and3 (k : Int32) : (k &&& (3 : Int32)) = (0 : Int32) ∨ (k &&& (3 : Int32)) = (1 : Int32) ∨ (k &&& (3 : Int32)) = (2 : Int32) ∨ (k &&& (3 : Int32)) = (3 : Int32) := by
  have h : (k &&& 3).toBitVec.toNat ≤ 3 := by
    rw [Int32.toBitVec_and, BitVec.toNat_and]; exact Nat.and_le_right
  simp only [← Int32.toBitVec_inj, ← BitVec.toNat_inj, show (0 : Int32).toBitVec.toNat = 0 from rfl, show (1 : Int32).toBitVec.toNat = 1 from rfl, show (2 : Int32).toBitVec.toNat = 2 from rfl, show (3 : Int32).toBitVec.toNat = 3 from rfl]
  omega
theorem d_jdk_52_method_21_code_0 : decode jdk_52_method_21_code 0 = .ok (.iconst 0, 1) := by decide +kernel
theorem d_jdk_52_method_21_code_1 : decode jdk_52_method_21_code 1 = .ok (.istore 5, 2) := by decide +kernel
theorem d_jdk_52_method_21_code_3 : decode jdk_52_method_21_code 3 = .ok (.iload 5, 2) := by decide +kernel
theorem d_jdk_52_method_21_code_5 : decode jdk_52_method_21_code 5 = .ok (.iload 4, 2) := by decide +kernel
theorem d_jdk_52_method_21_code_7 : decode jdk_52_method_21_code 7 = .ok (.if_icmp .ge 37, 3) := by decide +kernel
theorem d_jdk_52_method_21_code_10 : decode jdk_52_method_21_code 10 = .ok (.aload_n 0, 1) := by decide +kernel
theorem d_jdk_52_method_21_code_11 : decode jdk_52_method_21_code 11 = .ok (.iload_n 1, 1) := by decide +kernel
theorem d_jdk_52_method_21_code_12 : decode jdk_52_method_21_code 12 = .ok (.caload, 1) := by decide +kernel
theorem d_jdk_52_method_21_code_13 : decode jdk_52_method_21_code 13 = .ok (.istore 6, 2) := by decide +kernel
theorem d_jdk_52_method_21_code_15 : decode jdk_52_method_21_code 15 = .ok (.iload 6, 2) := by decide +kernel
theorem d_jdk_52_method_21_code_17 : decode jdk_52_method_21_code 17 = .ok (.sipush 255, 3) := by decide +kernel
theorem d_jdk_52_method_21_code_20 : decode jdk_52_method_21_code 20 = .ok (.if_icmp .le 6, 3) := by decide +kernel
theorem d_jdk_52_method_21_code_23 : decode jdk_52_method_21_code 23 = .ok (.iload 5, 2) := by decide +kernel
theorem d_jdk_52_method_21_code_25 : decode jdk_52_method_21_code 25 = .ok (.ireturn, 1) := by decide +kernel
theorem d_jdk_52_method_21_code_26 : decode jdk_52_method_21_code 26 = .ok (.aload_n 2, 1) := by decide +kernel
theorem d_jdk_52_method_21_code_27 : decode jdk_52_method_21_code 27 = .ok (.iload_n 3, 1) := by decide +kernel
theorem d_jdk_52_method_21_code_28 : decode jdk_52_method_21_code 28 = .ok (.iload 6, 2) := by decide +kernel
theorem d_jdk_52_method_21_code_30 : decode jdk_52_method_21_code 30 = .ok (.i2b, 1) := by decide +kernel
theorem d_jdk_52_method_21_code_31 : decode jdk_52_method_21_code 31 = .ok (.bastore, 1) := by decide +kernel
theorem d_jdk_52_method_21_code_32 : decode jdk_52_method_21_code 32 = .ok (.iinc 1 1, 3) := by decide +kernel
theorem d_jdk_52_method_21_code_35 : decode jdk_52_method_21_code 35 = .ok (.iinc 3 1, 3) := by decide +kernel
theorem d_jdk_52_method_21_code_38 : decode jdk_52_method_21_code 38 = .ok (.iinc 5 1, 3) := by decide +kernel
theorem d_jdk_52_method_21_code_41 : decode jdk_52_method_21_code 41 = .ok (.goto (-38), 3) := by decide +kernel
theorem d_jdk_52_method_21_code_44 : decode jdk_52_method_21_code 44 = .ok (.iload 4, 2) := by decide +kernel
theorem d_jdk_52_method_21_code_46 : decode jdk_52_method_21_code 46 = .ok (.ireturn, 1) := by decide +kernel
theorem pn_0 : plainName "java/lang/StringUTF16" = true := by first | (simp [plainName, overriddenIn]; done) | decide +kernel
set_option maxRecDepth 65536 in
set_option maxHeartbeats 40000000 in
theorem rm_c5_3 (l : Launch) (Z : State) (a0 : Array Value) (hw : ∀ d ∈ tables_1, d.before a0 Z = true) (b : Addr) (kb : ClassId) (t : Addr) (kt : ClassId) (d0 : Int32) (d1 : Int32) (d2 : Int32) (h0 : Heap) (n0 : Nat) (hn0 : n0 ≤ h0.size) (P0 : Arv Z h0 b kb .char (3 : Int32) [(.int d0), (.int d1), (.int d2)] (.int (0 : Int32))) (P1 : Arv Z h0 t kt .byte (3 : Int32) [(.int (0 : Int32)), (.int (0 : Int32)), (.int (0 : Int32))] (.int (0 : Int32))) (ga : n0 ≤ t) (nbt : ¬ (@Eq Nat b t)) (hd0 : ¬ d0 < (0 : Int32) ∧ ¬ (255 : Int32) < d0) (hd1 : ¬ d1 < (0 : Int32) ∧ ¬ (255 : Int32) < d1) (hd2 : ¬ d2 < (0 : Int32) ∧ ¬ (255 : Int32) < d2) :
    Con l Z (⟨"java/lang/StringUTF16", "compress", "([CI[BII)I"⟩ : MethodName) jdk_52_method_21_code 7 (some .int) [] ({ frames := 0, cells := 0, slots := 0, locals := 0 } : Room) #[(.ref b), (.int (0 : Int32)), (.ref t), (.int (0 : Int32)), (.int (3 : Int32))] h0 (fun v h L => v = some (.int (3 : Int32)) ∧ Fr n0 L ∧ Keep h0 h [t] ∧ Arv Z h t kt .byte (3 : Int32) [(.int (nar .byte (d0.toInt8.toInt32))), (.int (nar .byte (d1.toInt8.toInt32))), (.int (nar .byte (d2.toInt8.toInt32)))] (.int (0 : Int32))) := by
  refine enter (Ls := #[.val (.ref b), .val (.int (0 : Int32)), .val (.ref t), .val (.int (0 : Int32)), .val (.int (3 : Int32)), .unset, .unset]) (plainFor_of_name pn_0) (fun m => by exact entry_eq rfl) ?_
  intro p e s m below meth cd_ s₁ S0 hx hby hml hret hlk hnm hown hZ X0 e0 k0
  have N0 := Fr.nil n0
  have k1 : To p.tables e below S0 (s₁.setTop (mkF m 12 #[.val (.ref b), .val (.int (0 : Int32)), .val (.ref t), .val (.int (0 : Int32)), .val (.int (3 : Int32)), .val (.int (0 : Int32)), .unset] [(.int (0 : Int32)), (.ref b)])) := fun tt hq => k0 tt (by
    refine XS.iconst X0.here hx rfl (hb hby d_jdk_52_method_21_code_0) ?_
    refine XS.istore X0.here hx rfl (hb hby d_jdk_52_method_21_code_1) rfl (l' := #[.val (.ref b), .val (.int (0 : Int32)), .val (.ref t), .val (.int (0 : Int32)), .val (.int (3 : Int32)), .val (.int (0 : Int32)), .unset]) rfl ?_
    refine XS.iload X0.here hx rfl (hb hby d_jdk_52_method_21_code_3) rfl ?_
    refine XS.iload X0.here hx rfl (hb hby d_jdk_52_method_21_code_5) rfl ?_
    refine XS.icmpNo X0.here hx rfl (hb hby d_jdk_52_method_21_code_7) rfl (tlt (by decide)).2.1 ?_
    refine XS.aloadN X0.here hx rfl (hb hby d_jdk_52_method_21_code_10) rfl rfl ?_
    refine XS.iloadN X0.here hx rfl (hb hby d_jdk_52_method_21_code_11) rfl ?_
    exact hq)
  obtain ⟨cl2, Ar2, -, S2, -, G2, -⟩ := id P0
  have hi2 := inb_of (j := (0 : Int32)) S2 ⟨by decide, by decide⟩
  have st2 := fun tt => X0.caload hx (j := (0 : Int32)) (v := (.int d0)) (by rw [e0]; exact Ar2.1) (State.isArrayOf_alike hZ.alike Ar2.2.1) Ar2.2.2 hi2 (G2.at hi2 rfl) (g := (mkF m 12 #[.val (.ref b), .val (.int (0 : Int32)), .val (.ref t), .val (.int (0 : Int32)), .val (.int (3 : Int32)), .val (.int (0 : Int32)), .unset] [(.int (0 : Int32)), (.ref b)])) rfl rfl (hb hby d_jdk_52_method_21_code_12) tt
  have k2 : To p.tables e below S0 (s₁.setTop (mkF m 13 #[.val (.ref b), .val (.int (0 : Int32)), .val (.ref t), .val (.int (0 : Int32)), .val (.int (3 : Int32)), .val (.int (0 : Int32)), .unset] [(.int d0)])) := fun tt hq => k1 tt (st2 tt hq)
  have k3 : To p.tables e below S0 (s₁.setTop (mkF m 31 #[.val (.ref b), .val (.int (0 : Int32)), .val (.ref t), .val (.int (0 : Int32)), .val (.int (3 : Int32)), .val (.int (0 : Int32)), .val (.int d0)] [(.int (d0.toInt8.toInt32)), (.int (0 : Int32)), (.ref t)])) := fun tt hq => k2 tt (by
    refine XS.istore X0.here hx rfl (hb hby d_jdk_52_method_21_code_13) rfl (l' := #[.val (.ref b), .val (.int (0 : Int32)), .val (.ref t), .val (.int (0 : Int32)), .val (.int (3 : Int32)), .val (.int (0 : Int32)), .val (.int d0)]) rfl ?_
    refine XS.iload X0.here hx rfl (hb hby d_jdk_52_method_21_code_15) rfl ?_
    refine XS.sipush X0.here hx rfl (hb hby d_jdk_52_method_21_code_17) ?_
    refine XS.icmpYes X0.here hx rfl (pc0 := 20) (pc' := 26) rfl (hb hby d_jdk_52_method_21_code_20) rfl (flt hd0.2).2.2.2 (by decide) (by decide) ?_
    refine XS.aloadN X0.here hx rfl (hb hby d_jdk_52_method_21_code_26) rfl rfl ?_
    refine XS.iloadN X0.here hx rfl (hb hby d_jdk_52_method_21_code_27) rfl ?_
    refine XS.iload X0.here hx rfl (hb hby d_jdk_52_method_21_code_28) rfl ?_
    refine XS.i2b X0.here hx rfl (hb hby d_jdk_52_method_21_code_30) rfl ?_
    exact hq)
  obtain ⟨cl4, Ar4, q4, S4, M4, G4, J4⟩ := id P1
  obtain ⟨T4, h4, X4, e4, W4, st4⟩ := stB X0 hx hZ e0 Ar4 (j := (0 : Int32)) (inb_of S4 ⟨by decide, by decide⟩) (g := (mkF m 31 #[.val (.ref b), .val (.int (0 : Int32)), .val (.ref t), .val (.int (0 : Int32)), .val (.int (3 : Int32)), .val (.int (0 : Int32)), .val (.int d0)] [(.int (d0.toInt8.toInt32)), (.int (0 : Int32)), (.ref t)])) rfl rfl (hb hby d_jdk_52_method_21_code_31)
  have k4 : To p.tables e below S0 (T4.setTop (mkF m 32 #[.val (.ref b), .val (.int (0 : Int32)), .val (.ref t), .val (.int (0 : Int32)), .val (.int (3 : Int32)), .val (.int (0 : Int32)), .val (.int d0)] [])) := fun tt hq => k3 tt (st4 tt hq)
  have z4 : h4.size = h0.size := W4.size
  have V4 : Arv Z h4 t kt .byte (3 : Int32) [(.int (nar .byte (d0.toInt8.toInt32))), (.int (0 : Int32)), (.int (0 : Int32))] (.int (0 : Int32)) := Arv.set Ar4 q4 S4 M4 G4 J4 (fits_nar_byte _) W4 0 rfl (Nat.le_of_ble_eq_true rfl)
  have N4 := Fr.snoc X4 N0 (by omega : n0 ≤ t)
  have f5 : Arv Z h4 b kb .char (3 : Int32) [(.int d0), (.int d1), (.int d2)] (.int (0 : Int32)) := (P0.other W4 (adr_ne (by omega)))
  have k6 : To p.tables e below S0 (T4.setTop (mkF m 12 #[.val (.ref b), .val (.int (1 : Int32)), .val (.ref t), .val (.int (1 : Int32)), .val (.int (3 : Int32)), .val (.int (1 : Int32)), .val (.int d0)] [(.int (1 : Int32)), (.ref b)])) := fun tt hq => k4 tt (by
    refine XS.iinc X4.here hx rfl (hb hby d_jdk_52_method_21_code_32) rfl (l' := #[.val (.ref b), .val (.int (1 : Int32)), .val (.ref t), .val (.int (0 : Int32)), .val (.int (3 : Int32)), .val (.int (0 : Int32)), .val (.int d0)]) rfl ?_
    refine XS.iinc X4.here hx rfl (hb hby d_jdk_52_method_21_code_35) rfl (l' := #[.val (.ref b), .val (.int (1 : Int32)), .val (.ref t), .val (.int (1 : Int32)), .val (.int (3 : Int32)), .val (.int (0 : Int32)), .val (.int d0)]) rfl ?_
    refine XS.iinc X4.here hx rfl (hb hby d_jdk_52_method_21_code_38) rfl (l' := #[.val (.ref b), .val (.int (1 : Int32)), .val (.ref t), .val (.int (1 : Int32)), .val (.int (3 : Int32)), .val (.int (1 : Int32)), .val (.int d0)]) rfl ?_
    refine XS.goto X4.here hx rfl (pc0 := 41) (pc' := 3) rfl (hb hby d_jdk_52_method_21_code_41) (by decide) (by decide) ?_
    refine XS.iload X4.here hx rfl (hb hby d_jdk_52_method_21_code_3) rfl ?_
    refine XS.iload X4.here hx rfl (hb hby d_jdk_52_method_21_code_5) rfl ?_
    refine XS.icmpNo X4.here hx rfl (hb hby d_jdk_52_method_21_code_7) rfl (tlt (by decide)).2.1 ?_
    refine XS.aloadN X4.here hx rfl (hb hby d_jdk_52_method_21_code_10) rfl rfl ?_
    refine XS.iloadN X4.here hx rfl (hb hby d_jdk_52_method_21_code_11) rfl ?_
    exact hq)
  obtain ⟨cl7, Ar7, -, S7, -, G7, -⟩ := id f5
  have hi7 := inb_of (j := (1 : Int32)) S7 ⟨by decide, by decide⟩
  have st7 := fun tt => X4.caload hx (j := (1 : Int32)) (v := (.int d1)) (by rw [e4]; exact Ar7.1) (State.isArrayOf_alike hZ.alike Ar7.2.1) Ar7.2.2 hi7 (G7.at hi7 rfl) (g := (mkF m 12 #[.val (.ref b), .val (.int (1 : Int32)), .val (.ref t), .val (.int (1 : Int32)), .val (.int (3 : Int32)), .val (.int (1 : Int32)), .val (.int d0)] [(.int (1 : Int32)), (.ref b)])) rfl rfl (hb hby d_jdk_52_method_21_code_12) tt
  have k7 : To p.tables e below S0 (T4.setTop (mkF m 13 #[.val (.ref b), .val (.int (1 : Int32)), .val (.ref t), .val (.int (1 : Int32)), .val (.int (3 : Int32)), .val (.int (1 : Int32)), .val (.int d0)] [(.int d1)])) := fun tt hq => k6 tt (st7 tt hq)
  have k8 : To p.tables e below S0 (T4.setTop (mkF m 31 #[.val (.ref b), .val (.int (1 : Int32)), .val (.ref t), .val (.int (1 : Int32)), .val (.int (3 : Int32)), .val (.int (1 : Int32)), .val (.int d1)] [(.int (d1.toInt8.toInt32)), (.int (1 : Int32)), (.ref t)])) := fun tt hq => k7 tt (by
    refine XS.istore X4.here hx rfl (hb hby d_jdk_52_method_21_code_13) rfl (l' := #[.val (.ref b), .val (.int (1 : Int32)), .val (.ref t), .val (.int (1 : Int32)), .val (.int (3 : Int32)), .val (.int (1 : Int32)), .val (.int d1)]) rfl ?_
    refine XS.iload X4.here hx rfl (hb hby d_jdk_52_method_21_code_15) rfl ?_
    refine XS.sipush X4.here hx rfl (hb hby d_jdk_52_method_21_code_17) ?_
    refine XS.icmpYes X4.here hx rfl (pc0 := 20) (pc' := 26) rfl (hb hby d_jdk_52_method_21_code_20) rfl (flt hd1.2).2.2.2 (by decide) (by decide) ?_
    refine XS.aloadN X4.here hx rfl (hb hby d_jdk_52_method_21_code_26) rfl rfl ?_
    refine XS.iloadN X4.here hx rfl (hb hby d_jdk_52_method_21_code_27) rfl ?_
    refine XS.iload X4.here hx rfl (hb hby d_jdk_52_method_21_code_28) rfl ?_
    refine XS.i2b X4.here hx rfl (hb hby d_jdk_52_method_21_code_30) rfl ?_
    exact hq)
  obtain ⟨cl9, Ar9, q9, S9, M9, G9, J9⟩ := id V4
  obtain ⟨T9, h9, X9, e9, W9, st9⟩ := stB X4 hx hZ e4 Ar9 (j := (1 : Int32)) (inb_of S9 ⟨by decide, by decide⟩) (g := (mkF m 31 #[.val (.ref b), .val (.int (1 : Int32)), .val (.ref t), .val (.int (1 : Int32)), .val (.int (3 : Int32)), .val (.int (1 : Int32)), .val (.int d1)] [(.int (d1.toInt8.toInt32)), (.int (1 : Int32)), (.ref t)])) rfl rfl (hb hby d_jdk_52_method_21_code_31)
  have k9 : To p.tables e below S0 (T9.setTop (mkF m 32 #[.val (.ref b), .val (.int (1 : Int32)), .val (.ref t), .val (.int (1 : Int32)), .val (.int (3 : Int32)), .val (.int (1 : Int32)), .val (.int d1)] [])) := fun tt hq => k8 tt (st9 tt hq)
  have z9 : h9.size = h4.size := W9.size
  have V9 : Arv Z h9 t kt .byte (3 : Int32) [(.int (nar .byte (d0.toInt8.toInt32))), (.int (nar .byte (d1.toInt8.toInt32))), (.int (0 : Int32))] (.int (0 : Int32)) := Arv.set Ar9 q9 S9 M9 G9 J9 (fits_nar_byte _) W9 1 rfl (Nat.le_of_ble_eq_true rfl)
  have N9 := Fr.snoc X9 N4 (by omega : n0 ≤ t)
  have f10 : Arv Z h9 b kb .char (3 : Int32) [(.int d0), (.int d1), (.int d2)] (.int (0 : Int32)) := (f5.other W9 (adr_ne (by omega)))
  have k11 : To p.tables e below S0 (T9.setTop (mkF m 12 #[.val (.ref b), .val (.int (2 : Int32)), .val (.ref t), .val (.int (2 : Int32)), .val (.int (3 : Int32)), .val (.int (2 : Int32)), .val (.int d1)] [(.int (2 : Int32)), (.ref b)])) := fun tt hq => k9 tt (by
    refine XS.iinc X9.here hx rfl (hb hby d_jdk_52_method_21_code_32) rfl (l' := #[.val (.ref b), .val (.int (2 : Int32)), .val (.ref t), .val (.int (1 : Int32)), .val (.int (3 : Int32)), .val (.int (1 : Int32)), .val (.int d1)]) rfl ?_
    refine XS.iinc X9.here hx rfl (hb hby d_jdk_52_method_21_code_35) rfl (l' := #[.val (.ref b), .val (.int (2 : Int32)), .val (.ref t), .val (.int (2 : Int32)), .val (.int (3 : Int32)), .val (.int (1 : Int32)), .val (.int d1)]) rfl ?_
    refine XS.iinc X9.here hx rfl (hb hby d_jdk_52_method_21_code_38) rfl (l' := #[.val (.ref b), .val (.int (2 : Int32)), .val (.ref t), .val (.int (2 : Int32)), .val (.int (3 : Int32)), .val (.int (2 : Int32)), .val (.int d1)]) rfl ?_
    refine XS.goto X9.here hx rfl (pc0 := 41) (pc' := 3) rfl (hb hby d_jdk_52_method_21_code_41) (by decide) (by decide) ?_
    refine XS.iload X9.here hx rfl (hb hby d_jdk_52_method_21_code_3) rfl ?_
    refine XS.iload X9.here hx rfl (hb hby d_jdk_52_method_21_code_5) rfl ?_
    refine XS.icmpNo X9.here hx rfl (hb hby d_jdk_52_method_21_code_7) rfl (tlt (by decide)).2.1 ?_
    refine XS.aloadN X9.here hx rfl (hb hby d_jdk_52_method_21_code_10) rfl rfl ?_
    refine XS.iloadN X9.here hx rfl (hb hby d_jdk_52_method_21_code_11) rfl ?_
    exact hq)
  obtain ⟨cl12, Ar12, -, S12, -, G12, -⟩ := id f10
  have hi12 := inb_of (j := (2 : Int32)) S12 ⟨by decide, by decide⟩
  have st12 := fun tt => X9.caload hx (j := (2 : Int32)) (v := (.int d2)) (by rw [e9]; exact Ar12.1) (State.isArrayOf_alike hZ.alike Ar12.2.1) Ar12.2.2 hi12 (G12.at hi12 rfl) (g := (mkF m 12 #[.val (.ref b), .val (.int (2 : Int32)), .val (.ref t), .val (.int (2 : Int32)), .val (.int (3 : Int32)), .val (.int (2 : Int32)), .val (.int d1)] [(.int (2 : Int32)), (.ref b)])) rfl rfl (hb hby d_jdk_52_method_21_code_12) tt
  have k12 : To p.tables e below S0 (T9.setTop (mkF m 13 #[.val (.ref b), .val (.int (2 : Int32)), .val (.ref t), .val (.int (2 : Int32)), .val (.int (3 : Int32)), .val (.int (2 : Int32)), .val (.int d1)] [(.int d2)])) := fun tt hq => k11 tt (st12 tt hq)
  have k13 : To p.tables e below S0 (T9.setTop (mkF m 31 #[.val (.ref b), .val (.int (2 : Int32)), .val (.ref t), .val (.int (2 : Int32)), .val (.int (3 : Int32)), .val (.int (2 : Int32)), .val (.int d2)] [(.int (d2.toInt8.toInt32)), (.int (2 : Int32)), (.ref t)])) := fun tt hq => k12 tt (by
    refine XS.istore X9.here hx rfl (hb hby d_jdk_52_method_21_code_13) rfl (l' := #[.val (.ref b), .val (.int (2 : Int32)), .val (.ref t), .val (.int (2 : Int32)), .val (.int (3 : Int32)), .val (.int (2 : Int32)), .val (.int d2)]) rfl ?_
    refine XS.iload X9.here hx rfl (hb hby d_jdk_52_method_21_code_15) rfl ?_
    refine XS.sipush X9.here hx rfl (hb hby d_jdk_52_method_21_code_17) ?_
    refine XS.icmpYes X9.here hx rfl (pc0 := 20) (pc' := 26) rfl (hb hby d_jdk_52_method_21_code_20) rfl (flt hd2.2).2.2.2 (by decide) (by decide) ?_
    refine XS.aloadN X9.here hx rfl (hb hby d_jdk_52_method_21_code_26) rfl rfl ?_
    refine XS.iloadN X9.here hx rfl (hb hby d_jdk_52_method_21_code_27) rfl ?_
    refine XS.iload X9.here hx rfl (hb hby d_jdk_52_method_21_code_28) rfl ?_
    refine XS.i2b X9.here hx rfl (hb hby d_jdk_52_method_21_code_30) rfl ?_
    exact hq)
  obtain ⟨cl14, Ar14, q14, S14, M14, G14, J14⟩ := id V9
  obtain ⟨T14, h14, X14, e14, W14, st14⟩ := stB X9 hx hZ e9 Ar14 (j := (2 : Int32)) (inb_of S14 ⟨by decide, by decide⟩) (g := (mkF m 31 #[.val (.ref b), .val (.int (2 : Int32)), .val (.ref t), .val (.int (2 : Int32)), .val (.int (3 : Int32)), .val (.int (2 : Int32)), .val (.int d2)] [(.int (d2.toInt8.toInt32)), (.int (2 : Int32)), (.ref t)])) rfl rfl (hb hby d_jdk_52_method_21_code_31)
  have k14 : To p.tables e below S0 (T14.setTop (mkF m 32 #[.val (.ref b), .val (.int (2 : Int32)), .val (.ref t), .val (.int (2 : Int32)), .val (.int (3 : Int32)), .val (.int (2 : Int32)), .val (.int d2)] [])) := fun tt hq => k13 tt (st14 tt hq)
  have z14 : h14.size = h9.size := W14.size
  have V14 : Arv Z h14 t kt .byte (3 : Int32) [(.int (nar .byte (d0.toInt8.toInt32))), (.int (nar .byte (d1.toInt8.toInt32))), (.int (nar .byte (d2.toInt8.toInt32)))] (.int (0 : Int32)) := Arv.set Ar14 q14 S14 M14 G14 J14 (fits_nar_byte _) W14 2 rfl (Nat.le_of_ble_eq_true rfl)
  have N14 := Fr.snoc X14 N9 (by omega : n0 ≤ t)
  have k15 : To p.tables e below S0 (T14.setTop (mkF m 46 #[.val (.ref b), .val (.int (3 : Int32)), .val (.ref t), .val (.int (3 : Int32)), .val (.int (3 : Int32)), .val (.int (3 : Int32)), .val (.int d2)] [(.int (3 : Int32))])) := fun tt hq => k14 tt (by
    refine XS.iinc X14.here hx rfl (hb hby d_jdk_52_method_21_code_32) rfl (l' := #[.val (.ref b), .val (.int (3 : Int32)), .val (.ref t), .val (.int (2 : Int32)), .val (.int (3 : Int32)), .val (.int (2 : Int32)), .val (.int d2)]) rfl ?_
    refine XS.iinc X14.here hx rfl (hb hby d_jdk_52_method_21_code_35) rfl (l' := #[.val (.ref b), .val (.int (3 : Int32)), .val (.ref t), .val (.int (3 : Int32)), .val (.int (3 : Int32)), .val (.int (2 : Int32)), .val (.int d2)]) rfl ?_
    refine XS.iinc X14.here hx rfl (hb hby d_jdk_52_method_21_code_38) rfl (l' := #[.val (.ref b), .val (.int (3 : Int32)), .val (.ref t), .val (.int (3 : Int32)), .val (.int (3 : Int32)), .val (.int (3 : Int32)), .val (.int d2)]) rfl ?_
    refine XS.goto X14.here hx rfl (pc0 := 41) (pc' := 3) rfl (hb hby d_jdk_52_method_21_code_41) (by decide) (by decide) ?_
    refine XS.iload X14.here hx rfl (hb hby d_jdk_52_method_21_code_3) rfl ?_
    refine XS.iload X14.here hx rfl (hb hby d_jdk_52_method_21_code_5) rfl ?_
    refine XS.icmpYes X14.here hx rfl (pc0 := 7) (pc' := 44) rfl (hb hby d_jdk_52_method_21_code_7) rfl (flt (by decide)).2.1 (by decide) (by decide) ?_
    refine XS.iload X14.here hx rfl (hb hby d_jdk_52_method_21_code_44) rfl ?_
    exact hq)
  have hE := e14
  refine retInt X14 hx hret hlk (by simp) rfl (hb hby d_jdk_52_method_21_code_46) k15 ?_ (by decide) (by decide)
  try rw [hE]
  exact ⟨rfl, N14, ((((Keep.refl h0 [t]).wr W4 (Or.inl (by simp))).wr W9 (Or.inl (by simp))).wr W14 (Or.inl (by simp))), V14⟩
theorem d_jdk_52_method_16_code_0 : decode jdk_52_method_16_code 0 = .ok (.iload_n 2, 1) := by decide +kernel
theorem d_jdk_52_method_16_code_1 : decode jdk_52_method_16_code 1 = .ok (.newarray .byte, 2) := by decide +kernel
theorem d_jdk_52_method_16_code_3 : decode jdk_52_method_16_code 3 = .ok (.astore_n 3, 1) := by decide +kernel
theorem d_jdk_52_method_16_code_4 : decode jdk_52_method_16_code 4 = .ok (.aload_n 0, 1) := by decide +kernel
theorem d_jdk_52_method_16_code_5 : decode jdk_52_method_16_code 5 = .ok (.iload_n 1, 1) := by decide +kernel
theorem d_jdk_52_method_16_code_6 : decode jdk_52_method_16_code 6 = .ok (.aload_n 3, 1) := by decide +kernel
theorem d_jdk_52_method_16_code_7 : decode jdk_52_method_16_code 7 = .ok (.iconst 0, 1) := by decide +kernel
theorem d_jdk_52_method_16_code_8 : decode jdk_52_method_16_code 8 = .ok (.iload_n 2, 1) := by decide +kernel
theorem d_jdk_52_method_16_code_9 : decode jdk_52_method_16_code 9 = .ok (.invokestatic 115, 3) := by decide +kernel
theorem d_jdk_52_method_16_code_12 : decode jdk_52_method_16_code 12 = .ok (.istore 4, 2) := by decide +kernel
theorem d_jdk_52_method_16_code_14 : decode jdk_52_method_16_code 14 = .ok (.iload 4, 2) := by decide +kernel
theorem d_jdk_52_method_16_code_16 : decode jdk_52_method_16_code 16 = .ok (.iload_n 2, 1) := by decide +kernel
theorem d_jdk_52_method_16_code_17 : decode jdk_52_method_16_code 17 = .ok (.if_icmp .eq 40, 3) := by decide +kernel
theorem d_jdk_52_method_16_code_20 : decode jdk_52_method_16_code 20 = .ok (.aload_n 0, 1) := by decide +kernel
theorem d_jdk_52_method_16_code_21 : decode jdk_52_method_16_code 21 = .ok (.iload_n 1, 1) := by decide +kernel
theorem d_jdk_52_method_16_code_22 : decode jdk_52_method_16_code 22 = .ok (.iload_n 2, 1) := by decide +kernel
theorem d_jdk_52_method_16_code_23 : decode jdk_52_method_16_code 23 = .ok (.invokestatic 119, 3) := by decide +kernel
theorem d_jdk_52_method_16_code_26 : decode jdk_52_method_16_code 26 = .ok (.astore 5, 2) := by decide +kernel
theorem d_jdk_52_method_16_code_28 : decode jdk_52_method_16_code 28 = .ok (.aload 5, 2) := by decide +kernel
theorem d_jdk_52_method_16_code_30 : decode jdk_52_method_16_code 30 = .ok (.iload 4, 2) := by decide +kernel
theorem d_jdk_52_method_16_code_32 : decode jdk_52_method_16_code 32 = .ok (.invokestatic 71, 3) := by decide +kernel
theorem d_jdk_52_method_16_code_35 : decode jdk_52_method_16_code 35 = .ok (.sipush 255, 3) := by decide +kernel
theorem d_jdk_52_method_16_code_38 : decode jdk_52_method_16_code 38 = .ok (.if_icmp .gt 16, 3) := by decide +kernel
theorem d_jdk_52_method_16_code_41 : decode jdk_52_method_16_code 41 = .ok (.aload 5, 2) := by decide +kernel
theorem d_jdk_52_method_16_code_43 : decode jdk_52_method_16_code 43 = .ok (.iconst 0, 1) := by decide +kernel
theorem d_jdk_52_method_16_code_44 : decode jdk_52_method_16_code 44 = .ok (.aload_n 3, 1) := by decide +kernel
theorem d_jdk_52_method_16_code_45 : decode jdk_52_method_16_code 45 = .ok (.iconst 0, 1) := by decide +kernel
theorem d_jdk_52_method_16_code_46 : decode jdk_52_method_16_code 46 = .ok (.iload_n 2, 1) := by decide +kernel
theorem d_jdk_52_method_16_code_47 : decode jdk_52_method_16_code 47 = .ok (.invokestatic 123, 3) := by decide +kernel
theorem d_jdk_52_method_16_code_50 : decode jdk_52_method_16_code 50 = .ok (.iload_n 2, 1) := by decide +kernel
theorem d_jdk_52_method_16_code_51 : decode jdk_52_method_16_code 51 = .ok (.if_icmp .eq 6, 3) := by decide +kernel
theorem d_jdk_52_method_16_code_54 : decode jdk_52_method_16_code 54 = .ok (.aload 5, 2) := by decide +kernel
theorem d_jdk_52_method_16_code_56 : decode jdk_52_method_16_code 56 = .ok (.areturn, 1) := by decide +kernel
theorem d_jdk_52_method_16_code_57 : decode jdk_52_method_16_code 57 = .ok (.aload_n 3, 1) := by decide +kernel
theorem d_jdk_52_method_16_code_58 : decode jdk_52_method_16_code 58 = .ok (.areturn, 1) := by decide +kernel
theorem pd_0 : parseMethodDescriptor "([CI[BII)I" = some ⟨[(.array .char), .int, (.array .byte), .int, .int], some .int⟩ := by decide +kernel
set_option maxRecDepth 65536 in
set_option maxHeartbeats 40000000 in
theorem rm_c3_3 (l : Launch) (Z : State) (a0 : Array Value) (hw : ∀ d ∈ tables_1, d.before a0 Z = true) (b : Addr) (kb : ClassId) (d0 : Int32) (d1 : Int32) (d2 : Int32) (h0 : Heap) (n0 : Nat) (hn0 : n0 ≤ h0.size) (P0 : Arv Z h0 b kb .char (3 : Int32) [(.int d0), (.int d1), (.int d2)] (.int (0 : Int32))) (yb : @LT.lt Nat instLTNat b h0.size) (hd0 : ¬ d0 < (0 : Int32) ∧ ¬ (255 : Int32) < d0) (hd1 : ¬ d1 < (0 : Int32) ∧ ¬ (255 : Int32) < d1) (hd2 : ¬ d2 < (0 : Int32) ∧ ¬ (255 : Int32) < d2) :
    Con l Z (⟨"java/lang/StringUTF16", "compress", "([CII)[B"⟩ : MethodName) jdk_52_method_16_code 6 (some (.array .byte)) [] ({ frames := 1, cells := 1, slots := 3, locals := 18 } : Room) #[(.ref b), (.int (0 : Int32)), (.int (3 : Int32))] h0 (fun v h L => ∃ (t : Addr) (k : ClassId), v = some (.ref t) ∧ Fr n0 L ∧ h0.size ≤ t ∧ Keep h0 h [] ∧ Arv Z h t k .byte (3 : Int32) [(.int (nar .byte (d0.toInt8.toInt32))), (.int (nar .byte (d1.toInt8.toInt32))), (.int (nar .byte (d2.toInt8.toInt32)))] (.int (0 : Int32))) := by
  refine enter (Ls := #[.val (.ref b), .val (.int (0 : Int32)), .val (.int (3 : Int32)), .unset, .unset, .unset]) (plainFor_of_name pn_0) (fun m => by exact entry_eq rfl) ?_
  intro p e s m below meth cd_ s₁ S0 hx hby hml hret hlk hnm hown hZ X0 e0 k0
  have N0 := Fr.nil n0
  have k1 : To p.tables e below S0 (s₁.setTop (mkF m 1 #[.val (.ref b), .val (.int (0 : Int32)), .val (.int (3 : Int32)), .unset, .unset, .unset] [(.int (3 : Int32))])) := fun tt hq => k0 tt (by
    refine XS.iloadN X0.here hx rfl (hb hby d_jdk_52_method_16_code_0) rfl ?_
    exact hq)
  obtain ⟨T2, h2, c2, X2, e2, E2, A2, st2⟩ := newP X0 hx hZ (wq hw 19 rfl) e0 (g := (mkF m 1 #[.val (.ref b), .val (.int (0 : Int32)), .val (.int (3 : Int32)), .unset, .unset, .unset] [(.int (3 : Int32))])) rfl (hb hby d_jdk_52_method_16_code_1) rfl (by decide) (cap := 3) (by decide) (by decide) (by decide) (by decide)
  obtain ⟨b2, g2⟩ : ∃ z, z = h0.size := ⟨_, rfl⟩
  rw [← g2] at A2 st2
  have k2 : To p.tables e below S0 (T2.setTop (mkF m 3 #[.val (.ref b), .val (.int (0 : Int32)), .val (.int (3 : Int32)), .unset, .unset, .unset] [(.ref b2)])) := fun tt hq => k1 tt (st2 tt hq)
  have z2 : h0.size ≤ h2.size := E2.1
  have V2 : Arv Z h2 b2 c2 .byte (3 : Int32) [(.int (0 : Int32)), (.int (0 : Int32)), (.int (0 : Int32))] (.int (0 : Int32)) := (Arv.new A2 (by decide)).pad (pad_rep [] (.int (0 : Int32)) 3)
  have y2 : @LT.lt Nat instLTNat b2 h2.size := V2.lt
  have k3 : To p.tables e below S0 (T2.setTop (mkF m 9 #[.val (.ref b), .val (.int (0 : Int32)), .val (.int (3 : Int32)), .val (.ref b2), .unset, .unset] [(.int (3 : Int32)), (.int (0 : Int32)), (.ref b2), (.int (0 : Int32)), (.ref b)])) := fun tt hq => k2 tt (by
    refine XS.astoreN X2.here hx rfl (hb hby d_jdk_52_method_16_code_3) rfl rfl (l' := #[.val (.ref b), .val (.int (0 : Int32)), .val (.int (3 : Int32)), .val (.ref b2), .unset, .unset]) rfl ?_
    refine XS.aloadN X2.here hx rfl (hb hby d_jdk_52_method_16_code_4) rfl rfl ?_
    refine XS.iloadN X2.here hx rfl (hb hby d_jdk_52_method_16_code_5) rfl ?_
    refine XS.aloadN X2.here hx rfl (hb hby d_jdk_52_method_16_code_6) rfl rfl ?_
    refine XS.iconst X2.here hx rfl (hb hby d_jdk_52_method_16_code_7) ?_
    refine XS.iloadN X2.here hx rfl (hb hby d_jdk_52_method_16_code_8) rfl ?_
    exact hq)
  have f4 : Arv Z h2 b kb .char (3 : Int32) [(.int d0), (.int d1), (.int d2)] (.int (0 : Int32)) := (P0.ext E2)
  obtain ⟨_, T5, L5, X5, ⟨rfl, Nq5, Kq5, V5⟩, k5a⟩ := callS' X2 hx hZ (y := (⟨"java/lang/StringUTF16", "compress", "([CI[BII)I"⟩ : MethodName)) hown (wq hw 20 rfl) (wq hw 21 rfl) (wq hw 17 rfl) (wq hw 22 rfl) (by decide) (backC (W := 0) (rm_c5_3 l Z a0 hw b kb b2 c2 d0 d1 d2 h2 n0 (by omega) f4 V2 (by omega) (by omega) hd0 hd1 hd2) hZ (wq hw 22 rfl) (wq hw 17 rfl) (by decide) (by decide)) e2 (argsL := [(.ref b), (.int (0 : Int32)), (.ref b2), (.int (0 : Int32)), (.int (3 : Int32))]) (rest := []) rfl rfl pd_0 rfl (by rw [hml]; rfl) (hb hby d_jdk_52_method_16_code_9) (Nat.le_of_eq rfl) (by decide) (by decide) k3
  have k5 : To p.tables e below S0 (T5.setTop (mkF m 12 #[.val (.ref b), .val (.int (0 : Int32)), .val (.int (3 : Int32)), .val (.ref b2), .unset, .unset] [(.int (3 : Int32))])) := k5a
  have N5 := N0.app Nq5
  obtain ⟨h5, e5⟩ : ∃ z, T5.heap = z := ⟨_, rfl⟩
  rw [e5] at Kq5 V5
  have z5 : h2.size ≤ h5.size := Kq5.1
  have k6 : To p.tables e below S0 (T5.setTop (mkF m 58 #[.val (.ref b), .val (.int (0 : Int32)), .val (.int (3 : Int32)), .val (.ref b2), .val (.int (3 : Int32)), .unset] [(.ref b2)])) := fun tt hq => k5 tt (by
    refine XS.istore X5.here hx rfl (hb hby d_jdk_52_method_16_code_12) rfl (l' := #[.val (.ref b), .val (.int (0 : Int32)), .val (.int (3 : Int32)), .val (.ref b2), .val (.int (3 : Int32)), .unset]) rfl ?_
    refine XS.iload X5.here hx rfl (hb hby d_jdk_52_method_16_code_14) rfl ?_
    refine XS.iloadN X5.here hx rfl (hb hby d_jdk_52_method_16_code_16) rfl ?_
    refine XS.icmpYes X5.here hx rfl (pc0 := 17) (pc' := 57) rfl (hb hby d_jdk_52_method_16_code_17) rfl (teq (by decide)).1 (by decide) (by decide) ?_
    refine XS.aloadN X5.here hx rfl (hb hby d_jdk_52_method_16_code_57) rfl rfl ?_
    exact hq)
  have hE := e5
  refine retRef X5 hx hret hlk rfl rfl (hb hby d_jdk_52_method_16_code_58) k6 ?_ (by decide) (by decide)
  try rw [hE]
  exact ⟨b2, _, rfl, N5, (by omega), (((Keep.refl h0 []).ext E2).trans Kq5 (allS (Or.inr (by omega)) all0)), V5⟩
theorem d_jdk_52_method_15_code_0 : decode jdk_52_method_15_code 0 = .ok (.iload_n 1, 1) := by decide +kernel
theorem d_jdk_52_method_15_code_1 : decode jdk_52_method_15_code 1 = .ok (.aload_n 0, 1) := by decide +kernel
theorem d_jdk_52_method_15_code_2 : decode jdk_52_method_15_code 2 = .ok (.arraylength, 1) := by decide +kernel
theorem d_jdk_52_method_15_code_3 : decode jdk_52_method_15_code 3 = .ok (.isub, 1) := by decide +kernel
theorem d_jdk_52_method_15_code_4 : decode jdk_52_method_15_code 4 = .ok (.bipush 31, 2) := by decide +kernel
theorem d_jdk_52_method_15_code_6 : decode jdk_52_method_15_code 6 = .ok (.iushr, 1) := by decide +kernel
theorem d_jdk_52_method_15_code_7 : decode jdk_52_method_15_code 7 = .ok (.i2b, 1) := by decide +kernel
theorem d_jdk_52_method_15_code_8 : decode jdk_52_method_15_code 8 = .ok (.ireturn, 1) := by decide +kernel
set_option maxRecDepth 65536 in
set_option maxHeartbeats 40000000 in
theorem rm_cl_3 (l : Launch) (Z : State) (a0 : Array Value) (hw : ∀ d ∈ tables_1, d.before a0 Z = true) (t : Addr) (kt : ClassId) (d0 : Int32) (d1 : Int32) (d2 : Int32) (h0 : Heap) (n0 : Nat) (hn0 : n0 ≤ h0.size) (P0 : Arv Z h0 t kt .byte (3 : Int32) [(.int d0), (.int d1), (.int d2)] (.int (0 : Int32))) :
    Con l Z (⟨"java/lang/StringUTF16", "coderFromArrayLen", "([BI)B"⟩ : MethodName) jdk_52_method_15_code 2 (some .byte) [] ({ frames := 0, cells := 0, slots := 0, locals := 0 } : Room) #[(.ref t), (.int (3 : Int32))] h0 (fun v h L => v = some (.int (0 : Int32)) ∧ Fr n0 L ∧ h = h0) := by
  refine enter (Ls := #[.val (.ref t), .val (.int (3 : Int32))]) (plainFor_of_name pn_0) (fun m => by exact entry_eq rfl) ?_
  intro p e s m below meth cd_ s₁ S0 hx hby hml hret hlk hnm hown hZ X0 e0 k0
  have N0 := Fr.nil n0
  have k1 : To p.tables e below S0 (s₁.setTop (mkF m 2 #[.val (.ref t), .val (.int (3 : Int32))] [(.ref t), (.int (3 : Int32))])) := fun tt hq => k0 tt (by
    refine XS.iloadN X0.here hx rfl (hb hby d_jdk_52_method_15_code_0) rfl ?_
    refine XS.aloadN X0.here hx rfl (hb hby d_jdk_52_method_15_code_1) rfl rfl ?_
    exact hq)
  obtain ⟨cl2, Ar2, -, S2, M2, -, -⟩ := id P0
  have st2 := fun tt => X0.arraylength hx (by rw [e0]; exact Ar2.1) (State.isArrayOf_alike hZ.alike Ar2.2.1) (g := (mkF m 2 #[.val (.ref t), .val (.int (3 : Int32))] [(.ref t), (.int (3 : Int32))])) rfl rfl (hb hby d_jdk_52_method_15_code_2) tt
  rw [len_of S2 M2] at st2
  have k2 : To p.tables e below S0 (s₁.setTop (mkF m 3 #[.val (.ref t), .val (.int (3 : Int32))] [(.int (3 : Int32)), (.int (3 : Int32))])) := fun tt hq => k1 tt (st2 tt hq)
  have k3 : To p.tables e below S0 (s₁.setTop (mkF m 8 #[.val (.ref t), .val (.int (3 : Int32))] [(.int (0 : Int32))])) := fun tt hq => k2 tt (by
    refine XS.isub X0.here hx rfl (hb hby d_jdk_52_method_15_code_3) rfl ?_
    refine XS.bipush X0.here hx rfl (hb hby d_jdk_52_method_15_code_4) ?_
    refine XS.iushr X0.here hx rfl (hb hby d_jdk_52_method_15_code_6) rfl ?_
    refine XS.i2b X0.here hx rfl (hb hby d_jdk_52_method_15_code_7) rfl ?_
    exact hq)
  have hE := e0
  refine retInt X0 hx hret hlk (by simp) rfl (hb hby d_jdk_52_method_15_code_8) k3 ?_ (by decide) (by decide)
  try rw [hE]
  exact ⟨rfl, N0, rfl⟩
theorem d_jdk_42_method_149_code_0 : decode jdk_42_method_149_code 0 = .ok (.aload_n 0, 1) := by decide +kernel
theorem d_jdk_42_method_149_code_1 : decode jdk_42_method_149_code 1 = .ok (.invokespecial 1, 3) := by decide +kernel
theorem d_jdk_42_method_149_code_4 : decode jdk_42_method_149_code 4 = .ok (.iload_n 3, 1) := by decide +kernel
theorem d_jdk_42_method_149_code_5 : decode jdk_42_method_149_code 5 = .ok (.ifCond .ne 22, 3) := by decide +kernel
theorem d_jdk_42_method_149_code_8 : decode jdk_42_method_149_code 8 = .ok (.aload_n 0, 1) := by decide +kernel
theorem d_jdk_42_method_149_code_9 : decode jdk_42_method_149_code 9 = .ok (.ldc 7, 2) := by decide +kernel
theorem d_jdk_42_method_149_code_11 : decode jdk_42_method_149_code 11 = .ok (.getfield 9, 3) := by decide +kernel
theorem d_jdk_42_method_149_code_14 : decode jdk_42_method_149_code 14 = .ok (.putfield 9, 3) := by decide +kernel
theorem d_jdk_42_method_149_code_17 : decode jdk_42_method_149_code 17 = .ok (.aload_n 0, 1) := by decide +kernel
theorem d_jdk_42_method_149_code_18 : decode jdk_42_method_149_code 18 = .ok (.ldc 7, 2) := by decide +kernel
theorem d_jdk_42_method_149_code_20 : decode jdk_42_method_149_code 20 = .ok (.getfield 15, 3) := by decide +kernel
theorem d_jdk_42_method_149_code_23 : decode jdk_42_method_149_code 23 = .ok (.putfield 15, 3) := by decide +kernel
theorem d_jdk_42_method_149_code_26 : decode jdk_42_method_149_code 26 = .ok (.return_, 1) := by decide +kernel
theorem d_jdk_42_method_149_code_27 : decode jdk_42_method_149_code 27 = .ok (.getstatic 38, 3) := by decide +kernel
theorem d_jdk_42_method_149_code_30 : decode jdk_42_method_149_code 30 = .ok (.ifCond .eq 28, 3) := by decide +kernel
theorem d_jdk_42_method_149_code_33 : decode jdk_42_method_149_code 33 = .ok (.aload_n 1, 1) := by decide +kernel
theorem d_jdk_42_method_149_code_34 : decode jdk_42_method_149_code 34 = .ok (.iload_n 2, 1) := by decide +kernel
theorem d_jdk_42_method_149_code_35 : decode jdk_42_method_149_code 35 = .ok (.iload_n 3, 1) := by decide +kernel
theorem d_jdk_42_method_149_code_36 : decode jdk_42_method_149_code 36 = .ok (.invokestatic 177, 3) := by decide +kernel
theorem d_jdk_42_method_149_code_39 : decode jdk_42_method_149_code 39 = .ok (.astore 5, 2) := by decide +kernel
theorem d_jdk_42_method_149_code_41 : decode jdk_42_method_149_code 41 = .ok (.aload_n 0, 1) := by decide +kernel
theorem d_jdk_42_method_149_code_42 : decode jdk_42_method_149_code 42 = .ok (.aload 5, 2) := by decide +kernel
theorem d_jdk_42_method_149_code_44 : decode jdk_42_method_149_code 44 = .ok (.iload_n 3, 1) := by decide +kernel
theorem d_jdk_42_method_149_code_45 : decode jdk_42_method_149_code 45 = .ok (.invokestatic 47, 3) := by decide +kernel
theorem d_jdk_42_method_149_code_48 : decode jdk_42_method_149_code 48 = .ok (.putfield 15, 3) := by decide +kernel
theorem d_jdk_42_method_149_code_51 : decode jdk_42_method_149_code 51 = .ok (.aload_n 0, 1) := by decide +kernel
theorem d_jdk_42_method_149_code_52 : decode jdk_42_method_149_code 52 = .ok (.aload 5, 2) := by decide +kernel
theorem d_jdk_42_method_149_code_54 : decode jdk_42_method_149_code 54 = .ok (.putfield 9, 3) := by decide +kernel
theorem d_jdk_42_method_149_code_57 : decode jdk_42_method_149_code 57 = .ok (.return_, 1) := by decide +kernel
theorem d_jdk_42_method_149_code_58 : decode jdk_42_method_149_code 58 = .ok (.aload_n 0, 1) := by decide +kernel
theorem d_jdk_42_method_149_code_59 : decode jdk_42_method_149_code 59 = .ok (.iconst 1, 1) := by decide +kernel
theorem d_jdk_42_method_149_code_60 : decode jdk_42_method_149_code 60 = .ok (.putfield 15, 3) := by decide +kernel
theorem d_jdk_42_method_149_code_63 : decode jdk_42_method_149_code 63 = .ok (.aload_n 0, 1) := by decide +kernel
theorem d_jdk_42_method_149_code_64 : decode jdk_42_method_149_code 64 = .ok (.aload_n 1, 1) := by decide +kernel
theorem d_jdk_42_method_149_code_65 : decode jdk_42_method_149_code 65 = .ok (.iload_n 2, 1) := by decide +kernel
theorem d_jdk_42_method_149_code_66 : decode jdk_42_method_149_code 66 = .ok (.iload_n 3, 1) := by decide +kernel
theorem d_jdk_42_method_149_code_67 : decode jdk_42_method_149_code 67 = .ok (.invokestatic 180, 3) := by decide +kernel
theorem d_jdk_42_method_149_code_70 : decode jdk_42_method_149_code 70 = .ok (.putfield 9, 3) := by decide +kernel
theorem d_jdk_42_method_149_code_73 : decode jdk_42_method_149_code 73 = .ok (.return_, 1) := by decide +kernel
theorem pn_1 : plainName "java/lang/String" = true := by first | (simp [plainName, overriddenIn]; done) | decide +kernel
theorem pd_1 : parseMethodDescriptor "([CII)[B" = some ⟨[(.array .char), .int, .int], some (.array .byte)⟩ := by decide +kernel
theorem pd_2 : parseMethodDescriptor "([BI)B" = some ⟨[(.array .byte), .int], some .byte⟩ := by decide +kernel
set_option maxRecDepth 65536 in
set_option maxHeartbeats 40000000 in
theorem rm_n4_3 (l : Launch) (Z : State) (a0 : Array Value) (hw : ∀ d ∈ tables_1, d.before a0 Z = true) (zc : Int32) (a : Addr) (b : Addr) (kb : ClassId) (u1 : Value) (u2 : Value) (d0 : Int32) (d1 : Int32) (d2 : Int32) (h0 : Heap) (n0 : Nat) (hn0 : n0 ≤ h0.size) (S_c : Sta Z Z.heap "java/lang/String" "COMPACT_STRINGS" "Z" (.int zc)) (hzc : ¬ zc = (0 : Int32)) (O0 : Old Z n0 h0) (E0 : Exa Z h0 a "java/lang/String") (F1 : Fld Z h0 a "java/lang/String" "value" "[B" u1) (F2 : Fld Z h0 a "java/lang/String" "coder" "B" u2) (P0 : Arv Z h0 b kb .char (3 : Int32) [(.int d0), (.int d1), (.int d2)] (.int (0 : Int32))) (ga : n0 ≤ a) (ya : @LT.lt Nat instLTNat a h0.size) (yb : @LT.lt Nat instLTNat b h0.size) (nab : ¬ (@Eq Nat b a)) (hd0 : ¬ d0 < (0 : Int32) ∧ ¬ (255 : Int32) < d0) (hd1 : ¬ d1 < (0 : Int32) ∧ ¬ (255 : Int32) < d1) (hd2 : ¬ d2 < (0 : Int32) ∧ ¬ (255 : Int32) < d2) :
    Con l Z (⟨"java/lang/String", "<init>", "([CIILjava/lang/Void;)V"⟩ : MethodName) jdk_42_method_149_code 6 none [] ({ frames := 2, cells := 1, slots := 3, locals := 35 } : Room) #[(.ref a), (.ref b), (.int (0 : Int32)), (.int (3 : Int32)), .null] h0 (fun v h L => v = none ∧ Fr n0 L ∧ Keep h0 h [a] ∧ ∃ (t : Addr) (k : ClassId), h0.size ≤ t ∧ Exa Z h a "java/lang/String" ∧ Fld Z h a "java/lang/String" "value" "[B" (.ref t) ∧ Fld Z h a "java/lang/String" "coder" "B" (.int (0 : Int32)) ∧ Arv Z h t k .byte (3 : Int32) [(.int (nar .byte (d0.toInt8.toInt32))), (.int (nar .byte (d1.toInt8.toInt32))), (.int (nar .byte (d2.toInt8.toInt32)))] (.int (0 : Int32))) := by
  refine enter (Ls := #[.val (.ref a), .val (.ref b), .val (.int (0 : Int32)), .val (.int (3 : Int32)), .val .null, .unset]) (plainFor_of_name pn_1) (fun m => by exact entry_eq rfl) ?_
  intro p e s m below meth cd_ s₁ S0 hx hby hml hret hlk hnm hown hZ X0 e0 k0
  have N0 := Fr.nil n0
  have k1 : To p.tables e below S0 (s₁.setTop (mkF m 1 #[.val (.ref a), .val (.ref b), .val (.int (0 : Int32)), .val (.int (3 : Int32)), .val .null, .unset] [(.ref a)])) := fun tt hq => k0 tt (by
    refine XS.aloadN X0.here hx rfl (hb hby d_jdk_42_method_149_code_0) rfl rfl ?_
    exact hq)
  obtain ⟨T2, X2, e2, st2⟩ := initO X0 hx hZ hown (wq hw 11 rfl) (wq hw 12 rfl) (wq hw 13 rfl) e0 (g := (mkF m 1 #[.val (.ref a), .val (.ref b), .val (.int (0 : Int32)), .val (.int (3 : Int32)), .val .null, .unset] [(.ref a)])) rfl (by rw [hml]; rfl) rfl (hb hby d_jdk_42_method_149_code_1) (by decide) (W := 0) (by show 2 * 0 + _ ≤ _; exact Nat.le_of_eq rfl) (by decide)
  have k2 : To p.tables e below S0 (T2.setTop (mkF m 4 #[.val (.ref a), .val (.ref b), .val (.int (0 : Int32)), .val (.int (3 : Int32)), .val .null, .unset] [])) := fun tt hq => k1 tt (st2 tt hq)
  have k3 : To p.tables e below S0 (T2.setTop (mkF m 27 #[.val (.ref a), .val (.ref b), .val (.int (0 : Int32)), .val (.int (3 : Int32)), .val .null, .unset] [])) := fun tt hq => k2 tt (by
    refine XS.iloadN X2.here hx rfl (hb hby d_jdk_42_method_149_code_4) rfl ?_
    refine XS.ifYes X2.here hx rfl (pc0 := 5) (pc' := 27) rfl (hb hby d_jdk_42_method_149_code_5) rfl ((if0 _ _).trans (feq (by decide)).2) (by decide) (by decide) ?_
    exact hq)
  obtain ⟨T4, X4, e4, st4⟩ := getS2 X2 hx hZ hown (host := "") (Or.inl (wq hw 14 rfl)) Via.refl e2 (staOld S_c O0) (g := (mkF m 27 #[.val (.ref a), .val (.ref b), .val (.int (0 : Int32)), .val (.int (3 : Int32)), .val .null, .unset] [])) rfl (hb hby d_jdk_42_method_149_code_27)
  have k4 : To p.tables e below S0 (T4.setTop (mkF m 30 #[.val (.ref a), .val (.ref b), .val (.int (0 : Int32)), .val (.int (3 : Int32)), .val .null, .unset] [(.int zc)])) := fun tt hq => k3 tt (st4 tt hq)
  have k5 : To p.tables e below S0 (T4.setTop (mkF m 36 #[.val (.ref a), .val (.ref b), .val (.int (0 : Int32)), .val (.int (3 : Int32)), .val .null, .unset] [(.int (3 : Int32)), (.int (0 : Int32)), (.ref b)])) := fun tt hq => k4 tt (by
    refine XS.ifNo X4.here hx rfl (hb hby d_jdk_42_method_149_code_30) rfl ((if0 _ _).trans (feq hzc).1) ?_
    refine XS.aloadN X4.here hx rfl (hb hby d_jdk_42_method_149_code_33) rfl rfl ?_
    refine XS.iloadN X4.here hx rfl (hb hby d_jdk_42_method_149_code_34) rfl ?_
    refine XS.iloadN X4.here hx rfl (hb hby d_jdk_42_method_149_code_35) rfl ?_
    exact hq)
  obtain ⟨_, T6, L6, X6, ⟨t6, kt6, rfl, Nq6, gt6, Kq6, V6⟩, k6a⟩ := callS' X4 hx hZ (y := (⟨"java/lang/StringUTF16", "compress", "([CII)[B"⟩ : MethodName)) hown (wq hw 15 rfl) (wq hw 16 rfl) (wq hw 17 rfl) (wq hw 18 rfl) (by decide) (backC (W := 0) (rm_c3_3 l Z a0 hw b kb d0 d1 d2 h0 n0 (by omega) P0 (by omega) hd0 hd1 hd2) hZ (wq hw 18 rfl) (wq hw 17 rfl) (by decide) (by decide)) e4 (argsL := [(.ref b), (.int (0 : Int32)), (.int (3 : Int32))]) (rest := []) rfl rfl pd_1 rfl (by rw [hml]; rfl) (hb hby d_jdk_42_method_149_code_36) (Nat.le_of_eq rfl) (by decide) (by decide) k5
  have k6 : To p.tables e below S0 (T6.setTop (mkF m 39 #[.val (.ref a), .val (.ref b), .val (.int (0 : Int32)), .val (.int (3 : Int32)), .val .null, .unset] [(.ref t6)])) := k6a
  have N6 := N0.app Nq6
  obtain ⟨h6, e6⟩ : ∃ z, T6.heap = z := ⟨_, rfl⟩
  rw [e6] at Kq6 V6
  have z6 : h0.size ≤ h6.size := Kq6.1
  have y6 : @LT.lt Nat instLTNat t6 h6.size := V6.lt
  have k7 : To p.tables e below S0 (T6.setTop (mkF m 45 #[.val (.ref a), .val (.ref b), .val (.int (0 : Int32)), .val (.int (3 : Int32)), .val .null, .val (.ref t6)] [(.int (3 : Int32)), (.ref t6), (.ref a)])) := fun tt hq => k6 tt (by
    refine XS.astore X6.here hx rfl (hb hby d_jdk_42_method_149_code_39) rfl rfl (l' := #[.val (.ref a), .val (.ref b), .val (.int (0 : Int32)), .val (.int (3 : Int32)), .val .null, .val (.ref t6)]) rfl ?_
    refine XS.aloadN X6.here hx rfl (hb hby d_jdk_42_method_149_code_41) rfl rfl ?_
    refine XS.aload X6.here hx rfl (hb hby d_jdk_42_method_149_code_42) rfl rfl ?_
    refine XS.iloadN X6.here hx rfl (hb hby d_jdk_42_method_149_code_44) rfl ?_
    exact hq)
  obtain ⟨_, T8, L8, X8, ⟨rfl, Nq8, eq8⟩, k8a⟩ := callS' X6 hx hZ (y := (⟨"java/lang/StringUTF16", "coderFromArrayLen", "([BI)B"⟩ : MethodName)) hown (wq hw 23 rfl) (wq hw 24 rfl) (wq hw 17 rfl) (wq hw 25 rfl) (by decide) (backC (W := 1) (rm_cl_3 l Z a0 hw t6 kt6 (nar .byte (d0.toInt8.toInt32)) (nar .byte (d1.toInt8.toInt32)) (nar .byte (d2.toInt8.toInt32)) h6 n0 (by omega) V6) hZ (wq hw 25 rfl) (wq hw 17 rfl) (by decide) (by decide)) e6 (argsL := [(.ref t6), (.int (3 : Int32))]) (rest := [(.ref a)]) rfl rfl pd_2 rfl (by rw [hml]; rfl) (hb hby d_jdk_42_method_149_code_45) (Nat.le_of_eq rfl) (by decide) (by decide) k7
  have k8 : To p.tables e below S0 (T8.setTop (mkF m 48 #[.val (.ref a), .val (.ref b), .val (.int (0 : Int32)), .val (.int (3 : Int32)), .val .null, .val (.ref t6)] [(.int (0 : Int32)), (.ref a)])) := k8a
  have N8 := N6.app Nq8
  have e8 : T8.heap = h6 := eq8
  have f9 : Exa Z h6 a "java/lang/String" := (E0.keep Kq6)
  have f10 : Fld Z h6 a "java/lang/String" "coder" "B" u2 := (F2.keep Kq6 nin0)
  obtain ⟨T11, h11, X11, e11, W11, st11⟩ := putF X8 hx hZ hown (host := "") (Or.inl (wq hw 26 rfl)) Via.refl e8 f10 f9 (Or.inr ⟨(wq hw 27 rfl), rfl, hnm⟩) (wq hw 2 rfl) (ty := .byte) (by decide) rfl rfl (g := (mkF m 48 #[.val (.ref a), .val (.ref b), .val (.int (0 : Int32)), .val (.int (3 : Int32)), .val .null, .val (.ref t6)] [(.int (0 : Int32)), (.ref a)])) rfl rfl (hb hby d_jdk_42_method_149_code_48)
  have k11 : To p.tables e below S0 (T11.setTop (mkF m 51 #[.val (.ref a), .val (.ref b), .val (.int (0 : Int32)), .val (.int (3 : Int32)), .val .null, .val (.ref t6)] [])) := fun tt hq => k8 tt (st11 tt hq)
  have z11 : h11.size = h6.size := W11.size
  have F11 := f10.same W11
  have N11 := Fr.snoc X11 N8 (by omega : n0 ≤ a)
  have f12 : Exa Z h11 a "java/lang/String" := (f9.wr W11)
  have f13 : Fld Z h11 a "java/lang/String" "value" "[B" u1 := ((F1.keep Kq6 nin0).other W11 (Or.inr (slot_ne (Or.inr (wq hw 29 rfl)) (Or.inr (wq hw 27 rfl)) (by decide) (t := (.array .byte)) (t' := .byte) (by decide) (by decide))))
  have k14 : To p.tables e below S0 (T11.setTop (mkF m 54 #[.val (.ref a), .val (.ref b), .val (.int (0 : Int32)), .val (.int (3 : Int32)), .val .null, .val (.ref t6)] [(.ref t6), (.ref a)])) := fun tt hq => k11 tt (by
    refine XS.aloadN X11.here hx rfl (hb hby d_jdk_42_method_149_code_51) rfl rfl ?_
    refine XS.aload X11.here hx rfl (hb hby d_jdk_42_method_149_code_52) rfl rfl ?_
    exact hq)
  obtain ⟨T15, h15, X15, e15, W15, st15⟩ := putF X11 hx hZ hown (host := "") (Or.inl (wq hw 28 rfl)) Via.refl e11 f13 f12 (Or.inr ⟨(wq hw 29 rfl), rfl, hnm⟩) (wq hw 2 rfl) (ty := (.array .byte)) (by decide) rfl rfl (g := (mkF m 54 #[.val (.ref a), .val (.ref b), .val (.int (0 : Int32)), .val (.int (3 : Int32)), .val .null, .val (.ref t6)] [(.ref t6), (.ref a)])) rfl rfl (hb hby d_jdk_42_method_149_code_54)
  have k15 : To p.tables e below S0 (T15.setTop (mkF m 57 #[.val (.ref a), .val (.ref b), .val (.int (0 : Int32)), .val (.int (3 : Int32)), .val .null, .val (.ref t6)] [])) := fun tt hq => k14 tt (st15 tt hq)
  have z15 : h15.size = h11.size := W15.size
  have F15 := f13.same W15
  have N15 := Fr.snoc X15 N11 (by omega : n0 ≤ a)
  have f16 : Exa Z h15 a "java/lang/String" := (f12.wr W15)
  have f17 : Fld Z h15 a "java/lang/String" "coder" "B" (.int (0 : Int32)) := (F11.other W15 (Or.inr (slot_ne (Or.inr (wq hw 27 rfl)) (Or.inr (wq hw 29 rfl)) (by decide) (t := .byte) (t' := (.array .byte)) (by decide) (by decide))))
  have f18 : Arv Z h15 t6 kt6 .byte (3 : Int32) [(.int (nar .byte (d0.toInt8.toInt32))), (.int (nar .byte (d1.toInt8.toInt32))), (.int (nar .byte (d2.toInt8.toInt32)))] (.int (0 : Int32)) := ((V6.other W11 (adr_ne (by omega))).other W15 (adr_ne (by omega)))
  have hE := e15
  refine retVoid X15 hx hret hlk (hb hby d_jdk_42_method_149_code_57) k15 ?_ (by decide) (by decide)
  try rw [hE]
  exact ⟨rfl, N15, ((((Keep.refl h0 [a]).trans Kq6 all0).wr W11 (Or.inl (by simp))).wr W15 (Or.inl (by simp))), t6, kt6, (by omega), f16, F15, f17, f18⟩
theorem d_jdk_42_method_3_code_0 : decode jdk_42_method_3_code 0 = .ok (.aload_n 0, 1) := by decide +kernel
theorem d_jdk_42_method_3_code_1 : decode jdk_42_method_3_code 1 = .ok (.aload_n 1, 1) := by decide +kernel
theorem d_jdk_42_method_3_code_2 : decode jdk_42_method_3_code 2 = .ok (.iconst 0, 1) := by decide +kernel
theorem d_jdk_42_method_3_code_3 : decode jdk_42_method_3_code 3 = .ok (.aload_n 1, 1) := by decide +kernel
theorem d_jdk_42_method_3_code_4 : decode jdk_42_method_3_code 4 = .ok (.arraylength, 1) := by decide +kernel
theorem d_jdk_42_method_3_code_5 : decode jdk_42_method_3_code 5 = .ok (.aconst_null, 1) := by decide +kernel
theorem d_jdk_42_method_3_code_6 : decode jdk_42_method_3_code 6 = .ok (.invokespecial 27, 3) := by decide +kernel
theorem d_jdk_42_method_3_code_9 : decode jdk_42_method_3_code 9 = .ok (.return_, 1) := by decide +kernel
theorem pd_3 : parseMethodDescriptor "([CIILjava/lang/Void;)V" = some ⟨[(.array .char), .int, .int, (.object "java/lang/Void")], none⟩ := by decide +kernel
set_option maxRecDepth 65536 in
set_option maxHeartbeats 40000000 in
theorem rm_n1_3 (l : Launch) (Z : State) (a0 : Array Value) (hw : ∀ d ∈ tables_1, d.before a0 Z = true) (zc : Int32) (a : Addr) (b : Addr) (kb : ClassId) (u1 : Value) (u2 : Value) (d0 : Int32) (d1 : Int32) (d2 : Int32) (h0 : Heap) (n0 : Nat) (hn0 : n0 ≤ h0.size) (S_c : Sta Z Z.heap "java/lang/String" "COMPACT_STRINGS" "Z" (.int zc)) (hzc : ¬ zc = (0 : Int32)) (O0 : Old Z n0 h0) (E0 : Exa Z h0 a "java/lang/String") (F1 : Fld Z h0 a "java/lang/String" "value" "[B" u1) (F2 : Fld Z h0 a "java/lang/String" "coder" "B" u2) (P0 : Arv Z h0 b kb .char (3 : Int32) [(.int d0), (.int d1), (.int d2)] (.int (0 : Int32))) (ga : n0 ≤ a) (ya : @LT.lt Nat instLTNat a h0.size) (yb : @LT.lt Nat instLTNat b h0.size) (nab : ¬ (@Eq Nat b a)) (hd0 : ¬ d0 < (0 : Int32) ∧ ¬ (255 : Int32) < d0) (hd1 : ¬ d1 < (0 : Int32) ∧ ¬ (255 : Int32) < d1) (hd2 : ¬ d2 < (0 : Int32) ∧ ¬ (255 : Int32) < d2) :
    Con l Z (⟨"java/lang/String", "<init>", "([C)V"⟩ : MethodName) jdk_42_method_3_code 2 none [] ({ frames := 3, cells := 1, slots := 3, locals := 52 } : Room) #[(.ref a), (.ref b)] h0 (fun v h L => v = none ∧ Fr n0 L ∧ Keep h0 h [a] ∧ ∃ (t : Addr) (k : ClassId), h0.size ≤ t ∧ Exa Z h a "java/lang/String" ∧ Fld Z h a "java/lang/String" "value" "[B" (.ref t) ∧ Fld Z h a "java/lang/String" "coder" "B" (.int (0 : Int32)) ∧ Arv Z h t k .byte (3 : Int32) [(.int (nar .byte (d0.toInt8.toInt32))), (.int (nar .byte (d1.toInt8.toInt32))), (.int (nar .byte (d2.toInt8.toInt32)))] (.int (0 : Int32))) := by
  refine enter (Ls := #[.val (.ref a), .val (.ref b)]) (plainFor_of_name pn_1) (fun m => by exact entry_eq rfl) ?_
  intro p e s m below meth cd_ s₁ S0 hx hby hml hret hlk hnm hown hZ X0 e0 k0
  have N0 := Fr.nil n0
  have k1 : To p.tables e below S0 (s₁.setTop (mkF m 4 #[.val (.ref a), .val (.ref b)] [(.ref b), (.int (0 : Int32)), (.ref b), (.ref a)])) := fun tt hq => k0 tt (by
    refine XS.aloadN X0.here hx rfl (hb hby d_jdk_42_method_3_code_0) rfl rfl ?_
    refine XS.aloadN X0.here hx rfl (hb hby d_jdk_42_method_3_code_1) rfl rfl ?_
    refine XS.iconst X0.here hx rfl (hb hby d_jdk_42_method_3_code_2) ?_
    refine XS.aloadN X0.here hx rfl (hb hby d_jdk_42_method_3_code_3) rfl rfl ?_
    exact hq)
  obtain ⟨cl2, Ar2, -, S2, M2, -, -⟩ := id P0
  have st2 := fun tt => X0.arraylength hx (by rw [e0]; exact Ar2.1) (State.isArrayOf_alike hZ.alike Ar2.2.1) (g := (mkF m 4 #[.val (.ref a), .val (.ref b)] [(.ref b), (.int (0 : Int32)), (.ref b), (.ref a)])) rfl rfl (hb hby d_jdk_42_method_3_code_4) tt
  rw [len_of S2 M2] at st2
  have k2 : To p.tables e below S0 (s₁.setTop (mkF m 5 #[.val (.ref a), .val (.ref b)] [(.int (3 : Int32)), (.int (0 : Int32)), (.ref b), (.ref a)])) := fun tt hq => k1 tt (st2 tt hq)
  have k3 : To p.tables e below S0 (s₁.setTop (mkF m 6 #[.val (.ref a), .val (.ref b)] [.null, (.int (3 : Int32)), (.int (0 : Int32)), (.ref b), (.ref a)])) := fun tt hq => k2 tt (by
    refine XS.aconstNull X0.here hx rfl (hb hby d_jdk_42_method_3_code_5) ?_
    exact hq)
  obtain ⟨_, T4, L4, X4, ⟨rfl, Nq4, Kq4, t4, kt4, gt4, P40, P41, P42, P43⟩, k4a⟩ := callC' X0 hx hZ (y := (⟨"java/lang/String", "<init>", "([CIILjava/lang/Void;)V"⟩ : MethodName)) rfl hown (wq hw 7 rfl) (wq hw 8 rfl) (wq hw 10 rfl) (by decide) (backC (W := 0) (rm_n4_3 l Z a0 hw zc a b kb u1 u2 d0 d1 d2 h0 n0 (by omega) S_c hzc O0 E0 F1 F2 P0 (by omega) (by omega) (by omega) (by omega) hd0 hd1 hd2) hZ (wq hw 10 rfl) (wq hw 3 rfl) (by decide) (by decide)) e0 (argsL := [(.ref b), (.int (0 : Int32)), (.int (3 : Int32)), .null]) (rest := []) rfl rfl pd_3 rfl (by rw [hml]; rfl) (hb hby d_jdk_42_method_3_code_6) (Nat.le_of_eq rfl) (by decide) (by decide) k3
  have k4 : To p.tables e below S0 (T4.setTop (mkF m 9 #[.val (.ref a), .val (.ref b)] [])) := k4a
  have N4 := N0.app Nq4
  obtain ⟨h4, e4⟩ : ∃ z, T4.heap = z := ⟨_, rfl⟩
  rw [e4] at Kq4 P40 P41 P42 P43
  have z4 : h0.size ≤ h4.size := Kq4.1
  have y4 : @LT.lt Nat instLTNat t4 h4.size := P43.lt
  have hE := e4
  refine retVoid X4 hx hret hlk (hb hby d_jdk_42_method_3_code_9) k4 ?_ (by decide) (by decide)
  try rw [hE]
  exact ⟨rfl, N4, ((Keep.refl h0 [a]).trans Kq4 (allS (Or.inl (by simp)) all0)), t4, kt4, (by omega), P40, P41, P42, P43⟩
theorem d_jdk_42_method_152_code_0 : decode jdk_42_method_152_code 0 = .ok (.getstatic 38, 3) := by decide +kernel
theorem d_jdk_42_method_152_code_3 : decode jdk_42_method_152_code 3 = .ok (.ifCond .eq 10, 3) := by decide +kernel
theorem d_jdk_42_method_152_code_6 : decode jdk_42_method_152_code 6 = .ok (.aload_n 0, 1) := by decide +kernel
theorem d_jdk_42_method_152_code_7 : decode jdk_42_method_152_code 7 = .ok (.getfield 15, 3) := by decide +kernel
theorem d_jdk_42_method_152_code_10 : decode jdk_42_method_152_code 10 = .ok (.goto 4, 3) := by decide +kernel
theorem d_jdk_42_method_152_code_13 : decode jdk_42_method_152_code 13 = .ok (.iconst 1, 1) := by decide +kernel
theorem d_jdk_42_method_152_code_14 : decode jdk_42_method_152_code 14 = .ok (.ireturn, 1) := by decide +kernel
set_option maxRecDepth 65536 in
set_option maxHeartbeats 40000000 in
theorem rm_coder (l : Launch) (Z : State) (a0 : Array Value) (hw : ∀ d ∈ tables_1, d.before a0 Z = true) (zc : Int32) (a : Addr) (h0 : Heap) (n0 : Nat) (hn0 : n0 ≤ h0.size) (S_c : Sta Z Z.heap "java/lang/String" "COMPACT_STRINGS" "Z" (.int zc)) (hzc : ¬ zc = (0 : Int32)) (O0 : Old Z n0 h0) (F0 : Fld Z h0 a "java/lang/String" "coder" "B" (.int (0 : Int32))) :
    Con l Z (⟨"java/lang/String", "coder", "()B"⟩ : MethodName) jdk_42_method_152_code 1 (some .byte) [] ({ frames := 0, cells := 0, slots := 0, locals := 0 } : Room) #[(.ref a)] h0 (fun v h L => v = some (.int (0 : Int32)) ∧ Fr n0 L ∧ h = h0) := by
  refine enter (Ls := #[.val (.ref a)]) (plainFor_of_name pn_1) (fun m => by exact entry_eq rfl) ?_
  intro p e s m below meth cd_ s₁ S0 hx hby hml hret hlk hnm hown hZ X0 e0 k0
  have N0 := Fr.nil n0
  obtain ⟨T1, X1, e1, st1⟩ := getS2 X0 hx hZ hown (host := "") (Or.inl (wq hw 14 rfl)) Via.refl e0 (staOld S_c O0) (g := (mkF m 0 #[.val (.ref a)] [])) rfl (hb hby d_jdk_42_method_152_code_0)
  have k1 : To p.tables e below S0 (T1.setTop (mkF m 3 #[.val (.ref a)] [(.int zc)])) := fun tt hq => k0 tt (st1 tt hq)
  have k2 : To p.tables e below S0 (T1.setTop (mkF m 7 #[.val (.ref a)] [(.ref a)])) := fun tt hq => k1 tt (by
    refine XS.ifNo X1.here hx rfl (hb hby d_jdk_42_method_152_code_3) rfl ((if0 _ _).trans (feq hzc).1) ?_
    refine XS.aloadN X1.here hx rfl (hb hby d_jdk_42_method_152_code_6) rfl rfl ?_
    exact hq)
  obtain ⟨T3, X3, e3, st3⟩ := getF X1 hx hZ hown (host := "") (Or.inl (wq hw 26 rfl)) Via.refl e1 F0 (g := (mkF m 7 #[.val (.ref a)] [(.ref a)])) rfl rfl (hb hby d_jdk_42_method_152_code_7)
  have k3 : To p.tables e below S0 (T3.setTop (mkF m 10 #[.val (.ref a)] [(.int (0 : Int32))])) := fun tt hq => k2 tt (st3 tt hq)
  have k4 : To p.tables e below S0 (T3.setTop (mkF m 14 #[.val (.ref a)] [(.int (0 : Int32))])) := fun tt hq => k3 tt (by
    refine XS.goto X3.here hx rfl (pc0 := 10) (pc' := 14) rfl (hb hby d_jdk_42_method_152_code_10) (by decide) (by decide) ?_
    exact hq)
  have hE := e3
  refine retInt X3 hx hret hlk (by simp) rfl (hb hby d_jdk_42_method_152_code_14) k4 ?_ (by decide) (by decide)
  try rw [hE]
  exact ⟨rfl, N0, rfl⟩
theorem d_jdk_42_method_54_code_0 : decode jdk_42_method_54_code 0 = .ok (.aload_n 0, 1) := by decide +kernel
theorem d_jdk_42_method_54_code_1 : decode jdk_42_method_54_code 1 = .ok (.getfield 9, 3) := by decide +kernel
theorem d_jdk_42_method_54_code_4 : decode jdk_42_method_54_code 4 = .ok (.arraylength, 1) := by decide +kernel
theorem d_jdk_42_method_54_code_5 : decode jdk_42_method_54_code 5 = .ok (.aload_n 0, 1) := by decide +kernel
theorem d_jdk_42_method_54_code_6 : decode jdk_42_method_54_code 6 = .ok (.invokevirtual 335, 3) := by decide +kernel
theorem d_jdk_42_method_54_code_9 : decode jdk_42_method_54_code 9 = .ok (.ishr, 1) := by decide +kernel
theorem d_jdk_42_method_54_code_10 : decode jdk_42_method_54_code 10 = .ok (.ireturn, 1) := by decide +kernel
theorem pd_4 : parseMethodDescriptor "()B" = some ⟨[], some .byte⟩ := by decide +kernel
set_option maxRecDepth 65536 in
set_option maxHeartbeats 40000000 in
theorem rm_len0 (l : Launch) (Z : State) (a0 : Array Value) (hw : ∀ d ∈ tables_1, d.before a0 Z = true) (zc : Int32) (a : Addr) (t : Addr) (kt : ClassId) (h0 : Heap) (n0 : Nat) (hn0 : n0 ≤ h0.size) (S_c : Sta Z Z.heap "java/lang/String" "COMPACT_STRINGS" "Z" (.int zc)) (hzc : ¬ zc = (0 : Int32)) (O0 : Old Z n0 h0) (P0 : Exa Z h0 a "java/lang/String") (P1 : Fld Z h0 a "java/lang/String" "value" "[B" (.ref t)) (P2 : Fld Z h0 a "java/lang/String" "coder" "B" (.int (0 : Int32))) (P3 : Arv Z h0 t kt .byte (0 : Int32) [] (.int 0)) :
    Con l Z (⟨"java/lang/String", "length", "()I"⟩ : MethodName) jdk_42_method_54_code 1 (some .int) [] ({ frames := 1, cells := 0, slots := 0, locals := 13 } : Room) #[(.ref a)] h0 (fun v h L => v = some (.int (0 : Int32)) ∧ Fr n0 L ∧ h = h0) := by
  refine enter (Ls := #[.val (.ref a)]) (plainFor_of_name pn_1) (fun m => by exact entry_eq rfl) ?_
  intro p e s m below meth cd_ s₁ S0 hx hby hml hret hlk hnm hown hZ X0 e0 k0
  have N0 := Fr.nil n0
  have k1 : To p.tables e below S0 (s₁.setTop (mkF m 1 #[.val (.ref a)] [(.ref a)])) := fun tt hq => k0 tt (by
    refine XS.aloadN X0.here hx rfl (hb hby d_jdk_42_method_54_code_0) rfl rfl ?_
    exact hq)
  obtain ⟨T2, X2, e2, st2⟩ := getF X0 hx hZ hown (host := "") (Or.inl (wq hw 28 rfl)) Via.refl e0 P1 (g := (mkF m 1 #[.val (.ref a)] [(.ref a)])) rfl rfl (hb hby d_jdk_42_method_54_code_1)
  have k2 : To p.tables e below S0 (T2.setTop (mkF m 4 #[.val (.ref a)] [(.ref t)])) := fun tt hq => k1 tt (st2 tt hq)
  obtain ⟨cl3, Ar3, -, S3, M3, -, -⟩ := id P3
  have st3 := fun tt => X2.arraylength hx (by rw [e2]; exact Ar3.1) (State.isArrayOf_alike hZ.alike Ar3.2.1) (g := (mkF m 4 #[.val (.ref a)] [(.ref t)])) rfl rfl (hb hby d_jdk_42_method_54_code_4) tt
  rw [len_of S3 M3] at st3
  have k3 : To p.tables e below S0 (T2.setTop (mkF m 5 #[.val (.ref a)] [(.int (0 : Int32))])) := fun tt hq => k2 tt (st3 tt hq)
  have k4 : To p.tables e below S0 (T2.setTop (mkF m 6 #[.val (.ref a)] [(.ref a), (.int (0 : Int32))])) := fun tt hq => k3 tt (by
    refine XS.aloadN X2.here hx rfl (hb hby d_jdk_42_method_54_code_5) rfl rfl ?_
    exact hq)
  obtain ⟨_, T5, L5, X5, ⟨rfl, Nq5, eq5⟩, k5a⟩ := callV' X2 hx hZ (y := (⟨"java/lang/String", "coder", "()B"⟩ : MethodName)) (z := (⟨"java/lang/String", "coder", "()B"⟩ : MethodName)) hown (wq hw 127 rfl) (wq hw 128 rfl) (notFace_of_selects (args := #[]) (mvT hZ (wq hw 130 rfl))) (wq hw 130 rfl) (wq hw 129 rfl) (by decide) P0 (backC (W := 1) (rm_coder l Z a0 hw zc a h0 n0 (by omega) S_c hzc O0 P2) hZ (wq hw 131 rfl) (wq hw 3 rfl) (by decide) (by decide)) e2 (argsL := []) (rest := [(.int (0 : Int32))]) rfl rfl pd_4 rfl (by rw [hml]; rfl) (hb hby d_jdk_42_method_54_code_6) (Nat.le_of_eq rfl) (by decide) (by decide) k4
  have k5 : To p.tables e below S0 (T5.setTop (mkF m 9 #[.val (.ref a)] [(.int (0 : Int32)), (.int (0 : Int32))])) := k5a
  have N5 := N0.app Nq5
  have e5 : T5.heap = h0 := eq5
  have k6 : To p.tables e below S0 (T5.setTop (mkF m 10 #[.val (.ref a)] [(.int (0 : Int32))])) := fun tt hq => k5 tt (by
    refine XS.ishr X5.here hx rfl (hb hby d_jdk_42_method_54_code_9) rfl ?_
    exact hq)
  have hE := e5
  refine retInt X5 hx hret hlk (by simp) rfl (hb hby d_jdk_42_method_54_code_10) k6 ?_ (by decide) (by decide)
  try rw [hE]
  exact ⟨rfl, N5, rfl⟩
set_option maxRecDepth 65536 in
set_option maxHeartbeats 40000000 in
theorem rm_len1 (l : Launch) (Z : State) (a0 : Array Value) (hw : ∀ d ∈ tables_1, d.before a0 Z = true) (zc : Int32) (a : Addr) (t : Addr) (kt : ClassId) (c0 : Int32) (h0 : Heap) (n0 : Nat) (hn0 : n0 ≤ h0.size) (S_c : Sta Z Z.heap "java/lang/String" "COMPACT_STRINGS" "Z" (.int zc)) (hzc : ¬ zc = (0 : Int32)) (O0 : Old Z n0 h0) (P0 : Exa Z h0 a "java/lang/String") (P1 : Fld Z h0 a "java/lang/String" "value" "[B" (.ref t)) (P2 : Fld Z h0 a "java/lang/String" "coder" "B" (.int (0 : Int32))) (P3 : Arv Z h0 t kt .byte (1 : Int32) [(.int c0)] (.int 0)) :
    Con l Z (⟨"java/lang/String", "length", "()I"⟩ : MethodName) jdk_42_method_54_code 1 (some .int) [] ({ frames := 1, cells := 0, slots := 0, locals := 13 } : Room) #[(.ref a)] h0 (fun v h L => v = some (.int (1 : Int32)) ∧ Fr n0 L ∧ h = h0) := by
  refine enter (Ls := #[.val (.ref a)]) (plainFor_of_name pn_1) (fun m => by exact entry_eq rfl) ?_
  intro p e s m below meth cd_ s₁ S0 hx hby hml hret hlk hnm hown hZ X0 e0 k0
  have N0 := Fr.nil n0
  have k1 : To p.tables e below S0 (s₁.setTop (mkF m 1 #[.val (.ref a)] [(.ref a)])) := fun tt hq => k0 tt (by
    refine XS.aloadN X0.here hx rfl (hb hby d_jdk_42_method_54_code_0) rfl rfl ?_
    exact hq)
  obtain ⟨T2, X2, e2, st2⟩ := getF X0 hx hZ hown (host := "") (Or.inl (wq hw 28 rfl)) Via.refl e0 P1 (g := (mkF m 1 #[.val (.ref a)] [(.ref a)])) rfl rfl (hb hby d_jdk_42_method_54_code_1)
  have k2 : To p.tables e below S0 (T2.setTop (mkF m 4 #[.val (.ref a)] [(.ref t)])) := fun tt hq => k1 tt (st2 tt hq)
  obtain ⟨cl3, Ar3, -, S3, M3, -, -⟩ := id P3
  have st3 := fun tt => X2.arraylength hx (by rw [e2]; exact Ar3.1) (State.isArrayOf_alike hZ.alike Ar3.2.1) (g := (mkF m 4 #[.val (.ref a)] [(.ref t)])) rfl rfl (hb hby d_jdk_42_method_54_code_4) tt
  rw [len_of S3 M3] at st3
  have k3 : To p.tables e below S0 (T2.setTop (mkF m 5 #[.val (.ref a)] [(.int (1 : Int32))])) := fun tt hq => k2 tt (st3 tt hq)
  have k4 : To p.tables e below S0 (T2.setTop (mkF m 6 #[.val (.ref a)] [(.ref a), (.int (1 : Int32))])) := fun tt hq => k3 tt (by
    refine XS.aloadN X2.here hx rfl (hb hby d_jdk_42_method_54_code_5) rfl rfl ?_
    exact hq)
  obtain ⟨_, T5, L5, X5, ⟨rfl, Nq5, eq5⟩, k5a⟩ := callV' X2 hx hZ (y := (⟨"java/lang/String", "coder", "()B"⟩ : MethodName)) (z := (⟨"java/lang/String", "coder", "()B"⟩ : MethodName)) hown (wq hw 127 rfl) (wq hw 128 rfl) (notFace_of_selects (args := #[]) (mvT hZ (wq hw 130 rfl))) (wq hw 130 rfl) (wq hw 129 rfl) (by decide) P0 (backC (W := 1) (rm_coder l Z a0 hw zc a h0 n0 (by omega) S_c hzc O0 P2) hZ (wq hw 131 rfl) (wq hw 3 rfl) (by decide) (by decide)) e2 (argsL := []) (rest := [(.int (1 : Int32))]) rfl rfl pd_4 rfl (by rw [hml]; rfl) (hb hby d_jdk_42_method_54_code_6) (Nat.le_of_eq rfl) (by decide) (by decide) k4
  have k5 : To p.tables e below S0 (T5.setTop (mkF m 9 #[.val (.ref a)] [(.int (0 : Int32)), (.int (1 : Int32))])) := k5a
  have N5 := N0.app Nq5
  have e5 : T5.heap = h0 := eq5
  have k6 : To p.tables e below S0 (T5.setTop (mkF m 10 #[.val (.ref a)] [(.int (1 : Int32))])) := fun tt hq => k5 tt (by
    refine XS.ishr X5.here hx rfl (hb hby d_jdk_42_method_54_code_9) rfl ?_
    exact hq)
  have hE := e5
  refine retInt X5 hx hret hlk (by simp) rfl (hb hby d_jdk_42_method_54_code_10) k6 ?_ (by decide) (by decide)
  try rw [hE]
  exact ⟨rfl, N5, rfl⟩
set_option maxRecDepth 65536 in
set_option maxHeartbeats 40000000 in
theorem rm_len2 (l : Launch) (Z : State) (a0 : Array Value) (hw : ∀ d ∈ tables_1, d.before a0 Z = true) (zc : Int32) (a : Addr) (t : Addr) (kt : ClassId) (c0 : Int32) (c1 : Int32) (h0 : Heap) (n0 : Nat) (hn0 : n0 ≤ h0.size) (S_c : Sta Z Z.heap "java/lang/String" "COMPACT_STRINGS" "Z" (.int zc)) (hzc : ¬ zc = (0 : Int32)) (O0 : Old Z n0 h0) (P0 : Exa Z h0 a "java/lang/String") (P1 : Fld Z h0 a "java/lang/String" "value" "[B" (.ref t)) (P2 : Fld Z h0 a "java/lang/String" "coder" "B" (.int (0 : Int32))) (P3 : Arv Z h0 t kt .byte (2 : Int32) [(.int c0), (.int c1)] (.int 0)) :
    Con l Z (⟨"java/lang/String", "length", "()I"⟩ : MethodName) jdk_42_method_54_code 1 (some .int) [] ({ frames := 1, cells := 0, slots := 0, locals := 13 } : Room) #[(.ref a)] h0 (fun v h L => v = some (.int (2 : Int32)) ∧ Fr n0 L ∧ h = h0) := by
  refine enter (Ls := #[.val (.ref a)]) (plainFor_of_name pn_1) (fun m => by exact entry_eq rfl) ?_
  intro p e s m below meth cd_ s₁ S0 hx hby hml hret hlk hnm hown hZ X0 e0 k0
  have N0 := Fr.nil n0
  have k1 : To p.tables e below S0 (s₁.setTop (mkF m 1 #[.val (.ref a)] [(.ref a)])) := fun tt hq => k0 tt (by
    refine XS.aloadN X0.here hx rfl (hb hby d_jdk_42_method_54_code_0) rfl rfl ?_
    exact hq)
  obtain ⟨T2, X2, e2, st2⟩ := getF X0 hx hZ hown (host := "") (Or.inl (wq hw 28 rfl)) Via.refl e0 P1 (g := (mkF m 1 #[.val (.ref a)] [(.ref a)])) rfl rfl (hb hby d_jdk_42_method_54_code_1)
  have k2 : To p.tables e below S0 (T2.setTop (mkF m 4 #[.val (.ref a)] [(.ref t)])) := fun tt hq => k1 tt (st2 tt hq)
  obtain ⟨cl3, Ar3, -, S3, M3, -, -⟩ := id P3
  have st3 := fun tt => X2.arraylength hx (by rw [e2]; exact Ar3.1) (State.isArrayOf_alike hZ.alike Ar3.2.1) (g := (mkF m 4 #[.val (.ref a)] [(.ref t)])) rfl rfl (hb hby d_jdk_42_method_54_code_4) tt
  rw [len_of S3 M3] at st3
  have k3 : To p.tables e below S0 (T2.setTop (mkF m 5 #[.val (.ref a)] [(.int (2 : Int32))])) := fun tt hq => k2 tt (st3 tt hq)
  have k4 : To p.tables e below S0 (T2.setTop (mkF m 6 #[.val (.ref a)] [(.ref a), (.int (2 : Int32))])) := fun tt hq => k3 tt (by
    refine XS.aloadN X2.here hx rfl (hb hby d_jdk_42_method_54_code_5) rfl rfl ?_
    exact hq)
  obtain ⟨_, T5, L5, X5, ⟨rfl, Nq5, eq5⟩, k5a⟩ := callV' X2 hx hZ (y := (⟨"java/lang/String", "coder", "()B"⟩ : MethodName)) (z := (⟨"java/lang/String", "coder", "()B"⟩ : MethodName)) hown (wq hw 127 rfl) (wq hw 128 rfl) (notFace_of_selects (args := #[]) (mvT hZ (wq hw 130 rfl))) (wq hw 130 rfl) (wq hw 129 rfl) (by decide) P0 (backC (W := 1) (rm_coder l Z a0 hw zc a h0 n0 (by omega) S_c hzc O0 P2) hZ (wq hw 131 rfl) (wq hw 3 rfl) (by decide) (by decide)) e2 (argsL := []) (rest := [(.int (2 : Int32))]) rfl rfl pd_4 rfl (by rw [hml]; rfl) (hb hby d_jdk_42_method_54_code_6) (Nat.le_of_eq rfl) (by decide) (by decide) k4
  have k5 : To p.tables e below S0 (T5.setTop (mkF m 9 #[.val (.ref a)] [(.int (0 : Int32)), (.int (2 : Int32))])) := k5a
  have N5 := N0.app Nq5
  have e5 : T5.heap = h0 := eq5
  have k6 : To p.tables e below S0 (T5.setTop (mkF m 10 #[.val (.ref a)] [(.int (2 : Int32))])) := fun tt hq => k5 tt (by
    refine XS.ishr X5.here hx rfl (hb hby d_jdk_42_method_54_code_9) rfl ?_
    exact hq)
  have hE := e5
  refine retInt X5 hx hret hlk (by simp) rfl (hb hby d_jdk_42_method_54_code_10) k6 ?_ (by decide) (by decide)
  try rw [hE]
  exact ⟨rfl, N5, rfl⟩
set_option maxRecDepth 65536 in
set_option maxHeartbeats 40000000 in
theorem rm_len3 (l : Launch) (Z : State) (a0 : Array Value) (hw : ∀ d ∈ tables_1, d.before a0 Z = true) (zc : Int32) (a : Addr) (t : Addr) (kt : ClassId) (c0 : Int32) (c1 : Int32) (c2 : Int32) (h0 : Heap) (n0 : Nat) (hn0 : n0 ≤ h0.size) (S_c : Sta Z Z.heap "java/lang/String" "COMPACT_STRINGS" "Z" (.int zc)) (hzc : ¬ zc = (0 : Int32)) (O0 : Old Z n0 h0) (P0 : Exa Z h0 a "java/lang/String") (P1 : Fld Z h0 a "java/lang/String" "value" "[B" (.ref t)) (P2 : Fld Z h0 a "java/lang/String" "coder" "B" (.int (0 : Int32))) (P3 : Arv Z h0 t kt .byte (3 : Int32) [(.int c0), (.int c1), (.int c2)] (.int 0)) :
    Con l Z (⟨"java/lang/String", "length", "()I"⟩ : MethodName) jdk_42_method_54_code 1 (some .int) [] ({ frames := 1, cells := 0, slots := 0, locals := 13 } : Room) #[(.ref a)] h0 (fun v h L => v = some (.int (3 : Int32)) ∧ Fr n0 L ∧ h = h0) := by
  refine enter (Ls := #[.val (.ref a)]) (plainFor_of_name pn_1) (fun m => by exact entry_eq rfl) ?_
  intro p e s m below meth cd_ s₁ S0 hx hby hml hret hlk hnm hown hZ X0 e0 k0
  have N0 := Fr.nil n0
  have k1 : To p.tables e below S0 (s₁.setTop (mkF m 1 #[.val (.ref a)] [(.ref a)])) := fun tt hq => k0 tt (by
    refine XS.aloadN X0.here hx rfl (hb hby d_jdk_42_method_54_code_0) rfl rfl ?_
    exact hq)
  obtain ⟨T2, X2, e2, st2⟩ := getF X0 hx hZ hown (host := "") (Or.inl (wq hw 28 rfl)) Via.refl e0 P1 (g := (mkF m 1 #[.val (.ref a)] [(.ref a)])) rfl rfl (hb hby d_jdk_42_method_54_code_1)
  have k2 : To p.tables e below S0 (T2.setTop (mkF m 4 #[.val (.ref a)] [(.ref t)])) := fun tt hq => k1 tt (st2 tt hq)
  obtain ⟨cl3, Ar3, -, S3, M3, -, -⟩ := id P3
  have st3 := fun tt => X2.arraylength hx (by rw [e2]; exact Ar3.1) (State.isArrayOf_alike hZ.alike Ar3.2.1) (g := (mkF m 4 #[.val (.ref a)] [(.ref t)])) rfl rfl (hb hby d_jdk_42_method_54_code_4) tt
  rw [len_of S3 M3] at st3
  have k3 : To p.tables e below S0 (T2.setTop (mkF m 5 #[.val (.ref a)] [(.int (3 : Int32))])) := fun tt hq => k2 tt (st3 tt hq)
  have k4 : To p.tables e below S0 (T2.setTop (mkF m 6 #[.val (.ref a)] [(.ref a), (.int (3 : Int32))])) := fun tt hq => k3 tt (by
    refine XS.aloadN X2.here hx rfl (hb hby d_jdk_42_method_54_code_5) rfl rfl ?_
    exact hq)
  obtain ⟨_, T5, L5, X5, ⟨rfl, Nq5, eq5⟩, k5a⟩ := callV' X2 hx hZ (y := (⟨"java/lang/String", "coder", "()B"⟩ : MethodName)) (z := (⟨"java/lang/String", "coder", "()B"⟩ : MethodName)) hown (wq hw 127 rfl) (wq hw 128 rfl) (notFace_of_selects (args := #[]) (mvT hZ (wq hw 130 rfl))) (wq hw 130 rfl) (wq hw 129 rfl) (by decide) P0 (backC (W := 1) (rm_coder l Z a0 hw zc a h0 n0 (by omega) S_c hzc O0 P2) hZ (wq hw 131 rfl) (wq hw 3 rfl) (by decide) (by decide)) e2 (argsL := []) (rest := [(.int (3 : Int32))]) rfl rfl pd_4 rfl (by rw [hml]; rfl) (hb hby d_jdk_42_method_54_code_6) (Nat.le_of_eq rfl) (by decide) (by decide) k4
  have k5 : To p.tables e below S0 (T5.setTop (mkF m 9 #[.val (.ref a)] [(.int (0 : Int32)), (.int (3 : Int32))])) := k5a
  have N5 := N0.app Nq5
  have e5 : T5.heap = h0 := eq5
  have k6 : To p.tables e below S0 (T5.setTop (mkF m 10 #[.val (.ref a)] [(.int (3 : Int32))])) := fun tt hq => k5 tt (by
    refine XS.ishr X5.here hx rfl (hb hby d_jdk_42_method_54_code_9) rfl ?_
    exact hq)
  have hE := e5
  refine retInt X5 hx hret hlk (by simp) rfl (hb hby d_jdk_42_method_54_code_10) k6 ?_ (by decide) (by decide)
  try rw [hE]
  exact ⟨rfl, N5, rfl⟩
theorem d_jdk_42_method_154_code_0 : decode jdk_42_method_154_code 0 = .ok (.getstatic 38, 3) := by decide +kernel
theorem d_jdk_42_method_154_code_3 : decode jdk_42_method_154_code 3 = .ok (.ifCond .eq 14, 3) := by decide +kernel
theorem d_jdk_42_method_154_code_6 : decode jdk_42_method_154_code 6 = .ok (.aload_n 0, 1) := by decide +kernel
theorem d_jdk_42_method_154_code_7 : decode jdk_42_method_154_code 7 = .ok (.getfield 15, 3) := by decide +kernel
theorem d_jdk_42_method_154_code_10 : decode jdk_42_method_154_code 10 = .ok (.ifCond .ne 7, 3) := by decide +kernel
theorem d_jdk_42_method_154_code_13 : decode jdk_42_method_154_code 13 = .ok (.iconst 1, 1) := by decide +kernel
theorem d_jdk_42_method_154_code_14 : decode jdk_42_method_154_code 14 = .ok (.goto 4, 3) := by decide +kernel
theorem d_jdk_42_method_154_code_17 : decode jdk_42_method_154_code 17 = .ok (.iconst 0, 1) := by decide +kernel
theorem d_jdk_42_method_154_code_18 : decode jdk_42_method_154_code 18 = .ok (.ireturn, 1) := by decide +kernel
set_option maxRecDepth 65536 in
set_option maxHeartbeats 40000000 in
theorem rm_latin (l : Launch) (Z : State) (a0 : Array Value) (hw : ∀ d ∈ tables_1, d.before a0 Z = true) (zc : Int32) (a : Addr) (h0 : Heap) (n0 : Nat) (hn0 : n0 ≤ h0.size) (S_c : Sta Z Z.heap "java/lang/String" "COMPACT_STRINGS" "Z" (.int zc)) (hzc : ¬ zc = (0 : Int32)) (O0 : Old Z n0 h0) (F0 : Fld Z h0 a "java/lang/String" "coder" "B" (.int (0 : Int32))) :
    Con l Z (⟨"java/lang/String", "isLatin1", "()Z"⟩ : MethodName) jdk_42_method_154_code 1 (some .boolean) [] ({ frames := 0, cells := 0, slots := 0, locals := 0 } : Room) #[(.ref a)] h0 (fun v h L => v = some (.int (1 : Int32)) ∧ Fr n0 L ∧ h = h0) := by
  refine enter (Ls := #[.val (.ref a)]) (plainFor_of_name pn_1) (fun m => by exact entry_eq rfl) ?_
  intro p e s m below meth cd_ s₁ S0 hx hby hml hret hlk hnm hown hZ X0 e0 k0
  have N0 := Fr.nil n0
  obtain ⟨T1, X1, e1, st1⟩ := getS2 X0 hx hZ hown (host := "") (Or.inl (wq hw 14 rfl)) Via.refl e0 (staOld S_c O0) (g := (mkF m 0 #[.val (.ref a)] [])) rfl (hb hby d_jdk_42_method_154_code_0)
  have k1 : To p.tables e below S0 (T1.setTop (mkF m 3 #[.val (.ref a)] [(.int zc)])) := fun tt hq => k0 tt (st1 tt hq)
  have k2 : To p.tables e below S0 (T1.setTop (mkF m 7 #[.val (.ref a)] [(.ref a)])) := fun tt hq => k1 tt (by
    refine XS.ifNo X1.here hx rfl (hb hby d_jdk_42_method_154_code_3) rfl ((if0 _ _).trans (feq hzc).1) ?_
    refine XS.aloadN X1.here hx rfl (hb hby d_jdk_42_method_154_code_6) rfl rfl ?_
    exact hq)
  obtain ⟨T3, X3, e3, st3⟩ := getF X1 hx hZ hown (host := "") (Or.inl (wq hw 26 rfl)) Via.refl e1 F0 (g := (mkF m 7 #[.val (.ref a)] [(.ref a)])) rfl rfl (hb hby d_jdk_42_method_154_code_7)
  have k3 : To p.tables e below S0 (T3.setTop (mkF m 10 #[.val (.ref a)] [(.int (0 : Int32))])) := fun tt hq => k2 tt (st3 tt hq)
  have k4 : To p.tables e below S0 (T3.setTop (mkF m 18 #[.val (.ref a)] [(.int (1 : Int32))])) := fun tt hq => k3 tt (by
    refine XS.ifNo X3.here hx rfl (hb hby d_jdk_42_method_154_code_10) rfl ((if0 _ _).trans (teq (by decide)).2) ?_
    refine XS.iconst X3.here hx rfl (hb hby d_jdk_42_method_154_code_13) ?_
    refine XS.goto X3.here hx rfl (pc0 := 14) (pc' := 18) rfl (hb hby d_jdk_42_method_154_code_14) (by decide) (by decide) ?_
    exact hq)
  have hE := e3
  refine retInt X3 hx hret hlk (by simp) rfl (hb hby d_jdk_42_method_154_code_18) k4 ?_ (by decide) (by decide)
  try rw [hE]
  exact ⟨rfl, N0, rfl⟩
theorem d_jdk_41_method_11_code_0 : decode jdk_41_method_11_code 0 = .ok (.iload_n 0, 1) := by decide +kernel
theorem d_jdk_41_method_11_code_1 : decode jdk_41_method_11_code 1 = .ok (.ifCond .lt 8, 3) := by decide +kernel
theorem d_jdk_41_method_11_code_4 : decode jdk_41_method_11_code 4 = .ok (.iload_n 0, 1) := by decide +kernel
theorem d_jdk_41_method_11_code_5 : decode jdk_41_method_11_code 5 = .ok (.iload_n 1, 1) := by decide +kernel
theorem d_jdk_41_method_11_code_6 : decode jdk_41_method_11_code 6 = .ok (.if_icmp .lt 10, 3) := by decide +kernel
theorem d_jdk_41_method_11_code_9 : decode jdk_41_method_11_code 9 = .ok (.aload_n 2, 1) := by decide +kernel
theorem d_jdk_41_method_11_code_10 : decode jdk_41_method_11_code 10 = .ok (.iload_n 0, 1) := by decide +kernel
theorem d_jdk_41_method_11_code_11 : decode jdk_41_method_11_code 11 = .ok (.iload_n 1, 1) := by decide +kernel
theorem d_jdk_41_method_11_code_12 : decode jdk_41_method_11_code 12 = .ok (.invokestatic 95, 3) := by decide +kernel
theorem d_jdk_41_method_11_code_15 : decode jdk_41_method_11_code 15 = .ok (.athrow, 1) := by decide +kernel
theorem d_jdk_41_method_11_code_16 : decode jdk_41_method_11_code 16 = .ok (.iload_n 0, 1) := by decide +kernel
theorem d_jdk_41_method_11_code_17 : decode jdk_41_method_11_code 17 = .ok (.ireturn, 1) := by decide +kernel
theorem pn_2 : plainName "jdk/internal/util/Preconditions" = true := by first | (simp [plainName, overriddenIn]; done) | decide +kernel
set_option maxRecDepth 65536 in
set_option maxHeartbeats 40000000 in
theorem rm_pchk (l : Launch) (Z : State) (a0 : Array Value) (hw : ∀ d ∈ tables_1, d.before a0 Z = true) (i : Int32) (n : Int32) (fm : Value) (h0 : Heap) (n0 : Nat) (hn0 : n0 ≤ h0.size) (hfm : fm.isRef = true) (hi0 : ¬ i < (0 : Int32)) (hi1 : i < n) :
    Con l Z (⟨"jdk/internal/util/Preconditions", "checkIndex", "(IILjava/util/function/BiFunction;)I"⟩ : MethodName) jdk_41_method_11_code 3 (some .int) [] ({ frames := 0, cells := 0, slots := 0, locals := 0 } : Room) #[(.int i), (.int n), fm] h0 (fun v h L => v = some (.int i) ∧ Fr n0 L ∧ h = h0) := by
  refine enter (Ls := #[.val (.int i), .val (.int n), .val fm]) (plainFor_of_name pn_2) (fun m => by rcases ref_cases hfm with rfl | ⟨z, rfl⟩ <;> exact entry_eq rfl) ?_
  intro p e s m below meth cd_ s₁ S0 hx hby hml hret hlk hnm hown hZ X0 e0 k0
  have N0 := Fr.nil n0
  have k1 : To p.tables e below S0 (s₁.setTop (mkF m 17 #[.val (.int i), .val (.int n), .val fm] [(.int i)])) := fun tt hq => k0 tt (by
    refine XS.iloadN X0.here hx rfl (hb hby d_jdk_41_method_11_code_0) rfl ?_
    refine XS.ifNo X0.here hx rfl (hb hby d_jdk_41_method_11_code_1) rfl ((if0 _ _).trans (flt hi0).1) ?_
    refine XS.iloadN X0.here hx rfl (hb hby d_jdk_41_method_11_code_4) rfl ?_
    refine XS.iloadN X0.here hx rfl (hb hby d_jdk_41_method_11_code_5) rfl ?_
    refine XS.icmpYes X0.here hx rfl (pc0 := 6) (pc' := 16) rfl (hb hby d_jdk_41_method_11_code_6) rfl (tlt hi1).1 (by decide) (by decide) ?_
    refine XS.iloadN X0.here hx rfl (hb hby d_jdk_41_method_11_code_16) rfl ?_
    exact hq)
  have hE := e0
  refine retInt X0 hx hret hlk (by simp) rfl (hb hby d_jdk_41_method_11_code_17) k1 ?_ (by decide) (by decide)
  try rw [hE]
  exact ⟨rfl, N0, rfl⟩
theorem d_jdk_42_method_155_code_0 : decode jdk_42_method_155_code 0 = .ok (.iload_n 0, 1) := by decide +kernel
theorem d_jdk_42_method_155_code_1 : decode jdk_42_method_155_code 1 = .ok (.iload_n 1, 1) := by decide +kernel
theorem d_jdk_42_method_155_code_2 : decode jdk_42_method_155_code 2 = .ok (.getstatic 1053, 3) := by decide +kernel
theorem d_jdk_42_method_155_code_5 : decode jdk_42_method_155_code 5 = .ok (.invokestatic 1059, 3) := by decide +kernel
theorem d_jdk_42_method_155_code_8 : decode jdk_42_method_155_code 8 = .ok (.pop, 1) := by decide +kernel
theorem d_jdk_42_method_155_code_9 : decode jdk_42_method_155_code 9 = .ok (.return_, 1) := by decide +kernel
theorem pd_5 : parseMethodDescriptor "(IILjava/util/function/BiFunction;)I" = some ⟨[.int, .int, (.object "java/util/function/BiFunction")], some .int⟩ := by decide +kernel
set_option maxRecDepth 65536 in
set_option maxHeartbeats 40000000 in
theorem rm_chk (l : Launch) (Z : State) (a0 : Array Value) (hw : ∀ d ∈ tables_1, d.before a0 Z = true) (fm : Value) (i : Int32) (n : Int32) (h0 : Heap) (n0 : Nat) (hn0 : n0 ≤ h0.size) (S_f : Sta Z Z.heap "jdk/internal/util/Preconditions" "SIOOBE_FORMATTER" "Ljava/util/function/BiFunction;" fm) (hfm : fm.isRef = true) (O0 : Old Z n0 h0) (hi0 : ¬ i < (0 : Int32)) (hi1 : i < n) :
    Con l Z (⟨"java/lang/String", "checkIndex", "(II)V"⟩ : MethodName) jdk_42_method_155_code 2 none [] ({ frames := 1, cells := 0, slots := 0, locals := 14 } : Room) #[(.int i), (.int n)] h0 (fun v h L => v = none ∧ Fr n0 L ∧ h = h0) := by
  refine enter (Ls := #[.val (.int i), .val (.int n)]) (plainFor_of_name pn_1) (fun m => by exact entry_eq rfl) ?_
  intro p e s m below meth cd_ s₁ S0 hx hby hml hret hlk hnm hown hZ X0 e0 k0
  have N0 := Fr.nil n0
  have k1 : To p.tables e below S0 (s₁.setTop (mkF m 2 #[.val (.int i), .val (.int n)] [(.int n), (.int i)])) := fun tt hq => k0 tt (by
    refine XS.iloadN X0.here hx rfl (hb hby d_jdk_42_method_155_code_0) rfl ?_
    refine XS.iloadN X0.here hx rfl (hb hby d_jdk_42_method_155_code_1) rfl ?_
    exact hq)
  obtain ⟨T2, X2, e2, st2⟩ := getS2 X0 hx hZ hown (host := "") (Or.inl (wq hw 97 rfl)) Via.refl e0 (staOld S_f O0) (g := (mkF m 2 #[.val (.int i), .val (.int n)] [(.int n), (.int i)])) rfl (hb hby d_jdk_42_method_155_code_2)
  have k2 : To p.tables e below S0 (T2.setTop (mkF m 5 #[.val (.int i), .val (.int n)] [fm, (.int n), (.int i)])) := fun tt hq => k1 tt (st2 tt hq)
  obtain ⟨_, T3, L3, X3, ⟨rfl, Nq3, eq3⟩, k3a⟩ := callS' X2 hx hZ (y := (⟨"jdk/internal/util/Preconditions", "checkIndex", "(IILjava/util/function/BiFunction;)I"⟩ : MethodName)) hown (wq hw 99 rfl) (wq hw 100 rfl) (wq hw 98 rfl) (wq hw 101 rfl) (by decide) (backC (W := 0) (rm_pchk l Z a0 hw i n fm h0 n0 (by omega) hfm hi0 hi1) hZ (wq hw 101 rfl) (wq hw 98 rfl) (by decide) (by decide)) e2 (argsL := [(.int i), (.int n), fm]) (rest := []) rfl rfl pd_5 rfl (by rw [hml]; rfl) (hb hby d_jdk_42_method_155_code_5) (Nat.le_of_eq rfl) (by decide) (by decide) k2
  have k3 : To p.tables e below S0 (T3.setTop (mkF m 8 #[.val (.int i), .val (.int n)] [(.int i)])) := k3a
  have N3 := N0.app Nq3
  have e3 : T3.heap = h0 := eq3
  have k4 : To p.tables e below S0 (T3.setTop (mkF m 9 #[.val (.int i), .val (.int n)] [])) := fun tt hq => k3 tt (by
    refine XS.pop X3.here hx rfl (hb hby d_jdk_42_method_155_code_8) rfl rfl ?_
    exact hq)
  have hE := e3
  refine retVoid X3 hx hret hlk (hb hby d_jdk_42_method_155_code_9) k4 ?_ (by decide) (by decide)
  try rw [hE]
  exact ⟨rfl, N3, rfl⟩
theorem d_jdk_42_method_57_code_0 : decode jdk_42_method_57_code 0 = .ok (.aload_n 0, 1) := by decide +kernel
theorem d_jdk_42_method_57_code_1 : decode jdk_42_method_57_code 1 = .ok (.invokevirtual 492, 3) := by decide +kernel
theorem d_jdk_42_method_57_code_4 : decode jdk_42_method_57_code 4 = .ok (.ifCond .eq 23, 3) := by decide +kernel
theorem d_jdk_42_method_57_code_7 : decode jdk_42_method_57_code 7 = .ok (.iload_n 1, 1) := by decide +kernel
theorem d_jdk_42_method_57_code_8 : decode jdk_42_method_57_code 8 = .ok (.aload_n 0, 1) := by decide +kernel
theorem d_jdk_42_method_57_code_9 : decode jdk_42_method_57_code 9 = .ok (.getfield 9, 3) := by decide +kernel
theorem d_jdk_42_method_57_code_12 : decode jdk_42_method_57_code 12 = .ok (.arraylength, 1) := by decide +kernel
theorem d_jdk_42_method_57_code_13 : decode jdk_42_method_57_code 13 = .ok (.invokestatic 499, 3) := by decide +kernel
theorem d_jdk_42_method_57_code_16 : decode jdk_42_method_57_code 16 = .ok (.aload_n 0, 1) := by decide +kernel
theorem d_jdk_42_method_57_code_17 : decode jdk_42_method_57_code 17 = .ok (.getfield 9, 3) := by decide +kernel
theorem d_jdk_42_method_57_code_20 : decode jdk_42_method_57_code 20 = .ok (.iload_n 1, 1) := by decide +kernel
theorem d_jdk_42_method_57_code_21 : decode jdk_42_method_57_code 21 = .ok (.baload, 1) := by decide +kernel
theorem d_jdk_42_method_57_code_22 : decode jdk_42_method_57_code 22 = .ok (.sipush 255, 3) := by decide +kernel
theorem d_jdk_42_method_57_code_25 : decode jdk_42_method_57_code 25 = .ok (.iand, 1) := by decide +kernel
theorem d_jdk_42_method_57_code_26 : decode jdk_42_method_57_code 26 = .ok (.ireturn, 1) := by decide +kernel
theorem d_jdk_42_method_57_code_27 : decode jdk_42_method_57_code 27 = .ok (.aload_n 0, 1) := by decide +kernel
theorem d_jdk_42_method_57_code_28 : decode jdk_42_method_57_code 28 = .ok (.getfield 9, 3) := by decide +kernel
theorem d_jdk_42_method_57_code_31 : decode jdk_42_method_57_code 31 = .ok (.arraylength, 1) := by decide +kernel
theorem d_jdk_42_method_57_code_32 : decode jdk_42_method_57_code 32 = .ok (.iconst 1, 1) := by decide +kernel
theorem d_jdk_42_method_57_code_33 : decode jdk_42_method_57_code 33 = .ok (.ishr, 1) := by decide +kernel
theorem d_jdk_42_method_57_code_34 : decode jdk_42_method_57_code 34 = .ok (.istore_n 2, 1) := by decide +kernel
theorem d_jdk_42_method_57_code_35 : decode jdk_42_method_57_code 35 = .ok (.iload_n 1, 1) := by decide +kernel
theorem d_jdk_42_method_57_code_36 : decode jdk_42_method_57_code 36 = .ok (.iload_n 2, 1) := by decide +kernel
theorem d_jdk_42_method_57_code_37 : decode jdk_42_method_57_code 37 = .ok (.invokestatic 499, 3) := by decide +kernel
theorem d_jdk_42_method_57_code_40 : decode jdk_42_method_57_code 40 = .ok (.aload_n 0, 1) := by decide +kernel
theorem d_jdk_42_method_57_code_41 : decode jdk_42_method_57_code 41 = .ok (.getfield 9, 3) := by decide +kernel
theorem d_jdk_42_method_57_code_44 : decode jdk_42_method_57_code 44 = .ok (.iload_n 1, 1) := by decide +kernel
theorem d_jdk_42_method_57_code_45 : decode jdk_42_method_57_code 45 = .ok (.iload_n 2, 1) := by decide +kernel
theorem d_jdk_42_method_57_code_46 : decode jdk_42_method_57_code 46 = .ok (.invokestatic 502, 3) := by decide +kernel
theorem d_jdk_42_method_57_code_49 : decode jdk_42_method_57_code 49 = .ok (.ireturn, 1) := by decide +kernel
theorem pd_6 : parseMethodDescriptor "()Z" = some ⟨[], some .boolean⟩ := by decide +kernel
theorem pd_7 : parseMethodDescriptor "(II)V" = some ⟨[.int, .int], none⟩ := by decide +kernel
set_option maxRecDepth 65536 in
set_option maxHeartbeats 40000000 in
theorem rm_cp3_0 (l : Launch) (Z : State) (a0 : Array Value) (hw : ∀ d ∈ tables_1, d.before a0 Z = true) (zc : Int32) (fm : Value) (a : Addr) (t : Addr) (kt : ClassId) (c0 : Int32) (c1 : Int32) (c2 : Int32) (h0 : Heap) (n0 : Nat) (hn0 : n0 ≤ h0.size) (S_c : Sta Z Z.heap "java/lang/String" "COMPACT_STRINGS" "Z" (.int zc)) (hzc : ¬ zc = (0 : Int32)) (S_f : Sta Z Z.heap "jdk/internal/util/Preconditions" "SIOOBE_FORMATTER" "Ljava/util/function/BiFunction;" fm) (hfm : fm.isRef = true) (O0 : Old Z n0 h0) (P0 : Exa Z h0 a "java/lang/String") (P1 : Fld Z h0 a "java/lang/String" "value" "[B" (.ref t)) (P2 : Fld Z h0 a "java/lang/String" "coder" "B" (.int (0 : Int32))) (P3 : Arv Z h0 t kt .byte (3 : Int32) [(.int c0), (.int c1), (.int c2)] (.int 0)) :
    Con l Z (⟨"java/lang/String", "codePointAt", "(I)I"⟩ : MethodName) jdk_42_method_57_code 3 (some .int) [] ({ frames := 2, cells := 0, slots := 0, locals := 27 } : Room) #[(.ref a), (.int (0 : Int32))] h0 (fun v h L => v = some (.int (c0 &&& (255 : Int32))) ∧ Fr n0 L ∧ h = h0) := by
  refine enter (Ls := #[.val (.ref a), .val (.int (0 : Int32)), .unset]) (plainFor_of_name pn_1) (fun m => by exact entry_eq rfl) ?_
  intro p e s m below meth cd_ s₁ S0 hx hby hml hret hlk hnm hown hZ X0 e0 k0
  have N0 := Fr.nil n0
  have k1 : To p.tables e below S0 (s₁.setTop (mkF m 1 #[.val (.ref a), .val (.int (0 : Int32)), .unset] [(.ref a)])) := fun tt hq => k0 tt (by
    refine XS.aloadN X0.here hx rfl (hb hby d_jdk_42_method_57_code_0) rfl rfl ?_
    exact hq)
  obtain ⟨_, T2, L2, X2, ⟨rfl, Nq2, eq2⟩, k2a⟩ := callV' X0 hx hZ (y := (⟨"java/lang/String", "isLatin1", "()Z"⟩ : MethodName)) (z := (⟨"java/lang/String", "isLatin1", "()Z"⟩ : MethodName)) hown (wq hw 89 rfl) (wq hw 90 rfl) (notFace_of_selects (args := #[]) (mvT hZ (wq hw 92 rfl))) (wq hw 92 rfl) (wq hw 91 rfl) (by decide) P0 (backC (W := 0) (rm_latin l Z a0 hw zc a h0 n0 (by omega) S_c hzc O0 P2) hZ (wq hw 93 rfl) (wq hw 3 rfl) (by decide) (by decide)) e0 (argsL := []) (rest := []) rfl rfl pd_6 rfl (by rw [hml]; rfl) (hb hby d_jdk_42_method_57_code_1) (Nat.le_of_eq rfl) (by decide) (by decide) k1
  have k2 : To p.tables e below S0 (T2.setTop (mkF m 4 #[.val (.ref a), .val (.int (0 : Int32)), .unset] [(.int (1 : Int32))])) := k2a
  have N2 := N0.app Nq2
  have e2 : T2.heap = h0 := eq2
  have k3 : To p.tables e below S0 (T2.setTop (mkF m 9 #[.val (.ref a), .val (.int (0 : Int32)), .unset] [(.ref a), (.int (0 : Int32))])) := fun tt hq => k2 tt (by
    refine XS.ifNo X2.here hx rfl (hb hby d_jdk_42_method_57_code_4) rfl ((if0 _ _).trans (feq (by decide)).1) ?_
    refine XS.iloadN X2.here hx rfl (hb hby d_jdk_42_method_57_code_7) rfl ?_
    refine XS.aloadN X2.here hx rfl (hb hby d_jdk_42_method_57_code_8) rfl rfl ?_
    exact hq)
  obtain ⟨T4, X4, e4, st4⟩ := getF X2 hx hZ hown (host := "") (Or.inl (wq hw 28 rfl)) Via.refl e2 P1 (g := (mkF m 9 #[.val (.ref a), .val (.int (0 : Int32)), .unset] [(.ref a), (.int (0 : Int32))])) rfl rfl (hb hby d_jdk_42_method_57_code_9)
  have k4 : To p.tables e below S0 (T4.setTop (mkF m 12 #[.val (.ref a), .val (.int (0 : Int32)), .unset] [(.ref t), (.int (0 : Int32))])) := fun tt hq => k3 tt (st4 tt hq)
  obtain ⟨cl5, Ar5, -, S5, M5, -, -⟩ := id P3
  have st5 := fun tt => X4.arraylength hx (by rw [e4]; exact Ar5.1) (State.isArrayOf_alike hZ.alike Ar5.2.1) (g := (mkF m 12 #[.val (.ref a), .val (.int (0 : Int32)), .unset] [(.ref t), (.int (0 : Int32))])) rfl rfl (hb hby d_jdk_42_method_57_code_12) tt
  rw [len_of S5 M5] at st5
  have k5 : To p.tables e below S0 (T4.setTop (mkF m 13 #[.val (.ref a), .val (.int (0 : Int32)), .unset] [(.int (3 : Int32)), (.int (0 : Int32))])) := fun tt hq => k4 tt (st5 tt hq)
  obtain ⟨_, T6, L6, X6, ⟨rfl, Nq6, eq6⟩, k6a⟩ := callS' X4 hx hZ (y := (⟨"java/lang/String", "checkIndex", "(II)V"⟩ : MethodName)) hown (wq hw 94 rfl) (wq hw 95 rfl) (wq hw 3 rfl) (wq hw 96 rfl) (by decide) (backC (W := 0) (rm_chk l Z a0 hw fm (0 : Int32) (3 : Int32) h0 n0 (by omega) S_f hfm O0 (by decide) (by decide)) hZ (wq hw 96 rfl) (wq hw 3 rfl) (by decide) (by decide)) e4 (argsL := [(.int (0 : Int32)), (.int (3 : Int32))]) (rest := []) rfl rfl pd_7 rfl (by rw [hml]; rfl) (hb hby d_jdk_42_method_57_code_13) (Nat.le_of_eq rfl) (by decide) (by decide) k5
  have k6 : To p.tables e below S0 (T6.setTop (mkF m 16 #[.val (.ref a), .val (.int (0 : Int32)), .unset] [])) := k6a
  have N6 := N2.app Nq6
  have e6 : T6.heap = h0 := eq6
  have k7 : To p.tables e below S0 (T6.setTop (mkF m 17 #[.val (.ref a), .val (.int (0 : Int32)), .unset] [(.ref a)])) := fun tt hq => k6 tt (by
    refine XS.aloadN X6.here hx rfl (hb hby d_jdk_42_method_57_code_16) rfl rfl ?_
    exact hq)
  obtain ⟨T8, X8, e8, st8⟩ := getF X6 hx hZ hown (host := "") (Or.inl (wq hw 28 rfl)) Via.refl e6 P1 (g := (mkF m 17 #[.val (.ref a), .val (.int (0 : Int32)), .unset] [(.ref a)])) rfl rfl (hb hby d_jdk_42_method_57_code_17)
  have k8 : To p.tables e below S0 (T8.setTop (mkF m 20 #[.val (.ref a), .val (.int (0 : Int32)), .unset] [(.ref t)])) := fun tt hq => k7 tt (st8 tt hq)
  have k9 : To p.tables e below S0 (T8.setTop (mkF m 21 #[.val (.ref a), .val (.int (0 : Int32)), .unset] [(.int (0 : Int32)), (.ref t)])) := fun tt hq => k8 tt (by
    refine XS.iloadN X8.here hx rfl (hb hby d_jdk_42_method_57_code_20) rfl ?_
    exact hq)
  obtain ⟨cl10, Ar10, -, S10, -, G10, -⟩ := id P3
  have hi10 := inb_of (j := (0 : Int32)) S10 ⟨by decide, by decide⟩
  have st10 := fun tt => X8.baloadBytes hx (j := (0 : Int32)) (v := (.int c0)) (by rw [e8]; exact Ar10.1) (State.isArrayOf_alike hZ.alike Ar10.2.1) Ar10.2.2 hi10 (G10.at hi10 rfl) (g := (mkF m 21 #[.val (.ref a), .val (.int (0 : Int32)), .unset] [(.int (0 : Int32)), (.ref t)])) rfl rfl (hb hby d_jdk_42_method_57_code_21) tt
  have k10 : To p.tables e below S0 (T8.setTop (mkF m 22 #[.val (.ref a), .val (.int (0 : Int32)), .unset] [(.int c0)])) := fun tt hq => k9 tt (st10 tt hq)
  have k11 : To p.tables e below S0 (T8.setTop (mkF m 26 #[.val (.ref a), .val (.int (0 : Int32)), .unset] [(.int (c0 &&& (255 : Int32)))])) := fun tt hq => k10 tt (by
    refine XS.sipush X8.here hx rfl (hb hby d_jdk_42_method_57_code_22) ?_
    refine XS.iand X8.here hx rfl (hb hby d_jdk_42_method_57_code_25) rfl ?_
    exact hq)
  have hE := e8
  refine retInt X8 hx hret hlk (by simp) rfl (hb hby d_jdk_42_method_57_code_26) k11 ?_ (by decide) (by decide)
  try rw [hE]
  exact ⟨rfl, N6, rfl⟩
set_option maxRecDepth 65536 in
set_option maxHeartbeats 40000000 in
theorem rm_cp3_1 (l : Launch) (Z : State) (a0 : Array Value) (hw : ∀ d ∈ tables_1, d.before a0 Z = true) (zc : Int32) (fm : Value) (a : Addr) (t : Addr) (kt : ClassId) (c0 : Int32) (c1 : Int32) (c2 : Int32) (h0 : Heap) (n0 : Nat) (hn0 : n0 ≤ h0.size) (S_c : Sta Z Z.heap "java/lang/String" "COMPACT_STRINGS" "Z" (.int zc)) (hzc : ¬ zc = (0 : Int32)) (S_f : Sta Z Z.heap "jdk/internal/util/Preconditions" "SIOOBE_FORMATTER" "Ljava/util/function/BiFunction;" fm) (hfm : fm.isRef = true) (O0 : Old Z n0 h0) (P0 : Exa Z h0 a "java/lang/String") (P1 : Fld Z h0 a "java/lang/String" "value" "[B" (.ref t)) (P2 : Fld Z h0 a "java/lang/String" "coder" "B" (.int (0 : Int32))) (P3 : Arv Z h0 t kt .byte (3 : Int32) [(.int c0), (.int c1), (.int c2)] (.int 0)) :
    Con l Z (⟨"java/lang/String", "codePointAt", "(I)I"⟩ : MethodName) jdk_42_method_57_code 3 (some .int) [] ({ frames := 2, cells := 0, slots := 0, locals := 27 } : Room) #[(.ref a), (.int (1 : Int32))] h0 (fun v h L => v = some (.int (c1 &&& (255 : Int32))) ∧ Fr n0 L ∧ h = h0) := by
  refine enter (Ls := #[.val (.ref a), .val (.int (1 : Int32)), .unset]) (plainFor_of_name pn_1) (fun m => by exact entry_eq rfl) ?_
  intro p e s m below meth cd_ s₁ S0 hx hby hml hret hlk hnm hown hZ X0 e0 k0
  have N0 := Fr.nil n0
  have k1 : To p.tables e below S0 (s₁.setTop (mkF m 1 #[.val (.ref a), .val (.int (1 : Int32)), .unset] [(.ref a)])) := fun tt hq => k0 tt (by
    refine XS.aloadN X0.here hx rfl (hb hby d_jdk_42_method_57_code_0) rfl rfl ?_
    exact hq)
  obtain ⟨_, T2, L2, X2, ⟨rfl, Nq2, eq2⟩, k2a⟩ := callV' X0 hx hZ (y := (⟨"java/lang/String", "isLatin1", "()Z"⟩ : MethodName)) (z := (⟨"java/lang/String", "isLatin1", "()Z"⟩ : MethodName)) hown (wq hw 89 rfl) (wq hw 90 rfl) (notFace_of_selects (args := #[]) (mvT hZ (wq hw 92 rfl))) (wq hw 92 rfl) (wq hw 91 rfl) (by decide) P0 (backC (W := 0) (rm_latin l Z a0 hw zc a h0 n0 (by omega) S_c hzc O0 P2) hZ (wq hw 93 rfl) (wq hw 3 rfl) (by decide) (by decide)) e0 (argsL := []) (rest := []) rfl rfl pd_6 rfl (by rw [hml]; rfl) (hb hby d_jdk_42_method_57_code_1) (Nat.le_of_eq rfl) (by decide) (by decide) k1
  have k2 : To p.tables e below S0 (T2.setTop (mkF m 4 #[.val (.ref a), .val (.int (1 : Int32)), .unset] [(.int (1 : Int32))])) := k2a
  have N2 := N0.app Nq2
  have e2 : T2.heap = h0 := eq2
  have k3 : To p.tables e below S0 (T2.setTop (mkF m 9 #[.val (.ref a), .val (.int (1 : Int32)), .unset] [(.ref a), (.int (1 : Int32))])) := fun tt hq => k2 tt (by
    refine XS.ifNo X2.here hx rfl (hb hby d_jdk_42_method_57_code_4) rfl ((if0 _ _).trans (feq (by decide)).1) ?_
    refine XS.iloadN X2.here hx rfl (hb hby d_jdk_42_method_57_code_7) rfl ?_
    refine XS.aloadN X2.here hx rfl (hb hby d_jdk_42_method_57_code_8) rfl rfl ?_
    exact hq)
  obtain ⟨T4, X4, e4, st4⟩ := getF X2 hx hZ hown (host := "") (Or.inl (wq hw 28 rfl)) Via.refl e2 P1 (g := (mkF m 9 #[.val (.ref a), .val (.int (1 : Int32)), .unset] [(.ref a), (.int (1 : Int32))])) rfl rfl (hb hby d_jdk_42_method_57_code_9)
  have k4 : To p.tables e below S0 (T4.setTop (mkF m 12 #[.val (.ref a), .val (.int (1 : Int32)), .unset] [(.ref t), (.int (1 : Int32))])) := fun tt hq => k3 tt (st4 tt hq)
  obtain ⟨cl5, Ar5, -, S5, M5, -, -⟩ := id P3
  have st5 := fun tt => X4.arraylength hx (by rw [e4]; exact Ar5.1) (State.isArrayOf_alike hZ.alike Ar5.2.1) (g := (mkF m 12 #[.val (.ref a), .val (.int (1 : Int32)), .unset] [(.ref t), (.int (1 : Int32))])) rfl rfl (hb hby d_jdk_42_method_57_code_12) tt
  rw [len_of S5 M5] at st5
  have k5 : To p.tables e below S0 (T4.setTop (mkF m 13 #[.val (.ref a), .val (.int (1 : Int32)), .unset] [(.int (3 : Int32)), (.int (1 : Int32))])) := fun tt hq => k4 tt (st5 tt hq)
  obtain ⟨_, T6, L6, X6, ⟨rfl, Nq6, eq6⟩, k6a⟩ := callS' X4 hx hZ (y := (⟨"java/lang/String", "checkIndex", "(II)V"⟩ : MethodName)) hown (wq hw 94 rfl) (wq hw 95 rfl) (wq hw 3 rfl) (wq hw 96 rfl) (by decide) (backC (W := 0) (rm_chk l Z a0 hw fm (1 : Int32) (3 : Int32) h0 n0 (by omega) S_f hfm O0 (by decide) (by decide)) hZ (wq hw 96 rfl) (wq hw 3 rfl) (by decide) (by decide)) e4 (argsL := [(.int (1 : Int32)), (.int (3 : Int32))]) (rest := []) rfl rfl pd_7 rfl (by rw [hml]; rfl) (hb hby d_jdk_42_method_57_code_13) (Nat.le_of_eq rfl) (by decide) (by decide) k5
  have k6 : To p.tables e below S0 (T6.setTop (mkF m 16 #[.val (.ref a), .val (.int (1 : Int32)), .unset] [])) := k6a
  have N6 := N2.app Nq6
  have e6 : T6.heap = h0 := eq6
  have k7 : To p.tables e below S0 (T6.setTop (mkF m 17 #[.val (.ref a), .val (.int (1 : Int32)), .unset] [(.ref a)])) := fun tt hq => k6 tt (by
    refine XS.aloadN X6.here hx rfl (hb hby d_jdk_42_method_57_code_16) rfl rfl ?_
    exact hq)
  obtain ⟨T8, X8, e8, st8⟩ := getF X6 hx hZ hown (host := "") (Or.inl (wq hw 28 rfl)) Via.refl e6 P1 (g := (mkF m 17 #[.val (.ref a), .val (.int (1 : Int32)), .unset] [(.ref a)])) rfl rfl (hb hby d_jdk_42_method_57_code_17)
  have k8 : To p.tables e below S0 (T8.setTop (mkF m 20 #[.val (.ref a), .val (.int (1 : Int32)), .unset] [(.ref t)])) := fun tt hq => k7 tt (st8 tt hq)
  have k9 : To p.tables e below S0 (T8.setTop (mkF m 21 #[.val (.ref a), .val (.int (1 : Int32)), .unset] [(.int (1 : Int32)), (.ref t)])) := fun tt hq => k8 tt (by
    refine XS.iloadN X8.here hx rfl (hb hby d_jdk_42_method_57_code_20) rfl ?_
    exact hq)
  obtain ⟨cl10, Ar10, -, S10, -, G10, -⟩ := id P3
  have hi10 := inb_of (j := (1 : Int32)) S10 ⟨by decide, by decide⟩
  have st10 := fun tt => X8.baloadBytes hx (j := (1 : Int32)) (v := (.int c1)) (by rw [e8]; exact Ar10.1) (State.isArrayOf_alike hZ.alike Ar10.2.1) Ar10.2.2 hi10 (G10.at hi10 rfl) (g := (mkF m 21 #[.val (.ref a), .val (.int (1 : Int32)), .unset] [(.int (1 : Int32)), (.ref t)])) rfl rfl (hb hby d_jdk_42_method_57_code_21) tt
  have k10 : To p.tables e below S0 (T8.setTop (mkF m 22 #[.val (.ref a), .val (.int (1 : Int32)), .unset] [(.int c1)])) := fun tt hq => k9 tt (st10 tt hq)
  have k11 : To p.tables e below S0 (T8.setTop (mkF m 26 #[.val (.ref a), .val (.int (1 : Int32)), .unset] [(.int (c1 &&& (255 : Int32)))])) := fun tt hq => k10 tt (by
    refine XS.sipush X8.here hx rfl (hb hby d_jdk_42_method_57_code_22) ?_
    refine XS.iand X8.here hx rfl (hb hby d_jdk_42_method_57_code_25) rfl ?_
    exact hq)
  have hE := e8
  refine retInt X8 hx hret hlk (by simp) rfl (hb hby d_jdk_42_method_57_code_26) k11 ?_ (by decide) (by decide)
  try rw [hE]
  exact ⟨rfl, N6, rfl⟩
set_option maxRecDepth 65536 in
set_option maxHeartbeats 40000000 in
theorem rm_cp3_2 (l : Launch) (Z : State) (a0 : Array Value) (hw : ∀ d ∈ tables_1, d.before a0 Z = true) (zc : Int32) (fm : Value) (a : Addr) (t : Addr) (kt : ClassId) (c0 : Int32) (c1 : Int32) (c2 : Int32) (h0 : Heap) (n0 : Nat) (hn0 : n0 ≤ h0.size) (S_c : Sta Z Z.heap "java/lang/String" "COMPACT_STRINGS" "Z" (.int zc)) (hzc : ¬ zc = (0 : Int32)) (S_f : Sta Z Z.heap "jdk/internal/util/Preconditions" "SIOOBE_FORMATTER" "Ljava/util/function/BiFunction;" fm) (hfm : fm.isRef = true) (O0 : Old Z n0 h0) (P0 : Exa Z h0 a "java/lang/String") (P1 : Fld Z h0 a "java/lang/String" "value" "[B" (.ref t)) (P2 : Fld Z h0 a "java/lang/String" "coder" "B" (.int (0 : Int32))) (P3 : Arv Z h0 t kt .byte (3 : Int32) [(.int c0), (.int c1), (.int c2)] (.int 0)) :
    Con l Z (⟨"java/lang/String", "codePointAt", "(I)I"⟩ : MethodName) jdk_42_method_57_code 3 (some .int) [] ({ frames := 2, cells := 0, slots := 0, locals := 27 } : Room) #[(.ref a), (.int (2 : Int32))] h0 (fun v h L => v = some (.int (c2 &&& (255 : Int32))) ∧ Fr n0 L ∧ h = h0) := by
  refine enter (Ls := #[.val (.ref a), .val (.int (2 : Int32)), .unset]) (plainFor_of_name pn_1) (fun m => by exact entry_eq rfl) ?_
  intro p e s m below meth cd_ s₁ S0 hx hby hml hret hlk hnm hown hZ X0 e0 k0
  have N0 := Fr.nil n0
  have k1 : To p.tables e below S0 (s₁.setTop (mkF m 1 #[.val (.ref a), .val (.int (2 : Int32)), .unset] [(.ref a)])) := fun tt hq => k0 tt (by
    refine XS.aloadN X0.here hx rfl (hb hby d_jdk_42_method_57_code_0) rfl rfl ?_
    exact hq)
  obtain ⟨_, T2, L2, X2, ⟨rfl, Nq2, eq2⟩, k2a⟩ := callV' X0 hx hZ (y := (⟨"java/lang/String", "isLatin1", "()Z"⟩ : MethodName)) (z := (⟨"java/lang/String", "isLatin1", "()Z"⟩ : MethodName)) hown (wq hw 89 rfl) (wq hw 90 rfl) (notFace_of_selects (args := #[]) (mvT hZ (wq hw 92 rfl))) (wq hw 92 rfl) (wq hw 91 rfl) (by decide) P0 (backC (W := 0) (rm_latin l Z a0 hw zc a h0 n0 (by omega) S_c hzc O0 P2) hZ (wq hw 93 rfl) (wq hw 3 rfl) (by decide) (by decide)) e0 (argsL := []) (rest := []) rfl rfl pd_6 rfl (by rw [hml]; rfl) (hb hby d_jdk_42_method_57_code_1) (Nat.le_of_eq rfl) (by decide) (by decide) k1
  have k2 : To p.tables e below S0 (T2.setTop (mkF m 4 #[.val (.ref a), .val (.int (2 : Int32)), .unset] [(.int (1 : Int32))])) := k2a
  have N2 := N0.app Nq2
  have e2 : T2.heap = h0 := eq2
  have k3 : To p.tables e below S0 (T2.setTop (mkF m 9 #[.val (.ref a), .val (.int (2 : Int32)), .unset] [(.ref a), (.int (2 : Int32))])) := fun tt hq => k2 tt (by
    refine XS.ifNo X2.here hx rfl (hb hby d_jdk_42_method_57_code_4) rfl ((if0 _ _).trans (feq (by decide)).1) ?_
    refine XS.iloadN X2.here hx rfl (hb hby d_jdk_42_method_57_code_7) rfl ?_
    refine XS.aloadN X2.here hx rfl (hb hby d_jdk_42_method_57_code_8) rfl rfl ?_
    exact hq)
  obtain ⟨T4, X4, e4, st4⟩ := getF X2 hx hZ hown (host := "") (Or.inl (wq hw 28 rfl)) Via.refl e2 P1 (g := (mkF m 9 #[.val (.ref a), .val (.int (2 : Int32)), .unset] [(.ref a), (.int (2 : Int32))])) rfl rfl (hb hby d_jdk_42_method_57_code_9)
  have k4 : To p.tables e below S0 (T4.setTop (mkF m 12 #[.val (.ref a), .val (.int (2 : Int32)), .unset] [(.ref t), (.int (2 : Int32))])) := fun tt hq => k3 tt (st4 tt hq)
  obtain ⟨cl5, Ar5, -, S5, M5, -, -⟩ := id P3
  have st5 := fun tt => X4.arraylength hx (by rw [e4]; exact Ar5.1) (State.isArrayOf_alike hZ.alike Ar5.2.1) (g := (mkF m 12 #[.val (.ref a), .val (.int (2 : Int32)), .unset] [(.ref t), (.int (2 : Int32))])) rfl rfl (hb hby d_jdk_42_method_57_code_12) tt
  rw [len_of S5 M5] at st5
  have k5 : To p.tables e below S0 (T4.setTop (mkF m 13 #[.val (.ref a), .val (.int (2 : Int32)), .unset] [(.int (3 : Int32)), (.int (2 : Int32))])) := fun tt hq => k4 tt (st5 tt hq)
  obtain ⟨_, T6, L6, X6, ⟨rfl, Nq6, eq6⟩, k6a⟩ := callS' X4 hx hZ (y := (⟨"java/lang/String", "checkIndex", "(II)V"⟩ : MethodName)) hown (wq hw 94 rfl) (wq hw 95 rfl) (wq hw 3 rfl) (wq hw 96 rfl) (by decide) (backC (W := 0) (rm_chk l Z a0 hw fm (2 : Int32) (3 : Int32) h0 n0 (by omega) S_f hfm O0 (by decide) (by decide)) hZ (wq hw 96 rfl) (wq hw 3 rfl) (by decide) (by decide)) e4 (argsL := [(.int (2 : Int32)), (.int (3 : Int32))]) (rest := []) rfl rfl pd_7 rfl (by rw [hml]; rfl) (hb hby d_jdk_42_method_57_code_13) (Nat.le_of_eq rfl) (by decide) (by decide) k5
  have k6 : To p.tables e below S0 (T6.setTop (mkF m 16 #[.val (.ref a), .val (.int (2 : Int32)), .unset] [])) := k6a
  have N6 := N2.app Nq6
  have e6 : T6.heap = h0 := eq6
  have k7 : To p.tables e below S0 (T6.setTop (mkF m 17 #[.val (.ref a), .val (.int (2 : Int32)), .unset] [(.ref a)])) := fun tt hq => k6 tt (by
    refine XS.aloadN X6.here hx rfl (hb hby d_jdk_42_method_57_code_16) rfl rfl ?_
    exact hq)
  obtain ⟨T8, X8, e8, st8⟩ := getF X6 hx hZ hown (host := "") (Or.inl (wq hw 28 rfl)) Via.refl e6 P1 (g := (mkF m 17 #[.val (.ref a), .val (.int (2 : Int32)), .unset] [(.ref a)])) rfl rfl (hb hby d_jdk_42_method_57_code_17)
  have k8 : To p.tables e below S0 (T8.setTop (mkF m 20 #[.val (.ref a), .val (.int (2 : Int32)), .unset] [(.ref t)])) := fun tt hq => k7 tt (st8 tt hq)
  have k9 : To p.tables e below S0 (T8.setTop (mkF m 21 #[.val (.ref a), .val (.int (2 : Int32)), .unset] [(.int (2 : Int32)), (.ref t)])) := fun tt hq => k8 tt (by
    refine XS.iloadN X8.here hx rfl (hb hby d_jdk_42_method_57_code_20) rfl ?_
    exact hq)
  obtain ⟨cl10, Ar10, -, S10, -, G10, -⟩ := id P3
  have hi10 := inb_of (j := (2 : Int32)) S10 ⟨by decide, by decide⟩
  have st10 := fun tt => X8.baloadBytes hx (j := (2 : Int32)) (v := (.int c2)) (by rw [e8]; exact Ar10.1) (State.isArrayOf_alike hZ.alike Ar10.2.1) Ar10.2.2 hi10 (G10.at hi10 rfl) (g := (mkF m 21 #[.val (.ref a), .val (.int (2 : Int32)), .unset] [(.int (2 : Int32)), (.ref t)])) rfl rfl (hb hby d_jdk_42_method_57_code_21) tt
  have k10 : To p.tables e below S0 (T8.setTop (mkF m 22 #[.val (.ref a), .val (.int (2 : Int32)), .unset] [(.int c2)])) := fun tt hq => k9 tt (st10 tt hq)
  have k11 : To p.tables e below S0 (T8.setTop (mkF m 26 #[.val (.ref a), .val (.int (2 : Int32)), .unset] [(.int (c2 &&& (255 : Int32)))])) := fun tt hq => k10 tt (by
    refine XS.sipush X8.here hx rfl (hb hby d_jdk_42_method_57_code_22) ?_
    refine XS.iand X8.here hx rfl (hb hby d_jdk_42_method_57_code_25) rfl ?_
    exact hq)
  have hE := e8
  refine retInt X8 hx hret hlk (by simp) rfl (hb hby d_jdk_42_method_57_code_26) k11 ?_ (by decide) (by decide)
  try rw [hE]
  exact ⟨rfl, N6, rfl⟩
theorem d_jdk_89_method_18_code_0 : decode jdk_89_method_18_code 0 = .ok (.iload_n 0, 1) := by decide +kernel
theorem d_jdk_89_method_18_code_1 : decode jdk_89_method_18_code 1 = .ok (.ldc 73, 2) := by decide +kernel
theorem d_jdk_89_method_18_code_3 : decode jdk_89_method_18_code 3 = .ok (.if_icmp .lt 7, 3) := by decide +kernel
theorem d_jdk_89_method_18_code_6 : decode jdk_89_method_18_code 6 = .ok (.iconst 2, 1) := by decide +kernel
theorem d_jdk_89_method_18_code_7 : decode jdk_89_method_18_code 7 = .ok (.goto 4, 3) := by decide +kernel
theorem d_jdk_89_method_18_code_10 : decode jdk_89_method_18_code 10 = .ok (.iconst 1, 1) := by decide +kernel
theorem d_jdk_89_method_18_code_11 : decode jdk_89_method_18_code 11 = .ok (.ireturn, 1) := by decide +kernel
theorem pn_3 : plainName "java/lang/Character" = true := by first | (simp [plainName, overriddenIn]; done) | decide +kernel
set_option maxRecDepth 65536 in
set_option maxHeartbeats 40000000 in
theorem rm_cc (l : Launch) (Z : State) (a0 : Array Value) (hw : ∀ d ∈ tables_1, d.before a0 Z = true) (a : Int32) (h0 : Heap) (n0 : Nat) (hn0 : n0 ≤ h0.size) (hs : a < (65536 : Int32)) :
    Con l Z (⟨"java/lang/Character", "charCount", "(I)I"⟩ : MethodName) jdk_89_method_18_code 1 (some .int) [] ({ frames := 0, cells := 0, slots := 0, locals := 0 } : Room) #[(.int a)] h0 (fun v h L => v = some (.int (1 : Int32)) ∧ Fr n0 L ∧ h = h0) := by
  refine enter (Ls := #[.val (.int a)]) (plainFor_of_name pn_3) (fun m => by exact entry_eq rfl) ?_
  intro p e s m below meth cd_ s₁ S0 hx hby hml hret hlk hnm hown hZ X0 e0 k0
  have N0 := Fr.nil n0
  have k1 : To p.tables e below S0 (s₁.setTop (mkF m 11 #[.val (.int a)] [(.int (1 : Int32))])) := fun tt hq => k0 tt (by
    refine XS.iloadN X0.here hx rfl (hb hby d_jdk_89_method_18_code_0) rfl ?_
    refine X0.ldcInt hx hown (mvT hZ (wq hw 106 rfl)) (g := (mkF m 1 #[.val (.int a)] [(.int a)])) rfl (hb hby d_jdk_89_method_18_code_1) _ ?_
    refine XS.icmpYes X0.here hx rfl (pc0 := 3) (pc' := 10) rfl (hb hby d_jdk_89_method_18_code_3) rfl (tlt hs).1 (by decide) (by decide) ?_
    refine XS.iconst X0.here hx rfl (hb hby d_jdk_89_method_18_code_10) ?_
    exact hq)
  have hE := e0
  refine retInt X0 hx hret hlk (by simp) rfl (hb hby d_jdk_89_method_18_code_11) k1 ?_ (by decide) (by decide)
  try rw [hE]
  exact ⟨rfl, N0, rfl⟩
theorem d_jdk_43_method_2_code_0 : decode jdk_43_method_2_code 0 = .ok (.iload_n 1, 1) := by decide +kernel
theorem d_jdk_43_method_2_code_1 : decode jdk_43_method_2_code 1 = .ok (.aload_n 0, 1) := by decide +kernel
theorem d_jdk_43_method_2_code_2 : decode jdk_43_method_2_code 2 = .ok (.arraylength, 1) := by decide +kernel
theorem d_jdk_43_method_2_code_3 : decode jdk_43_method_2_code 3 = .ok (.invokestatic 9, 3) := by decide +kernel
theorem d_jdk_43_method_2_code_6 : decode jdk_43_method_2_code 6 = .ok (.aload_n 0, 1) := by decide +kernel
theorem d_jdk_43_method_2_code_7 : decode jdk_43_method_2_code 7 = .ok (.iload_n 1, 1) := by decide +kernel
theorem d_jdk_43_method_2_code_8 : decode jdk_43_method_2_code 8 = .ok (.baload, 1) := by decide +kernel
theorem d_jdk_43_method_2_code_9 : decode jdk_43_method_2_code 9 = .ok (.sipush 255, 3) := by decide +kernel
theorem d_jdk_43_method_2_code_12 : decode jdk_43_method_2_code 12 = .ok (.iand, 1) := by decide +kernel
theorem d_jdk_43_method_2_code_13 : decode jdk_43_method_2_code 13 = .ok (.i2c, 1) := by decide +kernel
theorem d_jdk_43_method_2_code_14 : decode jdk_43_method_2_code 14 = .ok (.ireturn, 1) := by decide +kernel
theorem pn_4 : plainName "java/lang/StringLatin1" = true := by first | (simp [plainName, overriddenIn]; done) | decide +kernel
set_option maxRecDepth 65536 in
set_option maxHeartbeats 40000000 in
theorem rm_lca1_0 (l : Launch) (Z : State) (a0 : Array Value) (hw : ∀ d ∈ tables_1, d.before a0 Z = true) (fm : Value) (t : Addr) (kt : ClassId) (c0 : Int32) (h0 : Heap) (n0 : Nat) (hn0 : n0 ≤ h0.size) (S_f : Sta Z Z.heap "jdk/internal/util/Preconditions" "SIOOBE_FORMATTER" "Ljava/util/function/BiFunction;" fm) (hfm : fm.isRef = true) (O0 : Old Z n0 h0) (P0 : Arv Z h0 t kt .byte (1 : Int32) [(.int c0)] (.int 0)) :
    Con l Z (⟨"java/lang/StringLatin1", "charAt", "([BI)C"⟩ : MethodName) jdk_43_method_2_code 2 (some .char) [] ({ frames := 2, cells := 0, slots := 0, locals := 27 } : Room) #[(.ref t), (.int (0 : Int32))] h0 (fun v h L => v = some (.int (c0 &&& (255 : Int32))) ∧ Fr n0 L ∧ h = h0) := by
  refine enter (Ls := #[.val (.ref t), .val (.int (0 : Int32))]) (plainFor_of_name pn_4) (fun m => by exact entry_eq rfl) ?_
  intro p e s m below meth cd_ s₁ S0 hx hby hml hret hlk hnm hown hZ X0 e0 k0
  have N0 := Fr.nil n0
  have k1 : To p.tables e below S0 (s₁.setTop (mkF m 2 #[.val (.ref t), .val (.int (0 : Int32))] [(.ref t), (.int (0 : Int32))])) := fun tt hq => k0 tt (by
    refine XS.iloadN X0.here hx rfl (hb hby d_jdk_43_method_2_code_0) rfl ?_
    refine XS.aloadN X0.here hx rfl (hb hby d_jdk_43_method_2_code_1) rfl rfl ?_
    exact hq)
  obtain ⟨cl2, Ar2, -, S2, M2, -, -⟩ := id P0
  have st2 := fun tt => X0.arraylength hx (by rw [e0]; exact Ar2.1) (State.isArrayOf_alike hZ.alike Ar2.2.1) (g := (mkF m 2 #[.val (.ref t), .val (.int (0 : Int32))] [(.ref t), (.int (0 : Int32))])) rfl rfl (hb hby d_jdk_43_method_2_code_2) tt
  rw [len_of S2 M2] at st2
  have k2 : To p.tables e below S0 (s₁.setTop (mkF m 3 #[.val (.ref t), .val (.int (0 : Int32))] [(.int (1 : Int32)), (.int (0 : Int32))])) := fun tt hq => k1 tt (st2 tt hq)
  obtain ⟨_, T3, L3, X3, ⟨rfl, Nq3, eq3⟩, k3a⟩ := callS' X0 hx hZ (y := (⟨"java/lang/String", "checkIndex", "(II)V"⟩ : MethodName)) hown (wq hw 176 rfl) (wq hw 95 rfl) (wq hw 3 rfl) (wq hw 96 rfl) (by decide) (backC (W := 0) (rm_chk l Z a0 hw fm (0 : Int32) (1 : Int32) h0 n0 (by omega) S_f hfm O0 (by decide) (by decide)) hZ (wq hw 96 rfl) (wq hw 3 rfl) (by decide) (by decide)) e0 (argsL := [(.int (0 : Int32)), (.int (1 : Int32))]) (rest := []) rfl rfl pd_7 rfl (by rw [hml]; rfl) (hb hby d_jdk_43_method_2_code_3) (Nat.le_of_eq rfl) (by decide) (by decide) k2
  have k3 : To p.tables e below S0 (T3.setTop (mkF m 6 #[.val (.ref t), .val (.int (0 : Int32))] [])) := k3a
  have N3 := N0.app Nq3
  have e3 : T3.heap = h0 := eq3
  have k4 : To p.tables e below S0 (T3.setTop (mkF m 8 #[.val (.ref t), .val (.int (0 : Int32))] [(.int (0 : Int32)), (.ref t)])) := fun tt hq => k3 tt (by
    refine XS.aloadN X3.here hx rfl (hb hby d_jdk_43_method_2_code_6) rfl rfl ?_
    refine XS.iloadN X3.here hx rfl (hb hby d_jdk_43_method_2_code_7) rfl ?_
    exact hq)
  obtain ⟨cl5, Ar5, -, S5, -, G5, -⟩ := id P0
  have hi5 := inb_of (j := (0 : Int32)) S5 ⟨by decide, by decide⟩
  have st5 := fun tt => X3.baloadBytes hx (j := (0 : Int32)) (v := (.int c0)) (by rw [e3]; exact Ar5.1) (State.isArrayOf_alike hZ.alike Ar5.2.1) Ar5.2.2 hi5 (G5.at hi5 rfl) (g := (mkF m 8 #[.val (.ref t), .val (.int (0 : Int32))] [(.int (0 : Int32)), (.ref t)])) rfl rfl (hb hby d_jdk_43_method_2_code_8) tt
  have k5 : To p.tables e below S0 (T3.setTop (mkF m 9 #[.val (.ref t), .val (.int (0 : Int32))] [(.int c0)])) := fun tt hq => k4 tt (st5 tt hq)
  have k6 : To p.tables e below S0 (T3.setTop (mkF m 14 #[.val (.ref t), .val (.int (0 : Int32))] [(.int ((c0 &&& (255 : Int32)).toUInt32.toUInt16.toUInt32.toInt32))])) := fun tt hq => k5 tt (by
    refine XS.sipush X3.here hx rfl (hb hby d_jdk_43_method_2_code_9) ?_
    refine XS.iand X3.here hx rfl (hb hby d_jdk_43_method_2_code_12) rfl ?_
    refine XS.i2c X3.here hx rfl (hb hby d_jdk_43_method_2_code_13) rfl ?_
    exact hq)
  have k7 : To p.tables e below S0 (T3.setTop (mkF m 14 #[.val (.ref t), .val (.int (0 : Int32))] [(.int (c0 &&& (255 : Int32)))])) := by have hq := k6; rw [i2c_mask] at hq; exact hq
  have hE := e3
  refine retInt X3 hx hret hlk (by simp) (own_narrowc _) (hb hby d_jdk_43_method_2_code_14) k7 ?_ (by decide) (by decide)
  try rw [hE]
  exact ⟨rfl, N3, rfl⟩
theorem d_jdk_42_method_56_code_0 : decode jdk_42_method_56_code 0 = .ok (.aload_n 0, 1) := by decide +kernel
theorem d_jdk_42_method_56_code_1 : decode jdk_42_method_56_code 1 = .ok (.invokevirtual 492, 3) := by decide +kernel
theorem d_jdk_42_method_56_code_4 : decode jdk_42_method_56_code 4 = .ok (.ifCond .eq 12, 3) := by decide +kernel
theorem d_jdk_42_method_56_code_7 : decode jdk_42_method_56_code 7 = .ok (.aload_n 0, 1) := by decide +kernel
theorem d_jdk_42_method_56_code_8 : decode jdk_42_method_56_code 8 = .ok (.getfield 9, 3) := by decide +kernel
theorem d_jdk_42_method_56_code_11 : decode jdk_42_method_56_code 11 = .ok (.iload_n 1, 1) := by decide +kernel
theorem d_jdk_42_method_56_code_12 : decode jdk_42_method_56_code 12 = .ok (.invokestatic 495, 3) := by decide +kernel
theorem d_jdk_42_method_56_code_15 : decode jdk_42_method_56_code 15 = .ok (.ireturn, 1) := by decide +kernel
theorem d_jdk_42_method_56_code_16 : decode jdk_42_method_56_code 16 = .ok (.aload_n 0, 1) := by decide +kernel
theorem d_jdk_42_method_56_code_17 : decode jdk_42_method_56_code 17 = .ok (.getfield 9, 3) := by decide +kernel
theorem d_jdk_42_method_56_code_20 : decode jdk_42_method_56_code 20 = .ok (.iload_n 1, 1) := by decide +kernel
theorem d_jdk_42_method_56_code_21 : decode jdk_42_method_56_code 21 = .ok (.invokestatic 498, 3) := by decide +kernel
theorem d_jdk_42_method_56_code_24 : decode jdk_42_method_56_code 24 = .ok (.ireturn, 1) := by decide +kernel
theorem pd_8 : parseMethodDescriptor "([BI)C" = some ⟨[(.array .byte), .int], some .char⟩ := by decide +kernel
set_option maxRecDepth 65536 in
set_option maxHeartbeats 40000000 in
theorem rm_ca1_0 (l : Launch) (Z : State) (a0 : Array Value) (hw : ∀ d ∈ tables_1, d.before a0 Z = true) (zc : Int32) (fm : Value) (a : Addr) (t : Addr) (kt : ClassId) (c0 : Int32) (r : Int32) (h0 : Heap) (n0 : Nat) (hn0 : n0 ≤ h0.size) (S_c : Sta Z Z.heap "java/lang/String" "COMPACT_STRINGS" "Z" (.int zc)) (hzc : ¬ zc = (0 : Int32)) (S_f : Sta Z Z.heap "jdk/internal/util/Preconditions" "SIOOBE_FORMATTER" "Ljava/util/function/BiFunction;" fm) (hfm : fm.isRef = true) (O0 : Old Z n0 h0) (P0 : Exa Z h0 a "java/lang/String") (P1 : Fld Z h0 a "java/lang/String" "value" "[B" (.ref t)) (P2 : Fld Z h0 a "java/lang/String" "coder" "B" (.int (0 : Int32))) (P3 : Arv Z h0 t kt .byte (1 : Int32) [(.int c0)] (.int 0)) (hr : (c0 &&& (255 : Int32)) = r) :
    Con l Z (⟨"java/lang/String", "charAt", "(I)C"⟩ : MethodName) jdk_42_method_56_code 2 (some .char) [] ({ frames := 3, cells := 0, slots := 0, locals := 40 } : Room) #[(.ref a), (.int (0 : Int32))] h0 (fun v h L => v = some (.int r) ∧ Fr n0 L ∧ h = h0) := by
  refine enter (Ls := #[.val (.ref a), .val (.int (0 : Int32))]) (plainFor_of_name pn_1) (fun m => by exact entry_eq rfl) ?_
  intro p e s m below meth cd_ s₁ S0 hx hby hml hret hlk hnm hown hZ X0 e0 k0
  have N0 := Fr.nil n0
  have k1 : To p.tables e below S0 (s₁.setTop (mkF m 1 #[.val (.ref a), .val (.int (0 : Int32))] [(.ref a)])) := fun tt hq => k0 tt (by
    refine XS.aloadN X0.here hx rfl (hb hby d_jdk_42_method_56_code_0) rfl rfl ?_
    exact hq)
  obtain ⟨_, T2, L2, X2, ⟨rfl, Nq2, eq2⟩, k2a⟩ := callV' X0 hx hZ (y := (⟨"java/lang/String", "isLatin1", "()Z"⟩ : MethodName)) (z := (⟨"java/lang/String", "isLatin1", "()Z"⟩ : MethodName)) hown (wq hw 89 rfl) (wq hw 90 rfl) (notFace_of_selects (args := #[]) (mvT hZ (wq hw 92 rfl))) (wq hw 92 rfl) (wq hw 91 rfl) (by decide) P0 (backC (W := 0) (rm_latin l Z a0 hw zc a h0 n0 (by omega) S_c hzc O0 P2) hZ (wq hw 93 rfl) (wq hw 3 rfl) (by decide) (by decide)) e0 (argsL := []) (rest := []) rfl rfl pd_6 rfl (by rw [hml]; rfl) (hb hby d_jdk_42_method_56_code_1) (Nat.le_of_eq rfl) (by decide) (by decide) k1
  have k2 : To p.tables e below S0 (T2.setTop (mkF m 4 #[.val (.ref a), .val (.int (0 : Int32))] [(.int (1 : Int32))])) := k2a
  have N2 := N0.app Nq2
  have e2 : T2.heap = h0 := eq2
  have k3 : To p.tables e below S0 (T2.setTop (mkF m 8 #[.val (.ref a), .val (.int (0 : Int32))] [(.ref a)])) := fun tt hq => k2 tt (by
    refine XS.ifNo X2.here hx rfl (hb hby d_jdk_42_method_56_code_4) rfl ((if0 _ _).trans (feq (by decide)).1) ?_
    refine XS.aloadN X2.here hx rfl (hb hby d_jdk_42_method_56_code_7) rfl rfl ?_
    exact hq)
  obtain ⟨T4, X4, e4, st4⟩ := getF X2 hx hZ hown (host := "") (Or.inl (wq hw 28 rfl)) Via.refl e2 P1 (g := (mkF m 8 #[.val (.ref a), .val (.int (0 : Int32))] [(.ref a)])) rfl rfl (hb hby d_jdk_42_method_56_code_8)
  have k4 : To p.tables e below S0 (T4.setTop (mkF m 11 #[.val (.ref a), .val (.int (0 : Int32))] [(.ref t)])) := fun tt hq => k3 tt (st4 tt hq)
  have k5 : To p.tables e below S0 (T4.setTop (mkF m 12 #[.val (.ref a), .val (.int (0 : Int32))] [(.int (0 : Int32)), (.ref t)])) := fun tt hq => k4 tt (by
    refine XS.iloadN X4.here hx rfl (hb hby d_jdk_42_method_56_code_11) rfl ?_
    exact hq)
  obtain ⟨_, T6, L6, X6, ⟨rfl, Nq6, eq6⟩, k6a⟩ := callS' X4 hx hZ (y := (⟨"java/lang/StringLatin1", "charAt", "([BI)C"⟩ : MethodName)) hown (wq hw 173 rfl) (wq hw 174 rfl) (wq hw 140 rfl) (wq hw 175 rfl) (by decide) (backC (W := 0) (rm_lca1_0 l Z a0 hw fm t kt c0 h0 n0 (by omega) S_f hfm O0 P3) hZ (wq hw 175 rfl) (wq hw 140 rfl) (by decide) (by decide)) e4 (argsL := [(.ref t), (.int (0 : Int32))]) (rest := []) rfl rfl pd_8 rfl (by rw [hml]; rfl) (hb hby d_jdk_42_method_56_code_12) (Nat.le_of_eq rfl) (by decide) (by decide) k5
  have k6 : To p.tables e below S0 (T6.setTop (mkF m 15 #[.val (.ref a), .val (.int (0 : Int32))] [(.int (c0 &&& (255 : Int32)))])) := k6a
  have N6 := N2.app Nq6
  have e6 : T6.heap = h0 := eq6
  have hE := e6
  refine retInt X6 hx hret hlk (by simp) (own_narrowc _) (hb hby d_jdk_42_method_56_code_15) k6 ?_ (by decide) (by decide)
  try rw [hE]
  exact ⟨by rw [hr], N6, rfl⟩
set_option maxRecDepth 65536 in
set_option maxHeartbeats 40000000 in
theorem rm_lca2_0 (l : Launch) (Z : State) (a0 : Array Value) (hw : ∀ d ∈ tables_1, d.before a0 Z = true) (fm : Value) (t : Addr) (kt : ClassId) (c0 : Int32) (c1 : Int32) (h0 : Heap) (n0 : Nat) (hn0 : n0 ≤ h0.size) (S_f : Sta Z Z.heap "jdk/internal/util/Preconditions" "SIOOBE_FORMATTER" "Ljava/util/function/BiFunction;" fm) (hfm : fm.isRef = true) (O0 : Old Z n0 h0) (P0 : Arv Z h0 t kt .byte (2 : Int32) [(.int c0), (.int c1)] (.int 0)) :
    Con l Z (⟨"java/lang/StringLatin1", "charAt", "([BI)C"⟩ : MethodName) jdk_43_method_2_code 2 (some .char) [] ({ frames := 2, cells := 0, slots := 0, locals := 27 } : Room) #[(.ref t), (.int (0 : Int32))] h0 (fun v h L => v = some (.int (c0 &&& (255 : Int32))) ∧ Fr n0 L ∧ h = h0) := by
  refine enter (Ls := #[.val (.ref t), .val (.int (0 : Int32))]) (plainFor_of_name pn_4) (fun m => by exact entry_eq rfl) ?_
  intro p e s m below meth cd_ s₁ S0 hx hby hml hret hlk hnm hown hZ X0 e0 k0
  have N0 := Fr.nil n0
  have k1 : To p.tables e below S0 (s₁.setTop (mkF m 2 #[.val (.ref t), .val (.int (0 : Int32))] [(.ref t), (.int (0 : Int32))])) := fun tt hq => k0 tt (by
    refine XS.iloadN X0.here hx rfl (hb hby d_jdk_43_method_2_code_0) rfl ?_
    refine XS.aloadN X0.here hx rfl (hb hby d_jdk_43_method_2_code_1) rfl rfl ?_
    exact hq)
  obtain ⟨cl2, Ar2, -, S2, M2, -, -⟩ := id P0
  have st2 := fun tt => X0.arraylength hx (by rw [e0]; exact Ar2.1) (State.isArrayOf_alike hZ.alike Ar2.2.1) (g := (mkF m 2 #[.val (.ref t), .val (.int (0 : Int32))] [(.ref t), (.int (0 : Int32))])) rfl rfl (hb hby d_jdk_43_method_2_code_2) tt
  rw [len_of S2 M2] at st2
  have k2 : To p.tables e below S0 (s₁.setTop (mkF m 3 #[.val (.ref t), .val (.int (0 : Int32))] [(.int (2 : Int32)), (.int (0 : Int32))])) := fun tt hq => k1 tt (st2 tt hq)
  obtain ⟨_, T3, L3, X3, ⟨rfl, Nq3, eq3⟩, k3a⟩ := callS' X0 hx hZ (y := (⟨"java/lang/String", "checkIndex", "(II)V"⟩ : MethodName)) hown (wq hw 176 rfl) (wq hw 95 rfl) (wq hw 3 rfl) (wq hw 96 rfl) (by decide) (backC (W := 0) (rm_chk l Z a0 hw fm (0 : Int32) (2 : Int32) h0 n0 (by omega) S_f hfm O0 (by decide) (by decide)) hZ (wq hw 96 rfl) (wq hw 3 rfl) (by decide) (by decide)) e0 (argsL := [(.int (0 : Int32)), (.int (2 : Int32))]) (rest := []) rfl rfl pd_7 rfl (by rw [hml]; rfl) (hb hby d_jdk_43_method_2_code_3) (Nat.le_of_eq rfl) (by decide) (by decide) k2
  have k3 : To p.tables e below S0 (T3.setTop (mkF m 6 #[.val (.ref t), .val (.int (0 : Int32))] [])) := k3a
  have N3 := N0.app Nq3
  have e3 : T3.heap = h0 := eq3
  have k4 : To p.tables e below S0 (T3.setTop (mkF m 8 #[.val (.ref t), .val (.int (0 : Int32))] [(.int (0 : Int32)), (.ref t)])) := fun tt hq => k3 tt (by
    refine XS.aloadN X3.here hx rfl (hb hby d_jdk_43_method_2_code_6) rfl rfl ?_
    refine XS.iloadN X3.here hx rfl (hb hby d_jdk_43_method_2_code_7) rfl ?_
    exact hq)
  obtain ⟨cl5, Ar5, -, S5, -, G5, -⟩ := id P0
  have hi5 := inb_of (j := (0 : Int32)) S5 ⟨by decide, by decide⟩
  have st5 := fun tt => X3.baloadBytes hx (j := (0 : Int32)) (v := (.int c0)) (by rw [e3]; exact Ar5.1) (State.isArrayOf_alike hZ.alike Ar5.2.1) Ar5.2.2 hi5 (G5.at hi5 rfl) (g := (mkF m 8 #[.val (.ref t), .val (.int (0 : Int32))] [(.int (0 : Int32)), (.ref t)])) rfl rfl (hb hby d_jdk_43_method_2_code_8) tt
  have k5 : To p.tables e below S0 (T3.setTop (mkF m 9 #[.val (.ref t), .val (.int (0 : Int32))] [(.int c0)])) := fun tt hq => k4 tt (st5 tt hq)
  have k6 : To p.tables e below S0 (T3.setTop (mkF m 14 #[.val (.ref t), .val (.int (0 : Int32))] [(.int ((c0 &&& (255 : Int32)).toUInt32.toUInt16.toUInt32.toInt32))])) := fun tt hq => k5 tt (by
    refine XS.sipush X3.here hx rfl (hb hby d_jdk_43_method_2_code_9) ?_
    refine XS.iand X3.here hx rfl (hb hby d_jdk_43_method_2_code_12) rfl ?_
    refine XS.i2c X3.here hx rfl (hb hby d_jdk_43_method_2_code_13) rfl ?_
    exact hq)
  have k7 : To p.tables e below S0 (T3.setTop (mkF m 14 #[.val (.ref t), .val (.int (0 : Int32))] [(.int (c0 &&& (255 : Int32)))])) := by have hq := k6; rw [i2c_mask] at hq; exact hq
  have hE := e3
  refine retInt X3 hx hret hlk (by simp) (own_narrowc _) (hb hby d_jdk_43_method_2_code_14) k7 ?_ (by decide) (by decide)
  try rw [hE]
  exact ⟨rfl, N3, rfl⟩
set_option maxRecDepth 65536 in
set_option maxHeartbeats 40000000 in
theorem rm_ca2_0 (l : Launch) (Z : State) (a0 : Array Value) (hw : ∀ d ∈ tables_1, d.before a0 Z = true) (zc : Int32) (fm : Value) (a : Addr) (t : Addr) (kt : ClassId) (c0 : Int32) (c1 : Int32) (r : Int32) (h0 : Heap) (n0 : Nat) (hn0 : n0 ≤ h0.size) (S_c : Sta Z Z.heap "java/lang/String" "COMPACT_STRINGS" "Z" (.int zc)) (hzc : ¬ zc = (0 : Int32)) (S_f : Sta Z Z.heap "jdk/internal/util/Preconditions" "SIOOBE_FORMATTER" "Ljava/util/function/BiFunction;" fm) (hfm : fm.isRef = true) (O0 : Old Z n0 h0) (P0 : Exa Z h0 a "java/lang/String") (P1 : Fld Z h0 a "java/lang/String" "value" "[B" (.ref t)) (P2 : Fld Z h0 a "java/lang/String" "coder" "B" (.int (0 : Int32))) (P3 : Arv Z h0 t kt .byte (2 : Int32) [(.int c0), (.int c1)] (.int 0)) (hr : (c0 &&& (255 : Int32)) = r) :
    Con l Z (⟨"java/lang/String", "charAt", "(I)C"⟩ : MethodName) jdk_42_method_56_code 2 (some .char) [] ({ frames := 3, cells := 0, slots := 0, locals := 40 } : Room) #[(.ref a), (.int (0 : Int32))] h0 (fun v h L => v = some (.int r) ∧ Fr n0 L ∧ h = h0) := by
  refine enter (Ls := #[.val (.ref a), .val (.int (0 : Int32))]) (plainFor_of_name pn_1) (fun m => by exact entry_eq rfl) ?_
  intro p e s m below meth cd_ s₁ S0 hx hby hml hret hlk hnm hown hZ X0 e0 k0
  have N0 := Fr.nil n0
  have k1 : To p.tables e below S0 (s₁.setTop (mkF m 1 #[.val (.ref a), .val (.int (0 : Int32))] [(.ref a)])) := fun tt hq => k0 tt (by
    refine XS.aloadN X0.here hx rfl (hb hby d_jdk_42_method_56_code_0) rfl rfl ?_
    exact hq)
  obtain ⟨_, T2, L2, X2, ⟨rfl, Nq2, eq2⟩, k2a⟩ := callV' X0 hx hZ (y := (⟨"java/lang/String", "isLatin1", "()Z"⟩ : MethodName)) (z := (⟨"java/lang/String", "isLatin1", "()Z"⟩ : MethodName)) hown (wq hw 89 rfl) (wq hw 90 rfl) (notFace_of_selects (args := #[]) (mvT hZ (wq hw 92 rfl))) (wq hw 92 rfl) (wq hw 91 rfl) (by decide) P0 (backC (W := 0) (rm_latin l Z a0 hw zc a h0 n0 (by omega) S_c hzc O0 P2) hZ (wq hw 93 rfl) (wq hw 3 rfl) (by decide) (by decide)) e0 (argsL := []) (rest := []) rfl rfl pd_6 rfl (by rw [hml]; rfl) (hb hby d_jdk_42_method_56_code_1) (Nat.le_of_eq rfl) (by decide) (by decide) k1
  have k2 : To p.tables e below S0 (T2.setTop (mkF m 4 #[.val (.ref a), .val (.int (0 : Int32))] [(.int (1 : Int32))])) := k2a
  have N2 := N0.app Nq2
  have e2 : T2.heap = h0 := eq2
  have k3 : To p.tables e below S0 (T2.setTop (mkF m 8 #[.val (.ref a), .val (.int (0 : Int32))] [(.ref a)])) := fun tt hq => k2 tt (by
    refine XS.ifNo X2.here hx rfl (hb hby d_jdk_42_method_56_code_4) rfl ((if0 _ _).trans (feq (by decide)).1) ?_
    refine XS.aloadN X2.here hx rfl (hb hby d_jdk_42_method_56_code_7) rfl rfl ?_
    exact hq)
  obtain ⟨T4, X4, e4, st4⟩ := getF X2 hx hZ hown (host := "") (Or.inl (wq hw 28 rfl)) Via.refl e2 P1 (g := (mkF m 8 #[.val (.ref a), .val (.int (0 : Int32))] [(.ref a)])) rfl rfl (hb hby d_jdk_42_method_56_code_8)
  have k4 : To p.tables e below S0 (T4.setTop (mkF m 11 #[.val (.ref a), .val (.int (0 : Int32))] [(.ref t)])) := fun tt hq => k3 tt (st4 tt hq)
  have k5 : To p.tables e below S0 (T4.setTop (mkF m 12 #[.val (.ref a), .val (.int (0 : Int32))] [(.int (0 : Int32)), (.ref t)])) := fun tt hq => k4 tt (by
    refine XS.iloadN X4.here hx rfl (hb hby d_jdk_42_method_56_code_11) rfl ?_
    exact hq)
  obtain ⟨_, T6, L6, X6, ⟨rfl, Nq6, eq6⟩, k6a⟩ := callS' X4 hx hZ (y := (⟨"java/lang/StringLatin1", "charAt", "([BI)C"⟩ : MethodName)) hown (wq hw 173 rfl) (wq hw 174 rfl) (wq hw 140 rfl) (wq hw 175 rfl) (by decide) (backC (W := 0) (rm_lca2_0 l Z a0 hw fm t kt c0 c1 h0 n0 (by omega) S_f hfm O0 P3) hZ (wq hw 175 rfl) (wq hw 140 rfl) (by decide) (by decide)) e4 (argsL := [(.ref t), (.int (0 : Int32))]) (rest := []) rfl rfl pd_8 rfl (by rw [hml]; rfl) (hb hby d_jdk_42_method_56_code_12) (Nat.le_of_eq rfl) (by decide) (by decide) k5
  have k6 : To p.tables e below S0 (T6.setTop (mkF m 15 #[.val (.ref a), .val (.int (0 : Int32))] [(.int (c0 &&& (255 : Int32)))])) := k6a
  have N6 := N2.app Nq6
  have e6 : T6.heap = h0 := eq6
  have hE := e6
  refine retInt X6 hx hret hlk (by simp) (own_narrowc _) (hb hby d_jdk_42_method_56_code_15) k6 ?_ (by decide) (by decide)
  try rw [hE]
  exact ⟨by rw [hr], N6, rfl⟩
set_option maxRecDepth 65536 in
set_option maxHeartbeats 40000000 in
theorem rm_lca2_1 (l : Launch) (Z : State) (a0 : Array Value) (hw : ∀ d ∈ tables_1, d.before a0 Z = true) (fm : Value) (t : Addr) (kt : ClassId) (c0 : Int32) (c1 : Int32) (h0 : Heap) (n0 : Nat) (hn0 : n0 ≤ h0.size) (S_f : Sta Z Z.heap "jdk/internal/util/Preconditions" "SIOOBE_FORMATTER" "Ljava/util/function/BiFunction;" fm) (hfm : fm.isRef = true) (O0 : Old Z n0 h0) (P0 : Arv Z h0 t kt .byte (2 : Int32) [(.int c0), (.int c1)] (.int 0)) :
    Con l Z (⟨"java/lang/StringLatin1", "charAt", "([BI)C"⟩ : MethodName) jdk_43_method_2_code 2 (some .char) [] ({ frames := 2, cells := 0, slots := 0, locals := 27 } : Room) #[(.ref t), (.int (1 : Int32))] h0 (fun v h L => v = some (.int (c1 &&& (255 : Int32))) ∧ Fr n0 L ∧ h = h0) := by
  refine enter (Ls := #[.val (.ref t), .val (.int (1 : Int32))]) (plainFor_of_name pn_4) (fun m => by exact entry_eq rfl) ?_
  intro p e s m below meth cd_ s₁ S0 hx hby hml hret hlk hnm hown hZ X0 e0 k0
  have N0 := Fr.nil n0
  have k1 : To p.tables e below S0 (s₁.setTop (mkF m 2 #[.val (.ref t), .val (.int (1 : Int32))] [(.ref t), (.int (1 : Int32))])) := fun tt hq => k0 tt (by
    refine XS.iloadN X0.here hx rfl (hb hby d_jdk_43_method_2_code_0) rfl ?_
    refine XS.aloadN X0.here hx rfl (hb hby d_jdk_43_method_2_code_1) rfl rfl ?_
    exact hq)
  obtain ⟨cl2, Ar2, -, S2, M2, -, -⟩ := id P0
  have st2 := fun tt => X0.arraylength hx (by rw [e0]; exact Ar2.1) (State.isArrayOf_alike hZ.alike Ar2.2.1) (g := (mkF m 2 #[.val (.ref t), .val (.int (1 : Int32))] [(.ref t), (.int (1 : Int32))])) rfl rfl (hb hby d_jdk_43_method_2_code_2) tt
  rw [len_of S2 M2] at st2
  have k2 : To p.tables e below S0 (s₁.setTop (mkF m 3 #[.val (.ref t), .val (.int (1 : Int32))] [(.int (2 : Int32)), (.int (1 : Int32))])) := fun tt hq => k1 tt (st2 tt hq)
  obtain ⟨_, T3, L3, X3, ⟨rfl, Nq3, eq3⟩, k3a⟩ := callS' X0 hx hZ (y := (⟨"java/lang/String", "checkIndex", "(II)V"⟩ : MethodName)) hown (wq hw 176 rfl) (wq hw 95 rfl) (wq hw 3 rfl) (wq hw 96 rfl) (by decide) (backC (W := 0) (rm_chk l Z a0 hw fm (1 : Int32) (2 : Int32) h0 n0 (by omega) S_f hfm O0 (by decide) (by decide)) hZ (wq hw 96 rfl) (wq hw 3 rfl) (by decide) (by decide)) e0 (argsL := [(.int (1 : Int32)), (.int (2 : Int32))]) (rest := []) rfl rfl pd_7 rfl (by rw [hml]; rfl) (hb hby d_jdk_43_method_2_code_3) (Nat.le_of_eq rfl) (by decide) (by decide) k2
  have k3 : To p.tables e below S0 (T3.setTop (mkF m 6 #[.val (.ref t), .val (.int (1 : Int32))] [])) := k3a
  have N3 := N0.app Nq3
  have e3 : T3.heap = h0 := eq3
  have k4 : To p.tables e below S0 (T3.setTop (mkF m 8 #[.val (.ref t), .val (.int (1 : Int32))] [(.int (1 : Int32)), (.ref t)])) := fun tt hq => k3 tt (by
    refine XS.aloadN X3.here hx rfl (hb hby d_jdk_43_method_2_code_6) rfl rfl ?_
    refine XS.iloadN X3.here hx rfl (hb hby d_jdk_43_method_2_code_7) rfl ?_
    exact hq)
  obtain ⟨cl5, Ar5, -, S5, -, G5, -⟩ := id P0
  have hi5 := inb_of (j := (1 : Int32)) S5 ⟨by decide, by decide⟩
  have st5 := fun tt => X3.baloadBytes hx (j := (1 : Int32)) (v := (.int c1)) (by rw [e3]; exact Ar5.1) (State.isArrayOf_alike hZ.alike Ar5.2.1) Ar5.2.2 hi5 (G5.at hi5 rfl) (g := (mkF m 8 #[.val (.ref t), .val (.int (1 : Int32))] [(.int (1 : Int32)), (.ref t)])) rfl rfl (hb hby d_jdk_43_method_2_code_8) tt
  have k5 : To p.tables e below S0 (T3.setTop (mkF m 9 #[.val (.ref t), .val (.int (1 : Int32))] [(.int c1)])) := fun tt hq => k4 tt (st5 tt hq)
  have k6 : To p.tables e below S0 (T3.setTop (mkF m 14 #[.val (.ref t), .val (.int (1 : Int32))] [(.int ((c1 &&& (255 : Int32)).toUInt32.toUInt16.toUInt32.toInt32))])) := fun tt hq => k5 tt (by
    refine XS.sipush X3.here hx rfl (hb hby d_jdk_43_method_2_code_9) ?_
    refine XS.iand X3.here hx rfl (hb hby d_jdk_43_method_2_code_12) rfl ?_
    refine XS.i2c X3.here hx rfl (hb hby d_jdk_43_method_2_code_13) rfl ?_
    exact hq)
  have k7 : To p.tables e below S0 (T3.setTop (mkF m 14 #[.val (.ref t), .val (.int (1 : Int32))] [(.int (c1 &&& (255 : Int32)))])) := by have hq := k6; rw [i2c_mask] at hq; exact hq
  have hE := e3
  refine retInt X3 hx hret hlk (by simp) (own_narrowc _) (hb hby d_jdk_43_method_2_code_14) k7 ?_ (by decide) (by decide)
  try rw [hE]
  exact ⟨rfl, N3, rfl⟩
set_option maxRecDepth 65536 in
set_option maxHeartbeats 40000000 in
theorem rm_ca2_1 (l : Launch) (Z : State) (a0 : Array Value) (hw : ∀ d ∈ tables_1, d.before a0 Z = true) (zc : Int32) (fm : Value) (a : Addr) (t : Addr) (kt : ClassId) (c0 : Int32) (c1 : Int32) (r : Int32) (h0 : Heap) (n0 : Nat) (hn0 : n0 ≤ h0.size) (S_c : Sta Z Z.heap "java/lang/String" "COMPACT_STRINGS" "Z" (.int zc)) (hzc : ¬ zc = (0 : Int32)) (S_f : Sta Z Z.heap "jdk/internal/util/Preconditions" "SIOOBE_FORMATTER" "Ljava/util/function/BiFunction;" fm) (hfm : fm.isRef = true) (O0 : Old Z n0 h0) (P0 : Exa Z h0 a "java/lang/String") (P1 : Fld Z h0 a "java/lang/String" "value" "[B" (.ref t)) (P2 : Fld Z h0 a "java/lang/String" "coder" "B" (.int (0 : Int32))) (P3 : Arv Z h0 t kt .byte (2 : Int32) [(.int c0), (.int c1)] (.int 0)) (hr : (c1 &&& (255 : Int32)) = r) :
    Con l Z (⟨"java/lang/String", "charAt", "(I)C"⟩ : MethodName) jdk_42_method_56_code 2 (some .char) [] ({ frames := 3, cells := 0, slots := 0, locals := 40 } : Room) #[(.ref a), (.int (1 : Int32))] h0 (fun v h L => v = some (.int r) ∧ Fr n0 L ∧ h = h0) := by
  refine enter (Ls := #[.val (.ref a), .val (.int (1 : Int32))]) (plainFor_of_name pn_1) (fun m => by exact entry_eq rfl) ?_
  intro p e s m below meth cd_ s₁ S0 hx hby hml hret hlk hnm hown hZ X0 e0 k0
  have N0 := Fr.nil n0
  have k1 : To p.tables e below S0 (s₁.setTop (mkF m 1 #[.val (.ref a), .val (.int (1 : Int32))] [(.ref a)])) := fun tt hq => k0 tt (by
    refine XS.aloadN X0.here hx rfl (hb hby d_jdk_42_method_56_code_0) rfl rfl ?_
    exact hq)
  obtain ⟨_, T2, L2, X2, ⟨rfl, Nq2, eq2⟩, k2a⟩ := callV' X0 hx hZ (y := (⟨"java/lang/String", "isLatin1", "()Z"⟩ : MethodName)) (z := (⟨"java/lang/String", "isLatin1", "()Z"⟩ : MethodName)) hown (wq hw 89 rfl) (wq hw 90 rfl) (notFace_of_selects (args := #[]) (mvT hZ (wq hw 92 rfl))) (wq hw 92 rfl) (wq hw 91 rfl) (by decide) P0 (backC (W := 0) (rm_latin l Z a0 hw zc a h0 n0 (by omega) S_c hzc O0 P2) hZ (wq hw 93 rfl) (wq hw 3 rfl) (by decide) (by decide)) e0 (argsL := []) (rest := []) rfl rfl pd_6 rfl (by rw [hml]; rfl) (hb hby d_jdk_42_method_56_code_1) (Nat.le_of_eq rfl) (by decide) (by decide) k1
  have k2 : To p.tables e below S0 (T2.setTop (mkF m 4 #[.val (.ref a), .val (.int (1 : Int32))] [(.int (1 : Int32))])) := k2a
  have N2 := N0.app Nq2
  have e2 : T2.heap = h0 := eq2
  have k3 : To p.tables e below S0 (T2.setTop (mkF m 8 #[.val (.ref a), .val (.int (1 : Int32))] [(.ref a)])) := fun tt hq => k2 tt (by
    refine XS.ifNo X2.here hx rfl (hb hby d_jdk_42_method_56_code_4) rfl ((if0 _ _).trans (feq (by decide)).1) ?_
    refine XS.aloadN X2.here hx rfl (hb hby d_jdk_42_method_56_code_7) rfl rfl ?_
    exact hq)
  obtain ⟨T4, X4, e4, st4⟩ := getF X2 hx hZ hown (host := "") (Or.inl (wq hw 28 rfl)) Via.refl e2 P1 (g := (mkF m 8 #[.val (.ref a), .val (.int (1 : Int32))] [(.ref a)])) rfl rfl (hb hby d_jdk_42_method_56_code_8)
  have k4 : To p.tables e below S0 (T4.setTop (mkF m 11 #[.val (.ref a), .val (.int (1 : Int32))] [(.ref t)])) := fun tt hq => k3 tt (st4 tt hq)
  have k5 : To p.tables e below S0 (T4.setTop (mkF m 12 #[.val (.ref a), .val (.int (1 : Int32))] [(.int (1 : Int32)), (.ref t)])) := fun tt hq => k4 tt (by
    refine XS.iloadN X4.here hx rfl (hb hby d_jdk_42_method_56_code_11) rfl ?_
    exact hq)
  obtain ⟨_, T6, L6, X6, ⟨rfl, Nq6, eq6⟩, k6a⟩ := callS' X4 hx hZ (y := (⟨"java/lang/StringLatin1", "charAt", "([BI)C"⟩ : MethodName)) hown (wq hw 173 rfl) (wq hw 174 rfl) (wq hw 140 rfl) (wq hw 175 rfl) (by decide) (backC (W := 0) (rm_lca2_1 l Z a0 hw fm t kt c0 c1 h0 n0 (by omega) S_f hfm O0 P3) hZ (wq hw 175 rfl) (wq hw 140 rfl) (by decide) (by decide)) e4 (argsL := [(.ref t), (.int (1 : Int32))]) (rest := []) rfl rfl pd_8 rfl (by rw [hml]; rfl) (hb hby d_jdk_42_method_56_code_12) (Nat.le_of_eq rfl) (by decide) (by decide) k5
  have k6 : To p.tables e below S0 (T6.setTop (mkF m 15 #[.val (.ref a), .val (.int (1 : Int32))] [(.int (c1 &&& (255 : Int32)))])) := k6a
  have N6 := N2.app Nq6
  have e6 : T6.heap = h0 := eq6
  have hE := e6
  refine retInt X6 hx hret hlk (by simp) (own_narrowc _) (hb hby d_jdk_42_method_56_code_15) k6 ?_ (by decide) (by decide)
  try rw [hE]
  exact ⟨by rw [hr], N6, rfl⟩
set_option maxRecDepth 65536 in
set_option maxHeartbeats 40000000 in
theorem rm_lca3_0 (l : Launch) (Z : State) (a0 : Array Value) (hw : ∀ d ∈ tables_1, d.before a0 Z = true) (fm : Value) (t : Addr) (kt : ClassId) (c0 : Int32) (c1 : Int32) (c2 : Int32) (h0 : Heap) (n0 : Nat) (hn0 : n0 ≤ h0.size) (S_f : Sta Z Z.heap "jdk/internal/util/Preconditions" "SIOOBE_FORMATTER" "Ljava/util/function/BiFunction;" fm) (hfm : fm.isRef = true) (O0 : Old Z n0 h0) (P0 : Arv Z h0 t kt .byte (3 : Int32) [(.int c0), (.int c1), (.int c2)] (.int 0)) :
    Con l Z (⟨"java/lang/StringLatin1", "charAt", "([BI)C"⟩ : MethodName) jdk_43_method_2_code 2 (some .char) [] ({ frames := 2, cells := 0, slots := 0, locals := 27 } : Room) #[(.ref t), (.int (0 : Int32))] h0 (fun v h L => v = some (.int (c0 &&& (255 : Int32))) ∧ Fr n0 L ∧ h = h0) := by
  refine enter (Ls := #[.val (.ref t), .val (.int (0 : Int32))]) (plainFor_of_name pn_4) (fun m => by exact entry_eq rfl) ?_
  intro p e s m below meth cd_ s₁ S0 hx hby hml hret hlk hnm hown hZ X0 e0 k0
  have N0 := Fr.nil n0
  have k1 : To p.tables e below S0 (s₁.setTop (mkF m 2 #[.val (.ref t), .val (.int (0 : Int32))] [(.ref t), (.int (0 : Int32))])) := fun tt hq => k0 tt (by
    refine XS.iloadN X0.here hx rfl (hb hby d_jdk_43_method_2_code_0) rfl ?_
    refine XS.aloadN X0.here hx rfl (hb hby d_jdk_43_method_2_code_1) rfl rfl ?_
    exact hq)
  obtain ⟨cl2, Ar2, -, S2, M2, -, -⟩ := id P0
  have st2 := fun tt => X0.arraylength hx (by rw [e0]; exact Ar2.1) (State.isArrayOf_alike hZ.alike Ar2.2.1) (g := (mkF m 2 #[.val (.ref t), .val (.int (0 : Int32))] [(.ref t), (.int (0 : Int32))])) rfl rfl (hb hby d_jdk_43_method_2_code_2) tt
  rw [len_of S2 M2] at st2
  have k2 : To p.tables e below S0 (s₁.setTop (mkF m 3 #[.val (.ref t), .val (.int (0 : Int32))] [(.int (3 : Int32)), (.int (0 : Int32))])) := fun tt hq => k1 tt (st2 tt hq)
  obtain ⟨_, T3, L3, X3, ⟨rfl, Nq3, eq3⟩, k3a⟩ := callS' X0 hx hZ (y := (⟨"java/lang/String", "checkIndex", "(II)V"⟩ : MethodName)) hown (wq hw 176 rfl) (wq hw 95 rfl) (wq hw 3 rfl) (wq hw 96 rfl) (by decide) (backC (W := 0) (rm_chk l Z a0 hw fm (0 : Int32) (3 : Int32) h0 n0 (by omega) S_f hfm O0 (by decide) (by decide)) hZ (wq hw 96 rfl) (wq hw 3 rfl) (by decide) (by decide)) e0 (argsL := [(.int (0 : Int32)), (.int (3 : Int32))]) (rest := []) rfl rfl pd_7 rfl (by rw [hml]; rfl) (hb hby d_jdk_43_method_2_code_3) (Nat.le_of_eq rfl) (by decide) (by decide) k2
  have k3 : To p.tables e below S0 (T3.setTop (mkF m 6 #[.val (.ref t), .val (.int (0 : Int32))] [])) := k3a
  have N3 := N0.app Nq3
  have e3 : T3.heap = h0 := eq3
  have k4 : To p.tables e below S0 (T3.setTop (mkF m 8 #[.val (.ref t), .val (.int (0 : Int32))] [(.int (0 : Int32)), (.ref t)])) := fun tt hq => k3 tt (by
    refine XS.aloadN X3.here hx rfl (hb hby d_jdk_43_method_2_code_6) rfl rfl ?_
    refine XS.iloadN X3.here hx rfl (hb hby d_jdk_43_method_2_code_7) rfl ?_
    exact hq)
  obtain ⟨cl5, Ar5, -, S5, -, G5, -⟩ := id P0
  have hi5 := inb_of (j := (0 : Int32)) S5 ⟨by decide, by decide⟩
  have st5 := fun tt => X3.baloadBytes hx (j := (0 : Int32)) (v := (.int c0)) (by rw [e3]; exact Ar5.1) (State.isArrayOf_alike hZ.alike Ar5.2.1) Ar5.2.2 hi5 (G5.at hi5 rfl) (g := (mkF m 8 #[.val (.ref t), .val (.int (0 : Int32))] [(.int (0 : Int32)), (.ref t)])) rfl rfl (hb hby d_jdk_43_method_2_code_8) tt
  have k5 : To p.tables e below S0 (T3.setTop (mkF m 9 #[.val (.ref t), .val (.int (0 : Int32))] [(.int c0)])) := fun tt hq => k4 tt (st5 tt hq)
  have k6 : To p.tables e below S0 (T3.setTop (mkF m 14 #[.val (.ref t), .val (.int (0 : Int32))] [(.int ((c0 &&& (255 : Int32)).toUInt32.toUInt16.toUInt32.toInt32))])) := fun tt hq => k5 tt (by
    refine XS.sipush X3.here hx rfl (hb hby d_jdk_43_method_2_code_9) ?_
    refine XS.iand X3.here hx rfl (hb hby d_jdk_43_method_2_code_12) rfl ?_
    refine XS.i2c X3.here hx rfl (hb hby d_jdk_43_method_2_code_13) rfl ?_
    exact hq)
  have k7 : To p.tables e below S0 (T3.setTop (mkF m 14 #[.val (.ref t), .val (.int (0 : Int32))] [(.int (c0 &&& (255 : Int32)))])) := by have hq := k6; rw [i2c_mask] at hq; exact hq
  have hE := e3
  refine retInt X3 hx hret hlk (by simp) (own_narrowc _) (hb hby d_jdk_43_method_2_code_14) k7 ?_ (by decide) (by decide)
  try rw [hE]
  exact ⟨rfl, N3, rfl⟩
set_option maxRecDepth 65536 in
set_option maxHeartbeats 40000000 in
theorem rm_ca3_0 (l : Launch) (Z : State) (a0 : Array Value) (hw : ∀ d ∈ tables_1, d.before a0 Z = true) (zc : Int32) (fm : Value) (a : Addr) (t : Addr) (kt : ClassId) (c0 : Int32) (c1 : Int32) (c2 : Int32) (r : Int32) (h0 : Heap) (n0 : Nat) (hn0 : n0 ≤ h0.size) (S_c : Sta Z Z.heap "java/lang/String" "COMPACT_STRINGS" "Z" (.int zc)) (hzc : ¬ zc = (0 : Int32)) (S_f : Sta Z Z.heap "jdk/internal/util/Preconditions" "SIOOBE_FORMATTER" "Ljava/util/function/BiFunction;" fm) (hfm : fm.isRef = true) (O0 : Old Z n0 h0) (P0 : Exa Z h0 a "java/lang/String") (P1 : Fld Z h0 a "java/lang/String" "value" "[B" (.ref t)) (P2 : Fld Z h0 a "java/lang/String" "coder" "B" (.int (0 : Int32))) (P3 : Arv Z h0 t kt .byte (3 : Int32) [(.int c0), (.int c1), (.int c2)] (.int 0)) (hr : (c0 &&& (255 : Int32)) = r) :
    Con l Z (⟨"java/lang/String", "charAt", "(I)C"⟩ : MethodName) jdk_42_method_56_code 2 (some .char) [] ({ frames := 3, cells := 0, slots := 0, locals := 40 } : Room) #[(.ref a), (.int (0 : Int32))] h0 (fun v h L => v = some (.int r) ∧ Fr n0 L ∧ h = h0) := by
  refine enter (Ls := #[.val (.ref a), .val (.int (0 : Int32))]) (plainFor_of_name pn_1) (fun m => by exact entry_eq rfl) ?_
  intro p e s m below meth cd_ s₁ S0 hx hby hml hret hlk hnm hown hZ X0 e0 k0
  have N0 := Fr.nil n0
  have k1 : To p.tables e below S0 (s₁.setTop (mkF m 1 #[.val (.ref a), .val (.int (0 : Int32))] [(.ref a)])) := fun tt hq => k0 tt (by
    refine XS.aloadN X0.here hx rfl (hb hby d_jdk_42_method_56_code_0) rfl rfl ?_
    exact hq)
  obtain ⟨_, T2, L2, X2, ⟨rfl, Nq2, eq2⟩, k2a⟩ := callV' X0 hx hZ (y := (⟨"java/lang/String", "isLatin1", "()Z"⟩ : MethodName)) (z := (⟨"java/lang/String", "isLatin1", "()Z"⟩ : MethodName)) hown (wq hw 89 rfl) (wq hw 90 rfl) (notFace_of_selects (args := #[]) (mvT hZ (wq hw 92 rfl))) (wq hw 92 rfl) (wq hw 91 rfl) (by decide) P0 (backC (W := 0) (rm_latin l Z a0 hw zc a h0 n0 (by omega) S_c hzc O0 P2) hZ (wq hw 93 rfl) (wq hw 3 rfl) (by decide) (by decide)) e0 (argsL := []) (rest := []) rfl rfl pd_6 rfl (by rw [hml]; rfl) (hb hby d_jdk_42_method_56_code_1) (Nat.le_of_eq rfl) (by decide) (by decide) k1
  have k2 : To p.tables e below S0 (T2.setTop (mkF m 4 #[.val (.ref a), .val (.int (0 : Int32))] [(.int (1 : Int32))])) := k2a
  have N2 := N0.app Nq2
  have e2 : T2.heap = h0 := eq2
  have k3 : To p.tables e below S0 (T2.setTop (mkF m 8 #[.val (.ref a), .val (.int (0 : Int32))] [(.ref a)])) := fun tt hq => k2 tt (by
    refine XS.ifNo X2.here hx rfl (hb hby d_jdk_42_method_56_code_4) rfl ((if0 _ _).trans (feq (by decide)).1) ?_
    refine XS.aloadN X2.here hx rfl (hb hby d_jdk_42_method_56_code_7) rfl rfl ?_
    exact hq)
  obtain ⟨T4, X4, e4, st4⟩ := getF X2 hx hZ hown (host := "") (Or.inl (wq hw 28 rfl)) Via.refl e2 P1 (g := (mkF m 8 #[.val (.ref a), .val (.int (0 : Int32))] [(.ref a)])) rfl rfl (hb hby d_jdk_42_method_56_code_8)
  have k4 : To p.tables e below S0 (T4.setTop (mkF m 11 #[.val (.ref a), .val (.int (0 : Int32))] [(.ref t)])) := fun tt hq => k3 tt (st4 tt hq)
  have k5 : To p.tables e below S0 (T4.setTop (mkF m 12 #[.val (.ref a), .val (.int (0 : Int32))] [(.int (0 : Int32)), (.ref t)])) := fun tt hq => k4 tt (by
    refine XS.iloadN X4.here hx rfl (hb hby d_jdk_42_method_56_code_11) rfl ?_
    exact hq)
  obtain ⟨_, T6, L6, X6, ⟨rfl, Nq6, eq6⟩, k6a⟩ := callS' X4 hx hZ (y := (⟨"java/lang/StringLatin1", "charAt", "([BI)C"⟩ : MethodName)) hown (wq hw 173 rfl) (wq hw 174 rfl) (wq hw 140 rfl) (wq hw 175 rfl) (by decide) (backC (W := 0) (rm_lca3_0 l Z a0 hw fm t kt c0 c1 c2 h0 n0 (by omega) S_f hfm O0 P3) hZ (wq hw 175 rfl) (wq hw 140 rfl) (by decide) (by decide)) e4 (argsL := [(.ref t), (.int (0 : Int32))]) (rest := []) rfl rfl pd_8 rfl (by rw [hml]; rfl) (hb hby d_jdk_42_method_56_code_12) (Nat.le_of_eq rfl) (by decide) (by decide) k5
  have k6 : To p.tables e below S0 (T6.setTop (mkF m 15 #[.val (.ref a), .val (.int (0 : Int32))] [(.int (c0 &&& (255 : Int32)))])) := k6a
  have N6 := N2.app Nq6
  have e6 : T6.heap = h0 := eq6
  have hE := e6
  refine retInt X6 hx hret hlk (by simp) (own_narrowc _) (hb hby d_jdk_42_method_56_code_15) k6 ?_ (by decide) (by decide)
  try rw [hE]
  exact ⟨by rw [hr], N6, rfl⟩
set_option maxRecDepth 65536 in
set_option maxHeartbeats 40000000 in
theorem rm_lca3_1 (l : Launch) (Z : State) (a0 : Array Value) (hw : ∀ d ∈ tables_1, d.before a0 Z = true) (fm : Value) (t : Addr) (kt : ClassId) (c0 : Int32) (c1 : Int32) (c2 : Int32) (h0 : Heap) (n0 : Nat) (hn0 : n0 ≤ h0.size) (S_f : Sta Z Z.heap "jdk/internal/util/Preconditions" "SIOOBE_FORMATTER" "Ljava/util/function/BiFunction;" fm) (hfm : fm.isRef = true) (O0 : Old Z n0 h0) (P0 : Arv Z h0 t kt .byte (3 : Int32) [(.int c0), (.int c1), (.int c2)] (.int 0)) :
    Con l Z (⟨"java/lang/StringLatin1", "charAt", "([BI)C"⟩ : MethodName) jdk_43_method_2_code 2 (some .char) [] ({ frames := 2, cells := 0, slots := 0, locals := 27 } : Room) #[(.ref t), (.int (1 : Int32))] h0 (fun v h L => v = some (.int (c1 &&& (255 : Int32))) ∧ Fr n0 L ∧ h = h0) := by
  refine enter (Ls := #[.val (.ref t), .val (.int (1 : Int32))]) (plainFor_of_name pn_4) (fun m => by exact entry_eq rfl) ?_
  intro p e s m below meth cd_ s₁ S0 hx hby hml hret hlk hnm hown hZ X0 e0 k0
  have N0 := Fr.nil n0
  have k1 : To p.tables e below S0 (s₁.setTop (mkF m 2 #[.val (.ref t), .val (.int (1 : Int32))] [(.ref t), (.int (1 : Int32))])) := fun tt hq => k0 tt (by
    refine XS.iloadN X0.here hx rfl (hb hby d_jdk_43_method_2_code_0) rfl ?_
    refine XS.aloadN X0.here hx rfl (hb hby d_jdk_43_method_2_code_1) rfl rfl ?_
    exact hq)
  obtain ⟨cl2, Ar2, -, S2, M2, -, -⟩ := id P0
  have st2 := fun tt => X0.arraylength hx (by rw [e0]; exact Ar2.1) (State.isArrayOf_alike hZ.alike Ar2.2.1) (g := (mkF m 2 #[.val (.ref t), .val (.int (1 : Int32))] [(.ref t), (.int (1 : Int32))])) rfl rfl (hb hby d_jdk_43_method_2_code_2) tt
  rw [len_of S2 M2] at st2
  have k2 : To p.tables e below S0 (s₁.setTop (mkF m 3 #[.val (.ref t), .val (.int (1 : Int32))] [(.int (3 : Int32)), (.int (1 : Int32))])) := fun tt hq => k1 tt (st2 tt hq)
  obtain ⟨_, T3, L3, X3, ⟨rfl, Nq3, eq3⟩, k3a⟩ := callS' X0 hx hZ (y := (⟨"java/lang/String", "checkIndex", "(II)V"⟩ : MethodName)) hown (wq hw 176 rfl) (wq hw 95 rfl) (wq hw 3 rfl) (wq hw 96 rfl) (by decide) (backC (W := 0) (rm_chk l Z a0 hw fm (1 : Int32) (3 : Int32) h0 n0 (by omega) S_f hfm O0 (by decide) (by decide)) hZ (wq hw 96 rfl) (wq hw 3 rfl) (by decide) (by decide)) e0 (argsL := [(.int (1 : Int32)), (.int (3 : Int32))]) (rest := []) rfl rfl pd_7 rfl (by rw [hml]; rfl) (hb hby d_jdk_43_method_2_code_3) (Nat.le_of_eq rfl) (by decide) (by decide) k2
  have k3 : To p.tables e below S0 (T3.setTop (mkF m 6 #[.val (.ref t), .val (.int (1 : Int32))] [])) := k3a
  have N3 := N0.app Nq3
  have e3 : T3.heap = h0 := eq3
  have k4 : To p.tables e below S0 (T3.setTop (mkF m 8 #[.val (.ref t), .val (.int (1 : Int32))] [(.int (1 : Int32)), (.ref t)])) := fun tt hq => k3 tt (by
    refine XS.aloadN X3.here hx rfl (hb hby d_jdk_43_method_2_code_6) rfl rfl ?_
    refine XS.iloadN X3.here hx rfl (hb hby d_jdk_43_method_2_code_7) rfl ?_
    exact hq)
  obtain ⟨cl5, Ar5, -, S5, -, G5, -⟩ := id P0
  have hi5 := inb_of (j := (1 : Int32)) S5 ⟨by decide, by decide⟩
  have st5 := fun tt => X3.baloadBytes hx (j := (1 : Int32)) (v := (.int c1)) (by rw [e3]; exact Ar5.1) (State.isArrayOf_alike hZ.alike Ar5.2.1) Ar5.2.2 hi5 (G5.at hi5 rfl) (g := (mkF m 8 #[.val (.ref t), .val (.int (1 : Int32))] [(.int (1 : Int32)), (.ref t)])) rfl rfl (hb hby d_jdk_43_method_2_code_8) tt
  have k5 : To p.tables e below S0 (T3.setTop (mkF m 9 #[.val (.ref t), .val (.int (1 : Int32))] [(.int c1)])) := fun tt hq => k4 tt (st5 tt hq)
  have k6 : To p.tables e below S0 (T3.setTop (mkF m 14 #[.val (.ref t), .val (.int (1 : Int32))] [(.int ((c1 &&& (255 : Int32)).toUInt32.toUInt16.toUInt32.toInt32))])) := fun tt hq => k5 tt (by
    refine XS.sipush X3.here hx rfl (hb hby d_jdk_43_method_2_code_9) ?_
    refine XS.iand X3.here hx rfl (hb hby d_jdk_43_method_2_code_12) rfl ?_
    refine XS.i2c X3.here hx rfl (hb hby d_jdk_43_method_2_code_13) rfl ?_
    exact hq)
  have k7 : To p.tables e below S0 (T3.setTop (mkF m 14 #[.val (.ref t), .val (.int (1 : Int32))] [(.int (c1 &&& (255 : Int32)))])) := by have hq := k6; rw [i2c_mask] at hq; exact hq
  have hE := e3
  refine retInt X3 hx hret hlk (by simp) (own_narrowc _) (hb hby d_jdk_43_method_2_code_14) k7 ?_ (by decide) (by decide)
  try rw [hE]
  exact ⟨rfl, N3, rfl⟩
set_option maxRecDepth 65536 in
set_option maxHeartbeats 40000000 in
theorem rm_ca3_1 (l : Launch) (Z : State) (a0 : Array Value) (hw : ∀ d ∈ tables_1, d.before a0 Z = true) (zc : Int32) (fm : Value) (a : Addr) (t : Addr) (kt : ClassId) (c0 : Int32) (c1 : Int32) (c2 : Int32) (r : Int32) (h0 : Heap) (n0 : Nat) (hn0 : n0 ≤ h0.size) (S_c : Sta Z Z.heap "java/lang/String" "COMPACT_STRINGS" "Z" (.int zc)) (hzc : ¬ zc = (0 : Int32)) (S_f : Sta Z Z.heap "jdk/internal/util/Preconditions" "SIOOBE_FORMATTER" "Ljava/util/function/BiFunction;" fm) (hfm : fm.isRef = true) (O0 : Old Z n0 h0) (P0 : Exa Z h0 a "java/lang/String") (P1 : Fld Z h0 a "java/lang/String" "value" "[B" (.ref t)) (P2 : Fld Z h0 a "java/lang/String" "coder" "B" (.int (0 : Int32))) (P3 : Arv Z h0 t kt .byte (3 : Int32) [(.int c0), (.int c1), (.int c2)] (.int 0)) (hr : (c1 &&& (255 : Int32)) = r) :
    Con l Z (⟨"java/lang/String", "charAt", "(I)C"⟩ : MethodName) jdk_42_method_56_code 2 (some .char) [] ({ frames := 3, cells := 0, slots := 0, locals := 40 } : Room) #[(.ref a), (.int (1 : Int32))] h0 (fun v h L => v = some (.int r) ∧ Fr n0 L ∧ h = h0) := by
  refine enter (Ls := #[.val (.ref a), .val (.int (1 : Int32))]) (plainFor_of_name pn_1) (fun m => by exact entry_eq rfl) ?_
  intro p e s m below meth cd_ s₁ S0 hx hby hml hret hlk hnm hown hZ X0 e0 k0
  have N0 := Fr.nil n0
  have k1 : To p.tables e below S0 (s₁.setTop (mkF m 1 #[.val (.ref a), .val (.int (1 : Int32))] [(.ref a)])) := fun tt hq => k0 tt (by
    refine XS.aloadN X0.here hx rfl (hb hby d_jdk_42_method_56_code_0) rfl rfl ?_
    exact hq)
  obtain ⟨_, T2, L2, X2, ⟨rfl, Nq2, eq2⟩, k2a⟩ := callV' X0 hx hZ (y := (⟨"java/lang/String", "isLatin1", "()Z"⟩ : MethodName)) (z := (⟨"java/lang/String", "isLatin1", "()Z"⟩ : MethodName)) hown (wq hw 89 rfl) (wq hw 90 rfl) (notFace_of_selects (args := #[]) (mvT hZ (wq hw 92 rfl))) (wq hw 92 rfl) (wq hw 91 rfl) (by decide) P0 (backC (W := 0) (rm_latin l Z a0 hw zc a h0 n0 (by omega) S_c hzc O0 P2) hZ (wq hw 93 rfl) (wq hw 3 rfl) (by decide) (by decide)) e0 (argsL := []) (rest := []) rfl rfl pd_6 rfl (by rw [hml]; rfl) (hb hby d_jdk_42_method_56_code_1) (Nat.le_of_eq rfl) (by decide) (by decide) k1
  have k2 : To p.tables e below S0 (T2.setTop (mkF m 4 #[.val (.ref a), .val (.int (1 : Int32))] [(.int (1 : Int32))])) := k2a
  have N2 := N0.app Nq2
  have e2 : T2.heap = h0 := eq2
  have k3 : To p.tables e below S0 (T2.setTop (mkF m 8 #[.val (.ref a), .val (.int (1 : Int32))] [(.ref a)])) := fun tt hq => k2 tt (by
    refine XS.ifNo X2.here hx rfl (hb hby d_jdk_42_method_56_code_4) rfl ((if0 _ _).trans (feq (by decide)).1) ?_
    refine XS.aloadN X2.here hx rfl (hb hby d_jdk_42_method_56_code_7) rfl rfl ?_
    exact hq)
  obtain ⟨T4, X4, e4, st4⟩ := getF X2 hx hZ hown (host := "") (Or.inl (wq hw 28 rfl)) Via.refl e2 P1 (g := (mkF m 8 #[.val (.ref a), .val (.int (1 : Int32))] [(.ref a)])) rfl rfl (hb hby d_jdk_42_method_56_code_8)
  have k4 : To p.tables e below S0 (T4.setTop (mkF m 11 #[.val (.ref a), .val (.int (1 : Int32))] [(.ref t)])) := fun tt hq => k3 tt (st4 tt hq)
  have k5 : To p.tables e below S0 (T4.setTop (mkF m 12 #[.val (.ref a), .val (.int (1 : Int32))] [(.int (1 : Int32)), (.ref t)])) := fun tt hq => k4 tt (by
    refine XS.iloadN X4.here hx rfl (hb hby d_jdk_42_method_56_code_11) rfl ?_
    exact hq)
  obtain ⟨_, T6, L6, X6, ⟨rfl, Nq6, eq6⟩, k6a⟩ := callS' X4 hx hZ (y := (⟨"java/lang/StringLatin1", "charAt", "([BI)C"⟩ : MethodName)) hown (wq hw 173 rfl) (wq hw 174 rfl) (wq hw 140 rfl) (wq hw 175 rfl) (by decide) (backC (W := 0) (rm_lca3_1 l Z a0 hw fm t kt c0 c1 c2 h0 n0 (by omega) S_f hfm O0 P3) hZ (wq hw 175 rfl) (wq hw 140 rfl) (by decide) (by decide)) e4 (argsL := [(.ref t), (.int (1 : Int32))]) (rest := []) rfl rfl pd_8 rfl (by rw [hml]; rfl) (hb hby d_jdk_42_method_56_code_12) (Nat.le_of_eq rfl) (by decide) (by decide) k5
  have k6 : To p.tables e below S0 (T6.setTop (mkF m 15 #[.val (.ref a), .val (.int (1 : Int32))] [(.int (c1 &&& (255 : Int32)))])) := k6a
  have N6 := N2.app Nq6
  have e6 : T6.heap = h0 := eq6
  have hE := e6
  refine retInt X6 hx hret hlk (by simp) (own_narrowc _) (hb hby d_jdk_42_method_56_code_15) k6 ?_ (by decide) (by decide)
  try rw [hE]
  exact ⟨by rw [hr], N6, rfl⟩
set_option maxRecDepth 65536 in
set_option maxHeartbeats 40000000 in
theorem rm_lca3_2 (l : Launch) (Z : State) (a0 : Array Value) (hw : ∀ d ∈ tables_1, d.before a0 Z = true) (fm : Value) (t : Addr) (kt : ClassId) (c0 : Int32) (c1 : Int32) (c2 : Int32) (h0 : Heap) (n0 : Nat) (hn0 : n0 ≤ h0.size) (S_f : Sta Z Z.heap "jdk/internal/util/Preconditions" "SIOOBE_FORMATTER" "Ljava/util/function/BiFunction;" fm) (hfm : fm.isRef = true) (O0 : Old Z n0 h0) (P0 : Arv Z h0 t kt .byte (3 : Int32) [(.int c0), (.int c1), (.int c2)] (.int 0)) :
    Con l Z (⟨"java/lang/StringLatin1", "charAt", "([BI)C"⟩ : MethodName) jdk_43_method_2_code 2 (some .char) [] ({ frames := 2, cells := 0, slots := 0, locals := 27 } : Room) #[(.ref t), (.int (2 : Int32))] h0 (fun v h L => v = some (.int (c2 &&& (255 : Int32))) ∧ Fr n0 L ∧ h = h0) := by
  refine enter (Ls := #[.val (.ref t), .val (.int (2 : Int32))]) (plainFor_of_name pn_4) (fun m => by exact entry_eq rfl) ?_
  intro p e s m below meth cd_ s₁ S0 hx hby hml hret hlk hnm hown hZ X0 e0 k0
  have N0 := Fr.nil n0
  have k1 : To p.tables e below S0 (s₁.setTop (mkF m 2 #[.val (.ref t), .val (.int (2 : Int32))] [(.ref t), (.int (2 : Int32))])) := fun tt hq => k0 tt (by
    refine XS.iloadN X0.here hx rfl (hb hby d_jdk_43_method_2_code_0) rfl ?_
    refine XS.aloadN X0.here hx rfl (hb hby d_jdk_43_method_2_code_1) rfl rfl ?_
    exact hq)
  obtain ⟨cl2, Ar2, -, S2, M2, -, -⟩ := id P0
  have st2 := fun tt => X0.arraylength hx (by rw [e0]; exact Ar2.1) (State.isArrayOf_alike hZ.alike Ar2.2.1) (g := (mkF m 2 #[.val (.ref t), .val (.int (2 : Int32))] [(.ref t), (.int (2 : Int32))])) rfl rfl (hb hby d_jdk_43_method_2_code_2) tt
  rw [len_of S2 M2] at st2
  have k2 : To p.tables e below S0 (s₁.setTop (mkF m 3 #[.val (.ref t), .val (.int (2 : Int32))] [(.int (3 : Int32)), (.int (2 : Int32))])) := fun tt hq => k1 tt (st2 tt hq)
  obtain ⟨_, T3, L3, X3, ⟨rfl, Nq3, eq3⟩, k3a⟩ := callS' X0 hx hZ (y := (⟨"java/lang/String", "checkIndex", "(II)V"⟩ : MethodName)) hown (wq hw 176 rfl) (wq hw 95 rfl) (wq hw 3 rfl) (wq hw 96 rfl) (by decide) (backC (W := 0) (rm_chk l Z a0 hw fm (2 : Int32) (3 : Int32) h0 n0 (by omega) S_f hfm O0 (by decide) (by decide)) hZ (wq hw 96 rfl) (wq hw 3 rfl) (by decide) (by decide)) e0 (argsL := [(.int (2 : Int32)), (.int (3 : Int32))]) (rest := []) rfl rfl pd_7 rfl (by rw [hml]; rfl) (hb hby d_jdk_43_method_2_code_3) (Nat.le_of_eq rfl) (by decide) (by decide) k2
  have k3 : To p.tables e below S0 (T3.setTop (mkF m 6 #[.val (.ref t), .val (.int (2 : Int32))] [])) := k3a
  have N3 := N0.app Nq3
  have e3 : T3.heap = h0 := eq3
  have k4 : To p.tables e below S0 (T3.setTop (mkF m 8 #[.val (.ref t), .val (.int (2 : Int32))] [(.int (2 : Int32)), (.ref t)])) := fun tt hq => k3 tt (by
    refine XS.aloadN X3.here hx rfl (hb hby d_jdk_43_method_2_code_6) rfl rfl ?_
    refine XS.iloadN X3.here hx rfl (hb hby d_jdk_43_method_2_code_7) rfl ?_
    exact hq)
  obtain ⟨cl5, Ar5, -, S5, -, G5, -⟩ := id P0
  have hi5 := inb_of (j := (2 : Int32)) S5 ⟨by decide, by decide⟩
  have st5 := fun tt => X3.baloadBytes hx (j := (2 : Int32)) (v := (.int c2)) (by rw [e3]; exact Ar5.1) (State.isArrayOf_alike hZ.alike Ar5.2.1) Ar5.2.2 hi5 (G5.at hi5 rfl) (g := (mkF m 8 #[.val (.ref t), .val (.int (2 : Int32))] [(.int (2 : Int32)), (.ref t)])) rfl rfl (hb hby d_jdk_43_method_2_code_8) tt
  have k5 : To p.tables e below S0 (T3.setTop (mkF m 9 #[.val (.ref t), .val (.int (2 : Int32))] [(.int c2)])) := fun tt hq => k4 tt (st5 tt hq)
  have k6 : To p.tables e below S0 (T3.setTop (mkF m 14 #[.val (.ref t), .val (.int (2 : Int32))] [(.int ((c2 &&& (255 : Int32)).toUInt32.toUInt16.toUInt32.toInt32))])) := fun tt hq => k5 tt (by
    refine XS.sipush X3.here hx rfl (hb hby d_jdk_43_method_2_code_9) ?_
    refine XS.iand X3.here hx rfl (hb hby d_jdk_43_method_2_code_12) rfl ?_
    refine XS.i2c X3.here hx rfl (hb hby d_jdk_43_method_2_code_13) rfl ?_
    exact hq)
  have k7 : To p.tables e below S0 (T3.setTop (mkF m 14 #[.val (.ref t), .val (.int (2 : Int32))] [(.int (c2 &&& (255 : Int32)))])) := by have hq := k6; rw [i2c_mask] at hq; exact hq
  have hE := e3
  refine retInt X3 hx hret hlk (by simp) (own_narrowc _) (hb hby d_jdk_43_method_2_code_14) k7 ?_ (by decide) (by decide)
  try rw [hE]
  exact ⟨rfl, N3, rfl⟩
set_option maxRecDepth 65536 in
set_option maxHeartbeats 40000000 in
theorem rm_ca3_2 (l : Launch) (Z : State) (a0 : Array Value) (hw : ∀ d ∈ tables_1, d.before a0 Z = true) (zc : Int32) (fm : Value) (a : Addr) (t : Addr) (kt : ClassId) (c0 : Int32) (c1 : Int32) (c2 : Int32) (r : Int32) (h0 : Heap) (n0 : Nat) (hn0 : n0 ≤ h0.size) (S_c : Sta Z Z.heap "java/lang/String" "COMPACT_STRINGS" "Z" (.int zc)) (hzc : ¬ zc = (0 : Int32)) (S_f : Sta Z Z.heap "jdk/internal/util/Preconditions" "SIOOBE_FORMATTER" "Ljava/util/function/BiFunction;" fm) (hfm : fm.isRef = true) (O0 : Old Z n0 h0) (P0 : Exa Z h0 a "java/lang/String") (P1 : Fld Z h0 a "java/lang/String" "value" "[B" (.ref t)) (P2 : Fld Z h0 a "java/lang/String" "coder" "B" (.int (0 : Int32))) (P3 : Arv Z h0 t kt .byte (3 : Int32) [(.int c0), (.int c1), (.int c2)] (.int 0)) (hr : (c2 &&& (255 : Int32)) = r) :
    Con l Z (⟨"java/lang/String", "charAt", "(I)C"⟩ : MethodName) jdk_42_method_56_code 2 (some .char) [] ({ frames := 3, cells := 0, slots := 0, locals := 40 } : Room) #[(.ref a), (.int (2 : Int32))] h0 (fun v h L => v = some (.int r) ∧ Fr n0 L ∧ h = h0) := by
  refine enter (Ls := #[.val (.ref a), .val (.int (2 : Int32))]) (plainFor_of_name pn_1) (fun m => by exact entry_eq rfl) ?_
  intro p e s m below meth cd_ s₁ S0 hx hby hml hret hlk hnm hown hZ X0 e0 k0
  have N0 := Fr.nil n0
  have k1 : To p.tables e below S0 (s₁.setTop (mkF m 1 #[.val (.ref a), .val (.int (2 : Int32))] [(.ref a)])) := fun tt hq => k0 tt (by
    refine XS.aloadN X0.here hx rfl (hb hby d_jdk_42_method_56_code_0) rfl rfl ?_
    exact hq)
  obtain ⟨_, T2, L2, X2, ⟨rfl, Nq2, eq2⟩, k2a⟩ := callV' X0 hx hZ (y := (⟨"java/lang/String", "isLatin1", "()Z"⟩ : MethodName)) (z := (⟨"java/lang/String", "isLatin1", "()Z"⟩ : MethodName)) hown (wq hw 89 rfl) (wq hw 90 rfl) (notFace_of_selects (args := #[]) (mvT hZ (wq hw 92 rfl))) (wq hw 92 rfl) (wq hw 91 rfl) (by decide) P0 (backC (W := 0) (rm_latin l Z a0 hw zc a h0 n0 (by omega) S_c hzc O0 P2) hZ (wq hw 93 rfl) (wq hw 3 rfl) (by decide) (by decide)) e0 (argsL := []) (rest := []) rfl rfl pd_6 rfl (by rw [hml]; rfl) (hb hby d_jdk_42_method_56_code_1) (Nat.le_of_eq rfl) (by decide) (by decide) k1
  have k2 : To p.tables e below S0 (T2.setTop (mkF m 4 #[.val (.ref a), .val (.int (2 : Int32))] [(.int (1 : Int32))])) := k2a
  have N2 := N0.app Nq2
  have e2 : T2.heap = h0 := eq2
  have k3 : To p.tables e below S0 (T2.setTop (mkF m 8 #[.val (.ref a), .val (.int (2 : Int32))] [(.ref a)])) := fun tt hq => k2 tt (by
    refine XS.ifNo X2.here hx rfl (hb hby d_jdk_42_method_56_code_4) rfl ((if0 _ _).trans (feq (by decide)).1) ?_
    refine XS.aloadN X2.here hx rfl (hb hby d_jdk_42_method_56_code_7) rfl rfl ?_
    exact hq)
  obtain ⟨T4, X4, e4, st4⟩ := getF X2 hx hZ hown (host := "") (Or.inl (wq hw 28 rfl)) Via.refl e2 P1 (g := (mkF m 8 #[.val (.ref a), .val (.int (2 : Int32))] [(.ref a)])) rfl rfl (hb hby d_jdk_42_method_56_code_8)
  have k4 : To p.tables e below S0 (T4.setTop (mkF m 11 #[.val (.ref a), .val (.int (2 : Int32))] [(.ref t)])) := fun tt hq => k3 tt (st4 tt hq)
  have k5 : To p.tables e below S0 (T4.setTop (mkF m 12 #[.val (.ref a), .val (.int (2 : Int32))] [(.int (2 : Int32)), (.ref t)])) := fun tt hq => k4 tt (by
    refine XS.iloadN X4.here hx rfl (hb hby d_jdk_42_method_56_code_11) rfl ?_
    exact hq)
  obtain ⟨_, T6, L6, X6, ⟨rfl, Nq6, eq6⟩, k6a⟩ := callS' X4 hx hZ (y := (⟨"java/lang/StringLatin1", "charAt", "([BI)C"⟩ : MethodName)) hown (wq hw 173 rfl) (wq hw 174 rfl) (wq hw 140 rfl) (wq hw 175 rfl) (by decide) (backC (W := 0) (rm_lca3_2 l Z a0 hw fm t kt c0 c1 c2 h0 n0 (by omega) S_f hfm O0 P3) hZ (wq hw 175 rfl) (wq hw 140 rfl) (by decide) (by decide)) e4 (argsL := [(.ref t), (.int (2 : Int32))]) (rest := []) rfl rfl pd_8 rfl (by rw [hml]; rfl) (hb hby d_jdk_42_method_56_code_12) (Nat.le_of_eq rfl) (by decide) (by decide) k5
  have k6 : To p.tables e below S0 (T6.setTop (mkF m 15 #[.val (.ref a), .val (.int (2 : Int32))] [(.int (c2 &&& (255 : Int32)))])) := k6a
  have N6 := N2.app Nq6
  have e6 : T6.heap = h0 := eq6
  have hE := e6
  refine retInt X6 hx hret hlk (by simp) (own_narrowc _) (hb hby d_jdk_42_method_56_code_15) k6 ?_ (by decide) (by decide)
  try rw [hE]
  exact ⟨by rw [hr], N6, rfl⟩
theorem own_b0 (x : Int32) : (if (3 : Int32) < (x &&& (3 : Int32)) then (3 : Int32) else (x &&& (3 : Int32))) = (0 : Int32) ∨ (if (3 : Int32) < (x &&& (3 : Int32)) then (3 : Int32) else (x &&& (3 : Int32))) = (1 : Int32) ∨ (if (3 : Int32) < (x &&& (3 : Int32)) then (3 : Int32) else (x &&& (3 : Int32))) = (2 : Int32) ∨ (if (3 : Int32) < (x &&& (3 : Int32)) then (3 : Int32) else (x &&& (3 : Int32))) = (3 : Int32) := by rcases own_and3 x with h | h | h | h <;> rw [h] <;> decide
theorem own_b1 (x : Int32) : (if (2 : Int32) < (x &&& (3 : Int32)) then (2 : Int32) else (x &&& (3 : Int32))) = (0 : Int32) ∨ (if (2 : Int32) < (x &&& (3 : Int32)) then (2 : Int32) else (x &&& (3 : Int32))) = (1 : Int32) ∨ (if (2 : Int32) < (x &&& (3 : Int32)) then (2 : Int32) else (x &&& (3 : Int32))) = (2 : Int32) := by rcases own_and3 x with h | h | h | h <;> rw [h] <;> decide
theorem own_b2 (x : Int32) : (if (1 : Int32) < (x &&& (3 : Int32)) then (1 : Int32) else (x &&& (3 : Int32))) = (0 : Int32) ∨ (if (1 : Int32) < (x &&& (3 : Int32)) then (1 : Int32) else (x &&& (3 : Int32))) = (1 : Int32) := by rcases own_and3 x with h | h | h | h <;> rw [h] <;> decide
theorem own_b3 (x : Int32) : (if (0 : Int32) < (x &&& (3 : Int32)) then (0 : Int32) else (x &&& (3 : Int32))) = (0 : Int32) := by rcases own_and3 x with h | h | h | h <;> rw [h] <;> decide
theorem d_jdk_29_method_69_code_0 : decode jdk_29_method_69_code 0 = .ok (.iload_n 0, 1) := by decide +kernel
theorem d_jdk_29_method_69_code_1 : decode jdk_29_method_69_code 1 = .ok (.iload_n 1, 1) := by decide +kernel
theorem d_jdk_29_method_69_code_2 : decode jdk_29_method_69_code 2 = .ok (.if_icmp .gt 7, 3) := by decide +kernel
theorem d_jdk_29_method_69_code_5 : decode jdk_29_method_69_code 5 = .ok (.iload_n 0, 1) := by decide +kernel
theorem d_jdk_29_method_69_code_6 : decode jdk_29_method_69_code 6 = .ok (.goto 4, 3) := by decide +kernel
theorem d_jdk_29_method_69_code_9 : decode jdk_29_method_69_code 9 = .ok (.iload_n 1, 1) := by decide +kernel
theorem d_jdk_29_method_69_code_10 : decode jdk_29_method_69_code 10 = .ok (.ireturn, 1) := by decide +kernel
set_option maxRecDepth 65536 in
set_option maxHeartbeats 40000000 in
theorem rm_min (l : Launch) (Z : State) (a0 : Array Value) (hw : ∀ d ∈ tables_1, d.before a0 Z = true) (a : Int32) (b : Int32) (c : Int32) (h0 : Heap) (n0 : Nat) (hn0 : n0 ≤ h0.size) (hc : (if b < a then b else a) = c) :
    Con l Z (⟨"java/lang/Math", "min", "(II)I"⟩ : MethodName) jdk_29_method_69_code 2 (some .int) [] ({ frames := 0, cells := 0, slots := 0, locals := 0 } : Room) #[(.int a), (.int b)] h0 (fun v h L => v = some (.int c) ∧ Fr n0 L ∧ h = h0) := by
  refine enter (Ls := #[.val (.int a), .val (.int b)]) (Jvm.Free.JP.mathPlain rfl (by decide +kernel)) (fun m => by exact entry_eq rfl) ?_
  intro p e s m below meth cd_ s₁ S0 hx hby hml hret hlk hnm hown hZ X0 e0 k0
  have N0 := Fr.nil n0
  have k1 : To p.tables e below S0 (s₁.setTop (mkF m 2 #[.val (.int a), .val (.int b)] [(.int b), (.int a)])) := fun tt hq => k0 tt (by
    refine XS.iloadN X0.here hx rfl (hb hby d_jdk_29_method_69_code_0) rfl ?_
    refine XS.iloadN X0.here hx rfl (hb hby d_jdk_29_method_69_code_1) rfl ?_
    exact hq)
  by_cases hc2_2 : b < a
  · -- pc 2, holds
    have k3 : To p.tables e below S0 (s₁.setTop (mkF m 10 #[.val (.int a), .val (.int b)] [(.int b)])) := fun tt hq => k1 tt (by
      refine XS.icmpYes X0.here hx rfl (pc0 := 2) (pc' := 9) rfl (hb hby d_jdk_29_method_69_code_2) rfl (tlt hc2_2).2.2.1 (by decide) (by decide) ?_
      refine XS.iloadN X0.here hx rfl (hb hby d_jdk_29_method_69_code_9) rfl ?_
      exact hq)
    have hE := e0
    refine retInt X0 hx hret hlk (by simp) rfl (hb hby d_jdk_29_method_69_code_10) k3 ?_ (by decide) (by decide)
    try rw [hE]
    exact ⟨by rw [← hc, if_pos hc2_2], N0, rfl⟩
  · -- pc 2, holds not
    have k4 : To p.tables e below S0 (s₁.setTop (mkF m 10 #[.val (.int a), .val (.int b)] [(.int a)])) := fun tt hq => k1 tt (by
      refine XS.icmpNo X0.here hx rfl (hb hby d_jdk_29_method_69_code_2) rfl (flt hc2_2).2.2.1 ?_
      refine XS.iloadN X0.here hx rfl (hb hby d_jdk_29_method_69_code_5) rfl ?_
      refine XS.goto X0.here hx rfl (pc0 := 6) (pc' := 10) rfl (hb hby d_jdk_29_method_69_code_6) (by decide) (by decide) ?_
      exact hq)
    have hE := e0
    refine retInt X0 hx hret hlk (by simp) rfl (hb hby d_jdk_29_method_69_code_10) k4 ?_ (by decide) (by decide)
    try rw [hE]
    exact ⟨by rw [← hc, if_neg hc2_2], N0, rfl⟩
theorem d_jdk_30_method_1_code_0 : decode jdk_30_method_1_code 0 = .ok (.aload_n 0, 1) := by decide +kernel
theorem d_jdk_30_method_1_code_1 : decode jdk_30_method_1_code 1 = .ok (.invokespecial 1, 3) := by decide +kernel
theorem d_jdk_30_method_1_code_4 : decode jdk_30_method_1_code 4 = .ok (.return_, 1) := by decide +kernel
theorem pn_5 : plainName "java/lang/Record" = true := by first | (simp [plainName, overriddenIn]; done) | decide +kernel
set_option maxRecDepth 65536 in
set_option maxHeartbeats 40000000 in
theorem rm_rec (l : Launch) (Z : State) (a0 : Array Value) (hw : ∀ d ∈ tables_1, d.before a0 Z = true) (a : Addr) (h0 : Heap) (n0 : Nat) (hn0 : n0 ≤ h0.size)  :
    Con l Z (⟨"java/lang/Record", "<init>", "()V"⟩ : MethodName) jdk_30_method_1_code 1 none [] ({ frames := 1, cells := 0, slots := 0, locals := 12 } : Room) #[(.ref a)] h0 (fun v h L => v = none ∧ Fr n0 L ∧ h = h0) := by
  refine enter (Ls := #[.val (.ref a)]) (plainFor_of_name pn_5) (fun m => by exact entry_eq rfl) ?_
  intro p e s m below meth cd_ s₁ S0 hx hby hml hret hlk hnm hown hZ X0 e0 k0
  have N0 := Fr.nil n0
  have k1 : To p.tables e below S0 (s₁.setTop (mkF m 1 #[.val (.ref a)] [(.ref a)])) := fun tt hq => k0 tt (by
    refine XS.aloadN X0.here hx rfl (hb hby d_jdk_30_method_1_code_0) rfl rfl ?_
    exact hq)
  obtain ⟨T2, X2, e2, st2⟩ := initO X0 hx hZ hown (wq hw 47 rfl) (wq hw 12 rfl) (wq hw 13 rfl) e0 (g := (mkF m 1 #[.val (.ref a)] [(.ref a)])) rfl (by rw [hml]; rfl) rfl (hb hby d_jdk_30_method_1_code_1) (by decide) (W := 0) (by show 2 * 0 + _ ≤ _; exact Nat.le_of_eq rfl) (by decide)
  have k2 : To p.tables e below S0 (T2.setTop (mkF m 4 #[.val (.ref a)] [])) := fun tt hq => k1 tt (st2 tt hq)
  have hE := e2
  refine retVoid X2 hx hret hlk (hb hby d_jdk_30_method_1_code_4) k2 ?_ (by decide) (by decide)
  try rw [hE]
  exact ⟨rfl, N0, rfl⟩
theorem d_prog_120_method_1_code_0 : decode prog_120_method_1_code 0 = .ok (.aload_n 0, 1) := by decide +kernel
theorem d_prog_120_method_1_code_1 : decode prog_120_method_1_code 1 = .ok (.invokespecial 1, 3) := by decide +kernel
theorem d_prog_120_method_1_code_4 : decode prog_120_method_1_code 4 = .ok (.aload_n 0, 1) := by decide +kernel
theorem d_prog_120_method_1_code_5 : decode prog_120_method_1_code 5 = .ok (.aload_n 1, 1) := by decide +kernel
theorem d_prog_120_method_1_code_6 : decode prog_120_method_1_code 6 = .ok (.putfield 7, 3) := by decide +kernel
theorem d_prog_120_method_1_code_9 : decode prog_120_method_1_code 9 = .ok (.aload_n 0, 1) := by decide +kernel
theorem d_prog_120_method_1_code_10 : decode prog_120_method_1_code 10 = .ok (.aload_n 2, 1) := by decide +kernel
theorem d_prog_120_method_1_code_11 : decode prog_120_method_1_code 11 = .ok (.putfield 13, 3) := by decide +kernel
theorem d_prog_120_method_1_code_14 : decode prog_120_method_1_code 14 = .ok (.return_, 1) := by decide +kernel
theorem pn_6 : plainName "com/example/ceruline/ceruline/source/SourceFile" = true := by first | (simp [plainName, overriddenIn]; done) | decide +kernel
theorem pd_9 : parseMethodDescriptor "()V" = some ⟨[], none⟩ := by decide +kernel
set_option maxRecDepth 65536 in
set_option maxHeartbeats 40000000 in
theorem rm_sfi (l : Launch) (Z : State) (a0 : Array Value) (hw : ∀ d ∈ tables_1, d.before a0 Z = true) (a : Addr) (u1 : Addr) (u2 : Addr) (h0 : Heap) (n0 : Nat) (hn0 : n0 ≤ h0.size) (P0 : Exa Z h0 a "com/example/ceruline/ceruline/source/SourceFile") (P1 : Fld Z h0 a "com/example/ceruline/ceruline/source/SourceFile" "name" "Ljava/lang/String;" .null) (P2 : Fld Z h0 a "com/example/ceruline/ceruline/source/SourceFile" "text" "Ljava/lang/String;" .null) (ga : n0 ≤ a) :
    Con l Z (⟨"com/example/ceruline/ceruline/source/SourceFile", "<init>", "(Ljava/lang/String;Ljava/lang/String;)V"⟩ : MethodName) prog_120_method_1_code 3 none [] ({ frames := 2, cells := 0, slots := 0, locals := 24 } : Room) #[(.ref a), (.ref u1), (.ref u2)] h0 (fun v h L => v = none ∧ Fr n0 L ∧ Keep h0 h [a] ∧ Exa Z h a "com/example/ceruline/ceruline/source/SourceFile" ∧ Fld Z h a "com/example/ceruline/ceruline/source/SourceFile" "name" "Ljava/lang/String;" (.ref u1) ∧ Fld Z h a "com/example/ceruline/ceruline/source/SourceFile" "text" "Ljava/lang/String;" (.ref u2)) := by
  refine enter (Ls := #[.val (.ref a), .val (.ref u1), .val (.ref u2)]) (plainFor_of_name pn_6) (fun m => by exact entry_eq rfl) ?_
  intro p e s m below meth cd_ s₁ S0 hx hby hml hret hlk hnm hown hZ X0 e0 k0
  have N0 := Fr.nil n0
  have k1 : To p.tables e below S0 (s₁.setTop (mkF m 1 #[.val (.ref a), .val (.ref u1), .val (.ref u2)] [(.ref a)])) := fun tt hq => k0 tt (by
    refine XS.aloadN X0.here hx rfl (hb hby d_prog_120_method_1_code_0) rfl rfl ?_
    exact hq)
  obtain ⟨_, T2, L2, X2, ⟨rfl, Nq2, eq2⟩, k2a⟩ := callC' X0 hx hZ (y := (⟨"java/lang/Record", "<init>", "()V"⟩ : MethodName)) rfl hown (wq hw 42 rfl) (wq hw 43 rfl) (wq hw 46 rfl) (by decide) (backC (W := 0) (rm_rec l Z a0 hw a h0 n0 (by omega)) hZ (wq hw 46 rfl) (wq hw 45 rfl) (by decide) (by decide)) e0 (argsL := []) (rest := []) rfl rfl pd_9 rfl (by rw [hml]; rfl) (hb hby d_prog_120_method_1_code_1) (Nat.le_of_eq rfl) (by decide) (by decide) k1
  have k2 : To p.tables e below S0 (T2.setTop (mkF m 4 #[.val (.ref a), .val (.ref u1), .val (.ref u2)] [])) := k2a
  have N2 := N0.app Nq2
  have e2 : T2.heap = h0 := eq2
  have k3 : To p.tables e below S0 (T2.setTop (mkF m 6 #[.val (.ref a), .val (.ref u1), .val (.ref u2)] [(.ref u1), (.ref a)])) := fun tt hq => k2 tt (by
    refine XS.aloadN X2.here hx rfl (hb hby d_prog_120_method_1_code_4) rfl rfl ?_
    refine XS.aloadN X2.here hx rfl (hb hby d_prog_120_method_1_code_5) rfl rfl ?_
    exact hq)
  obtain ⟨T4, h4, X4, e4, W4, st4⟩ := putF X2 hx hZ hown (host := "") (Or.inl (wq hw 48 rfl)) Via.refl e2 P1 P0 (Or.inr ⟨(wq hw 49 rfl), rfl, hnm⟩) (wq hw 34 rfl) (ty := (.object "java/lang/String")) (by decide) rfl rfl (g := (mkF m 6 #[.val (.ref a), .val (.ref u1), .val (.ref u2)] [(.ref u1), (.ref a)])) rfl rfl (hb hby d_prog_120_method_1_code_6)
  have k4 : To p.tables e below S0 (T4.setTop (mkF m 9 #[.val (.ref a), .val (.ref u1), .val (.ref u2)] [])) := fun tt hq => k3 tt (st4 tt hq)
  have z4 : h4.size = h0.size := W4.size
  have F4 := P1.same W4
  have N4 := Fr.snoc X4 N2 (by omega : n0 ≤ a)
  have f5 : Exa Z h4 a "com/example/ceruline/ceruline/source/SourceFile" := (P0.wr W4)
  have f6 : Fld Z h4 a "com/example/ceruline/ceruline/source/SourceFile" "text" "Ljava/lang/String;" .null := (P2.other W4 (Or.inr (slot_ne (Or.inr (wq hw 51 rfl)) (Or.inr (wq hw 49 rfl)) (by decide) (t := (.object "java/lang/String")) (t' := (.object "java/lang/String")) (by decide) (by decide))))
  have k7 : To p.tables e below S0 (T4.setTop (mkF m 11 #[.val (.ref a), .val (.ref u1), .val (.ref u2)] [(.ref u2), (.ref a)])) := fun tt hq => k4 tt (by
    refine XS.aloadN X4.here hx rfl (hb hby d_prog_120_method_1_code_9) rfl rfl ?_
    refine XS.aloadN X4.here hx rfl (hb hby d_prog_120_method_1_code_10) rfl rfl ?_
    exact hq)
  obtain ⟨T8, h8, X8, e8, W8, st8⟩ := putF X4 hx hZ hown (host := "") (Or.inl (wq hw 50 rfl)) Via.refl e4 f6 f5 (Or.inr ⟨(wq hw 51 rfl), rfl, hnm⟩) (wq hw 34 rfl) (ty := (.object "java/lang/String")) (by decide) rfl rfl (g := (mkF m 11 #[.val (.ref a), .val (.ref u1), .val (.ref u2)] [(.ref u2), (.ref a)])) rfl rfl (hb hby d_prog_120_method_1_code_11)
  have k8 : To p.tables e below S0 (T8.setTop (mkF m 14 #[.val (.ref a), .val (.ref u1), .val (.ref u2)] [])) := fun tt hq => k7 tt (st8 tt hq)
  have z8 : h8.size = h4.size := W8.size
  have F8 := f6.same W8
  have N8 := Fr.snoc X8 N4 (by omega : n0 ≤ a)
  have f9 : Exa Z h8 a "com/example/ceruline/ceruline/source/SourceFile" := (f5.wr W8)
  have f10 : Fld Z h8 a "com/example/ceruline/ceruline/source/SourceFile" "name" "Ljava/lang/String;" (.ref u1) := (F4.other W8 (Or.inr (slot_ne (Or.inr (wq hw 49 rfl)) (Or.inr (wq hw 51 rfl)) (by decide) (t := (.object "java/lang/String")) (t' := (.object "java/lang/String")) (by decide) (by decide))))
  have hE := e8
  refine retVoid X8 hx hret hlk (hb hby d_prog_120_method_1_code_14) k8 ?_ (by decide) (by decide)
  try rw [hE]
  exact ⟨rfl, N8, (((Keep.refl h0 [a]).wr W4 (Or.inl (by simp))).wr W8 (Or.inl (by simp))), f9, f10, F8⟩
theorem d_prog_120_method_7_code_0 : decode prog_120_method_7_code 0 = .ok (.aload_n 0, 1) := by decide +kernel
theorem d_prog_120_method_7_code_1 : decode prog_120_method_7_code 1 = .ok (.getfield 13, 3) := by decide +kernel
theorem d_prog_120_method_7_code_4 : decode prog_120_method_7_code 4 = .ok (.areturn, 1) := by decide +kernel
set_option maxRecDepth 65536 in
set_option maxHeartbeats 40000000 in
theorem rm_sft (l : Launch) (Z : State) (a0 : Array Value) (hw : ∀ d ∈ tables_1, d.before a0 Z = true) (a : Addr) (u : Addr) (h0 : Heap) (n0 : Nat) (hn0 : n0 ≤ h0.size) (F0 : Fld Z h0 a "com/example/ceruline/ceruline/source/SourceFile" "text" "Ljava/lang/String;" (.ref u)) :
    Con l Z (⟨"com/example/ceruline/ceruline/source/SourceFile", "text", "()Ljava/lang/String;"⟩ : MethodName) prog_120_method_7_code 1 (some (.object "java/lang/String")) [] ({ frames := 0, cells := 0, slots := 0, locals := 0 } : Room) #[(.ref a)] h0 (fun v h L => v = some (.ref u) ∧ Fr n0 L ∧ h = h0) := by
  refine enter (Ls := #[.val (.ref a)]) (plainFor_of_name pn_6) (fun m => by exact entry_eq rfl) ?_
  intro p e s m below meth cd_ s₁ S0 hx hby hml hret hlk hnm hown hZ X0 e0 k0
  have N0 := Fr.nil n0
  have k1 : To p.tables e below S0 (s₁.setTop (mkF m 1 #[.val (.ref a)] [(.ref a)])) := fun tt hq => k0 tt (by
    refine XS.aloadN X0.here hx rfl (hb hby d_prog_120_method_7_code_0) rfl rfl ?_
    exact hq)
  obtain ⟨T2, X2, e2, st2⟩ := getF X0 hx hZ hown (host := "") (Or.inl (wq hw 50 rfl)) Via.refl e0 F0 (g := (mkF m 1 #[.val (.ref a)] [(.ref a)])) rfl rfl (hb hby d_prog_120_method_7_code_1)
  have k2 : To p.tables e below S0 (T2.setTop (mkF m 4 #[.val (.ref a)] [(.ref u)])) := fun tt hq => k1 tt (st2 tt hq)
  have hE := e2
  refine retRef X2 hx hret hlk rfl rfl (hb hby d_prog_120_method_7_code_4) k2 ?_ (by decide) (by decide)
  try rw [hE]
  exact ⟨rfl, N0, rfl⟩
theorem d_prog_66_method_1_code_0 : decode prog_66_method_1_code 0 = .ok (.aload_n 0, 1) := by decide +kernel
theorem d_prog_66_method_1_code_1 : decode prog_66_method_1_code 1 = .ok (.invokespecial 1, 3) := by decide +kernel
theorem d_prog_66_method_1_code_4 : decode prog_66_method_1_code 4 = .ok (.aload_n 0, 1) := by decide +kernel
theorem d_prog_66_method_1_code_5 : decode prog_66_method_1_code 5 = .ok (.iconst 1, 1) := by decide +kernel
theorem d_prog_66_method_1_code_6 : decode prog_66_method_1_code 6 = .ok (.putfield 7, 3) := by decide +kernel
theorem d_prog_66_method_1_code_9 : decode prog_66_method_1_code 9 = .ok (.aload_n 0, 1) := by decide +kernel
theorem d_prog_66_method_1_code_10 : decode prog_66_method_1_code 10 = .ok (.iconst 1, 1) := by decide +kernel
theorem d_prog_66_method_1_code_11 : decode prog_66_method_1_code 11 = .ok (.putfield 13, 3) := by decide +kernel
theorem d_prog_66_method_1_code_14 : decode prog_66_method_1_code 14 = .ok (.aload_n 0, 1) := by decide +kernel
theorem d_prog_66_method_1_code_15 : decode prog_66_method_1_code 15 = .ok (.aload_n 1, 1) := by decide +kernel
theorem d_prog_66_method_1_code_16 : decode prog_66_method_1_code 16 = .ok (.putfield 16, 3) := by decide +kernel
theorem d_prog_66_method_1_code_19 : decode prog_66_method_1_code 19 = .ok (.aload_n 0, 1) := by decide +kernel
theorem d_prog_66_method_1_code_20 : decode prog_66_method_1_code 20 = .ok (.aload_n 1, 1) := by decide +kernel
theorem d_prog_66_method_1_code_21 : decode prog_66_method_1_code 21 = .ok (.invokevirtual 20, 3) := by decide +kernel
theorem d_prog_66_method_1_code_24 : decode prog_66_method_1_code 24 = .ok (.putfield 26, 3) := by decide +kernel
theorem d_prog_66_method_1_code_27 : decode prog_66_method_1_code 27 = .ok (.return_, 1) := by decide +kernel
theorem pn_7 : plainName "com/example/ceruline/ceruline/parsing/SourceReader" = true := by first | (simp [plainName, overriddenIn]; done) | decide +kernel
theorem pd_10 : parseMethodDescriptor "()Ljava/lang/String;" = some ⟨[], some (.object "java/lang/String")⟩ := by decide +kernel
set_option maxRecDepth 65536 in
set_option maxHeartbeats 40000000 in
theorem rm_sri (l : Launch) (Z : State) (a0 : Array Value) (hw : ∀ d ∈ tables_1, d.before a0 Z = true) (a : Addr) (b : Addr) (u : Addr) (h0 : Heap) (n0 : Nat) (hn0 : n0 ≤ h0.size) (P0 : Exa Z h0 a "com/example/ceruline/ceruline/parsing/SourceReader") (P1 : Fld Z h0 a "com/example/ceruline/ceruline/parsing/SourceReader" "source" "Lcom/example/ceruline/ceruline/source/SourceFile;" .null) (P2 : Fld Z h0 a "com/example/ceruline/ceruline/parsing/SourceReader" "text" "Ljava/lang/String;" .null) (P3 : Fld Z h0 a "com/example/ceruline/ceruline/parsing/SourceReader" "offset" "I" (.int (0 : Int32))) (P4 : Fld Z h0 a "com/example/ceruline/ceruline/parsing/SourceReader" "line" "I" (.int (0 : Int32))) (P5 : Fld Z h0 a "com/example/ceruline/ceruline/parsing/SourceReader" "column" "I" (.int (0 : Int32))) (E1 : Exa Z h0 b "com/example/ceruline/ceruline/source/SourceFile") (F1 : Fld Z h0 b "com/example/ceruline/ceruline/source/SourceFile" "text" "Ljava/lang/String;" (.ref u)) (ga : n0 ≤ a) (nab : ¬ (@Eq Nat b a)) :
    Con l Z (⟨"com/example/ceruline/ceruline/parsing/SourceReader", "<init>", "(Lcom/example/ceruline/ceruline/source/SourceFile;)V"⟩ : MethodName) prog_66_method_1_code 2 none [] ({ frames := 1, cells := 0, slots := 0, locals := 13 } : Room) #[(.ref a), (.ref b)] h0 (fun v h L => v = none ∧ Fr n0 L ∧ Keep h0 h [a] ∧ Exa Z h a "com/example/ceruline/ceruline/parsing/SourceReader" ∧ Fld Z h a "com/example/ceruline/ceruline/parsing/SourceReader" "source" "Lcom/example/ceruline/ceruline/source/SourceFile;" (.ref b) ∧ Fld Z h a "com/example/ceruline/ceruline/parsing/SourceReader" "text" "Ljava/lang/String;" (.ref u) ∧ Fld Z h a "com/example/ceruline/ceruline/parsing/SourceReader" "offset" "I" (.int (0 : Int32)) ∧ Fld Z h a "com/example/ceruline/ceruline/parsing/SourceReader" "line" "I" (.int (1 : Int32)) ∧ Fld Z h a "com/example/ceruline/ceruline/parsing/SourceReader" "column" "I" (.int (1 : Int32))) := by
  refine enter (Ls := #[.val (.ref a), .val (.ref b)]) (plainFor_of_name pn_7) (fun m => by exact entry_eq rfl) ?_
  intro p e s m below meth cd_ s₁ S0 hx hby hml hret hlk hnm hown hZ X0 e0 k0
  have N0 := Fr.nil n0
  have k1 : To p.tables e below S0 (s₁.setTop (mkF m 1 #[.val (.ref a), .val (.ref b)] [(.ref a)])) := fun tt hq => k0 tt (by
    refine XS.aloadN X0.here hx rfl (hb hby d_prog_66_method_1_code_0) rfl rfl ?_
    exact hq)
  obtain ⟨T2, X2, e2, st2⟩ := initO X0 hx hZ hown (wq hw 55 rfl) (wq hw 12 rfl) (wq hw 13 rfl) e0 (g := (mkF m 1 #[.val (.ref a), .val (.ref b)] [(.ref a)])) rfl (by rw [hml]; rfl) rfl (hb hby d_prog_66_method_1_code_1) (by decide) (W := 0) (by show 2 * 0 + _ ≤ _; exact Nat.le_of_eq rfl) (by decide)
  have k2 : To p.tables e below S0 (T2.setTop (mkF m 4 #[.val (.ref a), .val (.ref b)] [])) := fun tt hq => k1 tt (st2 tt hq)
  have k3 : To p.tables e below S0 (T2.setTop (mkF m 6 #[.val (.ref a), .val (.ref b)] [(.int (1 : Int32)), (.ref a)])) := fun tt hq => k2 tt (by
    refine XS.aloadN X2.here hx rfl (hb hby d_prog_66_method_1_code_4) rfl rfl ?_
    refine XS.iconst X2.here hx rfl (hb hby d_prog_66_method_1_code_5) ?_
    exact hq)
  obtain ⟨T4, h4, X4, e4, W4, st4⟩ := putF X2 hx hZ hown (host := "") (Or.inl (wq hw 56 rfl)) Via.refl e2 P4 P0 (Or.inl (wq hw 57 rfl)) (wq hw 31 rfl) (ty := .int) (by decide) rfl rfl (g := (mkF m 6 #[.val (.ref a), .val (.ref b)] [(.int (1 : Int32)), (.ref a)])) rfl rfl (hb hby d_prog_66_method_1_code_6)
  have k4 : To p.tables e below S0 (T4.setTop (mkF m 9 #[.val (.ref a), .val (.ref b)] [])) := fun tt hq => k3 tt (st4 tt hq)
  have z4 : h4.size = h0.size := W4.size
  have F4 := P4.same W4
  have N4 := Fr.snoc X4 N0 (by omega : n0 ≤ a)
  have f5 : Exa Z h4 a "com/example/ceruline/ceruline/parsing/SourceReader" := (P0.wr W4)
  have f6 : Fld Z h4 a "com/example/ceruline/ceruline/parsing/SourceReader" "column" "I" (.int (0 : Int32)) := (P5.other W4 (Or.inr (slot_ne (Or.inl (wq hw 59 rfl)) (Or.inl (wq hw 57 rfl)) (by decide) (t := .int) (t' := .int) (by decide) (by decide))))
  have k7 : To p.tables e below S0 (T4.setTop (mkF m 11 #[.val (.ref a), .val (.ref b)] [(.int (1 : Int32)), (.ref a)])) := fun tt hq => k4 tt (by
    refine XS.aloadN X4.here hx rfl (hb hby d_prog_66_method_1_code_9) rfl rfl ?_
    refine XS.iconst X4.here hx rfl (hb hby d_prog_66_method_1_code_10) ?_
    exact hq)
  obtain ⟨T8, h8, X8, e8, W8, st8⟩ := putF X4 hx hZ hown (host := "") (Or.inl (wq hw 58 rfl)) Via.refl e4 f6 f5 (Or.inl (wq hw 59 rfl)) (wq hw 31 rfl) (ty := .int) (by decide) rfl rfl (g := (mkF m 11 #[.val (.ref a), .val (.ref b)] [(.int (1 : Int32)), (.ref a)])) rfl rfl (hb hby d_prog_66_method_1_code_11)
  have k8 : To p.tables e below S0 (T8.setTop (mkF m 14 #[.val (.ref a), .val (.ref b)] [])) := fun tt hq => k7 tt (st8 tt hq)
  have z8 : h8.size = h4.size := W8.size
  have F8 := f6.same W8
  have N8 := Fr.snoc X8 N4 (by omega : n0 ≤ a)
  have f9 : Exa Z h8 a "com/example/ceruline/ceruline/parsing/SourceReader" := (f5.wr W8)
  have f10 : Fld Z h8 a "com/example/ceruline/ceruline/parsing/SourceReader" "source" "Lcom/example/ceruline/ceruline/source/SourceFile;" .null := ((P1.other W4 (Or.inr (slot_ne (Or.inr (wq hw 61 rfl)) (Or.inl (wq hw 57 rfl)) (by decide) (t := (.object "com/example/ceruline/ceruline/source/SourceFile")) (t' := .int) (by decide) (by decide)))).other W8 (Or.inr (slot_ne (Or.inr (wq hw 61 rfl)) (Or.inl (wq hw 59 rfl)) (by decide) (t := (.object "com/example/ceruline/ceruline/source/SourceFile")) (t' := .int) (by decide) (by decide))))
  have k11 : To p.tables e below S0 (T8.setTop (mkF m 16 #[.val (.ref a), .val (.ref b)] [(.ref b), (.ref a)])) := fun tt hq => k8 tt (by
    refine XS.aloadN X8.here hx rfl (hb hby d_prog_66_method_1_code_14) rfl rfl ?_
    refine XS.aloadN X8.here hx rfl (hb hby d_prog_66_method_1_code_15) rfl rfl ?_
    exact hq)
  obtain ⟨T12, h12, X12, e12, W12, st12⟩ := putF X8 hx hZ hown (host := "") (Or.inl (wq hw 60 rfl)) Via.refl e8 f10 f9 (Or.inr ⟨(wq hw 61 rfl), rfl, hnm⟩) (wq hw 31 rfl) (ty := (.object "com/example/ceruline/ceruline/source/SourceFile")) (by decide) rfl rfl (g := (mkF m 16 #[.val (.ref a), .val (.ref b)] [(.ref b), (.ref a)])) rfl rfl (hb hby d_prog_66_method_1_code_16)
  have k12 : To p.tables e below S0 (T12.setTop (mkF m 19 #[.val (.ref a), .val (.ref b)] [])) := fun tt hq => k11 tt (st12 tt hq)
  have z12 : h12.size = h8.size := W12.size
  have F12 := f10.same W12
  have N12 := Fr.snoc X12 N8 (by omega : n0 ≤ a)
  have k13 : To p.tables e below S0 (T12.setTop (mkF m 21 #[.val (.ref a), .val (.ref b)] [(.ref b), (.ref a)])) := fun tt hq => k12 tt (by
    refine XS.aloadN X12.here hx rfl (hb hby d_prog_66_method_1_code_19) rfl rfl ?_
    refine XS.aloadN X12.here hx rfl (hb hby d_prog_66_method_1_code_20) rfl rfl ?_
    exact hq)
  have f14 : Fld Z h12 b "com/example/ceruline/ceruline/source/SourceFile" "text" "Ljava/lang/String;" (.ref u) := (((F1.other W4 (Or.inl (adr_ne (by omega)))).other W8 (Or.inl (adr_ne (by omega)))).other W12 (Or.inl (adr_ne (by omega))))
  have f16 : Exa Z h12 b "com/example/ceruline/ceruline/source/SourceFile" := (((E1.wr W4).wr W8).wr W12)
  obtain ⟨_, T15, L15, X15, ⟨rfl, Nq15, eq15⟩, k15a⟩ := callV' X12 hx hZ (y := (⟨"com/example/ceruline/ceruline/source/SourceFile", "text", "()Ljava/lang/String;"⟩ : MethodName)) (z := (⟨"com/example/ceruline/ceruline/source/SourceFile", "text", "()Ljava/lang/String;"⟩ : MethodName)) hown (wq hw 62 rfl) (wq hw 63 rfl) (notFace_of_selects (args := #[]) (mvT hZ (wq hw 65 rfl))) (wq hw 65 rfl) (wq hw 64 rfl) (by decide) f16 (backC (W := 1) (rm_sft l Z a0 hw b u h12 n0 (by omega) f14) hZ (wq hw 66 rfl) (wq hw 35 rfl) (by decide) (by decide)) e12 (argsL := []) (rest := [(.ref a)]) rfl rfl pd_10 rfl (by rw [hml]; rfl) (hb hby d_prog_66_method_1_code_21) (Nat.le_of_eq rfl) (by decide) (by decide) k13
  have k15 : To p.tables e below S0 (T15.setTop (mkF m 24 #[.val (.ref a), .val (.ref b)] [(.ref u), (.ref a)])) := k15a
  have N15 := N12.app Nq15
  have e15 : T15.heap = h12 := eq15
  have f17 : Exa Z h12 a "com/example/ceruline/ceruline/parsing/SourceReader" := (f9.wr W12)
  have f18 : Fld Z h12 a "com/example/ceruline/ceruline/parsing/SourceReader" "text" "Ljava/lang/String;" .null := (((P2.other W4 (Or.inr (slot_ne (Or.inr (wq hw 68 rfl)) (Or.inl (wq hw 57 rfl)) (by decide) (t := (.object "java/lang/String")) (t' := .int) (by decide) (by decide)))).other W8 (Or.inr (slot_ne (Or.inr (wq hw 68 rfl)) (Or.inl (wq hw 59 rfl)) (by decide) (t := (.object "java/lang/String")) (t' := .int) (by decide) (by decide)))).other W12 (Or.inr (slot_ne (Or.inr (wq hw 68 rfl)) (Or.inr (wq hw 61 rfl)) (by decide) (t := (.object "java/lang/String")) (t' := (.object "com/example/ceruline/ceruline/source/SourceFile")) (by decide) (by decide))))
  obtain ⟨T19, h19, X19, e19, W19, st19⟩ := putF X15 hx hZ hown (host := "") (Or.inl (wq hw 67 rfl)) Via.refl e15 f18 f17 (Or.inr ⟨(wq hw 68 rfl), rfl, hnm⟩) (wq hw 31 rfl) (ty := (.object "java/lang/String")) (by decide) rfl rfl (g := (mkF m 24 #[.val (.ref a), .val (.ref b)] [(.ref u), (.ref a)])) rfl rfl (hb hby d_prog_66_method_1_code_24)
  have k19 : To p.tables e below S0 (T19.setTop (mkF m 27 #[.val (.ref a), .val (.ref b)] [])) := fun tt hq => k15 tt (st19 tt hq)
  have z19 : h19.size = h12.size := W19.size
  have F19 := f18.same W19
  have N19 := Fr.snoc X19 N15 (by omega : n0 ≤ a)
  have f20 : Exa Z h19 a "com/example/ceruline/ceruline/parsing/SourceReader" := (f17.wr W19)
  have f21 : Fld Z h19 a "com/example/ceruline/ceruline/parsing/SourceReader" "source" "Lcom/example/ceruline/ceruline/source/SourceFile;" (.ref b) := (F12.other W19 (Or.inr (slot_ne (Or.inr (wq hw 61 rfl)) (Or.inr (wq hw 68 rfl)) (by decide) (t := (.object "com/example/ceruline/ceruline/source/SourceFile")) (t' := (.object "java/lang/String")) (by decide) (by decide))))
  have f22 : Fld Z h19 a "com/example/ceruline/ceruline/parsing/SourceReader" "offset" "I" (.int (0 : Int32)) := ((((P3.other W4 (Or.inr (slot_ne (Or.inl (wq hw 83 rfl)) (Or.inl (wq hw 57 rfl)) (by decide) (t := .int) (t' := .int) (by decide) (by decide)))).other W8 (Or.inr (slot_ne (Or.inl (wq hw 83 rfl)) (Or.inl (wq hw 59 rfl)) (by decide) (t := .int) (t' := .int) (by decide) (by decide)))).other W12 (Or.inr (slot_ne (Or.inl (wq hw 83 rfl)) (Or.inr (wq hw 61 rfl)) (by decide) (t := .int) (t' := (.object "com/example/ceruline/ceruline/source/SourceFile")) (by decide) (by decide)))).other W19 (Or.inr (slot_ne (Or.inl (wq hw 83 rfl)) (Or.inr (wq hw 68 rfl)) (by decide) (t := .int) (t' := (.object "java/lang/String")) (by decide) (by decide))))
  have f23 : Fld Z h19 a "com/example/ceruline/ceruline/parsing/SourceReader" "line" "I" (.int (1 : Int32)) := (((F4.other W8 (Or.inr (slot_ne (Or.inl (wq hw 57 rfl)) (Or.inl (wq hw 59 rfl)) (by decide) (t := .int) (t' := .int) (by decide) (by decide)))).other W12 (Or.inr (slot_ne (Or.inl (wq hw 57 rfl)) (Or.inr (wq hw 61 rfl)) (by decide) (t := .int) (t' := (.object "com/example/ceruline/ceruline/source/SourceFile")) (by decide) (by decide)))).other W19 (Or.inr (slot_ne (Or.inl (wq hw 57 rfl)) (Or.inr (wq hw 68 rfl)) (by decide) (t := .int) (t' := (.object "java/lang/String")) (by decide) (by decide))))
  have f24 : Fld Z h19 a "com/example/ceruline/ceruline/parsing/SourceReader" "column" "I" (.int (1 : Int32)) := ((F8.other W12 (Or.inr (slot_ne (Or.inl (wq hw 59 rfl)) (Or.inr (wq hw 61 rfl)) (by decide) (t := .int) (t' := (.object "com/example/ceruline/ceruline/source/SourceFile")) (by decide) (by decide)))).other W19 (Or.inr (slot_ne (Or.inl (wq hw 59 rfl)) (Or.inr (wq hw 68 rfl)) (by decide) (t := .int) (t' := (.object "java/lang/String")) (by decide) (by decide))))
  have hE := e19
  refine retVoid X19 hx hret hlk (hb hby d_prog_66_method_1_code_27) k19 ?_ (by decide) (by decide)
  try rw [hE]
  exact ⟨rfl, N19, (((((Keep.refl h0 [a]).wr W4 (Or.inl (by simp))).wr W8 (Or.inl (by simp))).wr W12 (Or.inl (by simp))).wr W19 (Or.inl (by simp))), f20, f21, F19, f22, f23, f24⟩
theorem d_prog_66_method_7_code_0 : decode prog_66_method_7_code 0 = .ok (.aload_n 0, 1) := by decide +kernel
theorem d_prog_66_method_7_code_1 : decode prog_66_method_7_code 1 = .ok (.getfield 29, 3) := by decide +kernel
theorem d_prog_66_method_7_code_4 : decode prog_66_method_7_code 4 = .ok (.ireturn, 1) := by decide +kernel
set_option maxRecDepth 65536 in
set_option maxHeartbeats 40000000 in
theorem rm_off (l : Launch) (Z : State) (a0 : Array Value) (hw : ∀ d ∈ tables_1, d.before a0 Z = true) (a : Addr) (z : Int32) (h0 : Heap) (n0 : Nat) (hn0 : n0 ≤ h0.size) (F0 : Fld Z h0 a "com/example/ceruline/ceruline/parsing/SourceReader" "offset" "I" (.int z)) :
    Con l Z (⟨"com/example/ceruline/ceruline/parsing/SourceReader", "offset", "()I"⟩ : MethodName) prog_66_method_7_code 1 (some .int) [] ({ frames := 0, cells := 0, slots := 0, locals := 0 } : Room) #[(.ref a)] h0 (fun v h L => v = some (.int z) ∧ Fr n0 L ∧ h = h0) := by
  refine enter (Ls := #[.val (.ref a)]) (plainFor_of_name pn_7) (fun m => by exact entry_eq rfl) ?_
  intro p e s m below meth cd_ s₁ S0 hx hby hml hret hlk hnm hown hZ X0 e0 k0
  have N0 := Fr.nil n0
  have k1 : To p.tables e below S0 (s₁.setTop (mkF m 1 #[.val (.ref a)] [(.ref a)])) := fun tt hq => k0 tt (by
    refine XS.aloadN X0.here hx rfl (hb hby d_prog_66_method_7_code_0) rfl rfl ?_
    exact hq)
  obtain ⟨T2, X2, e2, st2⟩ := getF X0 hx hZ hown (host := "") (Or.inl (wq hw 82 rfl)) Via.refl e0 F0 (g := (mkF m 1 #[.val (.ref a)] [(.ref a)])) rfl rfl (hb hby d_prog_66_method_7_code_1)
  have k2 : To p.tables e below S0 (T2.setTop (mkF m 4 #[.val (.ref a)] [(.int z)])) := fun tt hq => k1 tt (st2 tt hq)
  have hE := e2
  refine retInt X2 hx hret hlk (by simp) rfl (hb hby d_prog_66_method_7_code_4) k2 ?_ (by decide) (by decide)
  try rw [hE]
  exact ⟨rfl, N0, rfl⟩
theorem d_jdk_41_method_12_code_0 : decode jdk_41_method_12_code 0 = .ok (.iload_n 0, 1) := by decide +kernel
theorem d_jdk_41_method_12_code_1 : decode jdk_41_method_12_code 1 = .ok (.ifCond .lt 13, 3) := by decide +kernel
theorem d_jdk_41_method_12_code_4 : decode jdk_41_method_12_code 4 = .ok (.iload_n 0, 1) := by decide +kernel
theorem d_jdk_41_method_12_code_5 : decode jdk_41_method_12_code 5 = .ok (.iload_n 1, 1) := by decide +kernel
theorem d_jdk_41_method_12_code_6 : decode jdk_41_method_12_code 6 = .ok (.if_icmp .gt 8, 3) := by decide +kernel
theorem d_jdk_41_method_12_code_9 : decode jdk_41_method_12_code 9 = .ok (.iload_n 1, 1) := by decide +kernel
theorem d_jdk_41_method_12_code_10 : decode jdk_41_method_12_code 10 = .ok (.iload_n 2, 1) := by decide +kernel
theorem d_jdk_41_method_12_code_11 : decode jdk_41_method_12_code 11 = .ok (.if_icmp .le 11, 3) := by decide +kernel
theorem d_jdk_41_method_12_code_14 : decode jdk_41_method_12_code 14 = .ok (.aload_n 3, 1) := by decide +kernel
theorem d_jdk_41_method_12_code_15 : decode jdk_41_method_12_code 15 = .ok (.iload_n 0, 1) := by decide +kernel
theorem d_jdk_41_method_12_code_16 : decode jdk_41_method_12_code 16 = .ok (.iload_n 1, 1) := by decide +kernel
theorem d_jdk_41_method_12_code_17 : decode jdk_41_method_12_code 17 = .ok (.iload_n 2, 1) := by decide +kernel
theorem d_jdk_41_method_12_code_18 : decode jdk_41_method_12_code 18 = .ok (.invokestatic 99, 3) := by decide +kernel
theorem d_jdk_41_method_12_code_21 : decode jdk_41_method_12_code 21 = .ok (.athrow, 1) := by decide +kernel
theorem d_jdk_41_method_12_code_22 : decode jdk_41_method_12_code 22 = .ok (.iload_n 0, 1) := by decide +kernel
theorem d_jdk_41_method_12_code_23 : decode jdk_41_method_12_code 23 = .ok (.ireturn, 1) := by decide +kernel
set_option maxRecDepth 65536 in
set_option maxHeartbeats 40000000 in
theorem rm_cft (l : Launch) (Z : State) (a0 : Array Value) (hw : ∀ d ∈ tables_1, d.before a0 Z = true) (i : Int32) (j : Int32) (k : Int32) (fm : Value) (h0 : Heap) (n0 : Nat) (hn0 : n0 ≤ h0.size) (hfm : fm.isRef = true) (q1 : ¬ i < (0 : Int32)) (q2 : ¬ j < i) (q3 : ¬ k < j) :
    Con l Z (⟨"jdk/internal/util/Preconditions", "checkFromToIndex", "(IIILjava/util/function/BiFunction;)I"⟩ : MethodName) jdk_41_method_12_code 4 (some .int) [] ({ frames := 0, cells := 0, slots := 0, locals := 0 } : Room) #[(.int i), (.int j), (.int k), fm] h0 (fun v h L => v = some (.int i) ∧ Fr n0 L ∧ h = h0) := by
  refine enter (Ls := #[.val (.int i), .val (.int j), .val (.int k), .val fm]) (plainFor_of_name pn_2) (fun m => by rcases ref_cases hfm with rfl | ⟨z, rfl⟩ <;> exact entry_eq rfl) ?_
  intro p e s m below meth cd_ s₁ S0 hx hby hml hret hlk hnm hown hZ X0 e0 k0
  have N0 := Fr.nil n0
  have k1 : To p.tables e below S0 (s₁.setTop (mkF m 23 #[.val (.int i), .val (.int j), .val (.int k), .val fm] [(.int i)])) := fun tt hq => k0 tt (by
    refine XS.iloadN X0.here hx rfl (hb hby d_jdk_41_method_12_code_0) rfl ?_
    refine XS.ifNo X0.here hx rfl (hb hby d_jdk_41_method_12_code_1) rfl ((if0 _ _).trans (flt q1).1) ?_
    refine XS.iloadN X0.here hx rfl (hb hby d_jdk_41_method_12_code_4) rfl ?_
    refine XS.iloadN X0.here hx rfl (hb hby d_jdk_41_method_12_code_5) rfl ?_
    refine XS.icmpNo X0.here hx rfl (hb hby d_jdk_41_method_12_code_6) rfl (flt q2).2.2.1 ?_
    refine XS.iloadN X0.here hx rfl (hb hby d_jdk_41_method_12_code_9) rfl ?_
    refine XS.iloadN X0.here hx rfl (hb hby d_jdk_41_method_12_code_10) rfl ?_
    refine XS.icmpYes X0.here hx rfl (pc0 := 11) (pc' := 22) rfl (hb hby d_jdk_41_method_12_code_11) rfl (flt q3).2.2.2 (by decide) (by decide) ?_
    refine XS.iloadN X0.here hx rfl (hb hby d_jdk_41_method_12_code_22) rfl ?_
    exact hq)
  have hE := e0
  refine retInt X0 hx hret hlk (by simp) rfl (hb hby d_jdk_41_method_12_code_23) k1 ?_ (by decide) (by decide)
  try rw [hE]
  exact ⟨rfl, N0, rfl⟩
theorem d_jdk_42_method_158_code_0 : decode jdk_42_method_158_code 0 = .ok (.iload_n 0, 1) := by decide +kernel
theorem d_jdk_42_method_158_code_1 : decode jdk_42_method_158_code 1 = .ok (.iload_n 1, 1) := by decide +kernel
theorem d_jdk_42_method_158_code_2 : decode jdk_42_method_158_code 2 = .ok (.iload_n 2, 1) := by decide +kernel
theorem d_jdk_42_method_158_code_3 : decode jdk_42_method_158_code 3 = .ok (.getstatic 1053, 3) := by decide +kernel
theorem d_jdk_42_method_158_code_6 : decode jdk_42_method_158_code 6 = .ok (.invokestatic 1062, 3) := by decide +kernel
theorem d_jdk_42_method_158_code_9 : decode jdk_42_method_158_code 9 = .ok (.pop, 1) := by decide +kernel
theorem d_jdk_42_method_158_code_10 : decode jdk_42_method_158_code 10 = .ok (.return_, 1) := by decide +kernel
theorem pd_11 : parseMethodDescriptor "(IIILjava/util/function/BiFunction;)I" = some ⟨[.int, .int, .int, (.object "java/util/function/BiFunction")], some .int⟩ := by decide +kernel
set_option maxRecDepth 65536 in
set_option maxHeartbeats 40000000 in
theorem rm_cbe (l : Launch) (Z : State) (a0 : Array Value) (hw : ∀ d ∈ tables_1, d.before a0 Z = true) (fm : Value) (i : Int32) (j : Int32) (k : Int32) (h0 : Heap) (n0 : Nat) (hn0 : n0 ≤ h0.size) (S_f : Sta Z Z.heap "jdk/internal/util/Preconditions" "SIOOBE_FORMATTER" "Ljava/util/function/BiFunction;" fm) (hfm : fm.isRef = true) (O0 : Old Z n0 h0) (q1 : ¬ i < (0 : Int32)) (q2 : ¬ j < i) (q3 : ¬ k < j) :
    Con l Z (⟨"java/lang/String", "checkBoundsBeginEnd", "(III)V"⟩ : MethodName) jdk_42_method_158_code 3 none [] ({ frames := 1, cells := 0, slots := 0, locals := 15 } : Room) #[(.int i), (.int j), (.int k)] h0 (fun v h L => v = none ∧ Fr n0 L ∧ h = h0) := by
  refine enter (Ls := #[.val (.int i), .val (.int j), .val (.int k)]) (plainFor_of_name pn_1) (fun m => by exact entry_eq rfl) ?_
  intro p e s m below meth cd_ s₁ S0 hx hby hml hret hlk hnm hown hZ X0 e0 k0
  have N0 := Fr.nil n0
  have k1 : To p.tables e below S0 (s₁.setTop (mkF m 3 #[.val (.int i), .val (.int j), .val (.int k)] [(.int k), (.int j), (.int i)])) := fun tt hq => k0 tt (by
    refine XS.iloadN X0.here hx rfl (hb hby d_jdk_42_method_158_code_0) rfl ?_
    refine XS.iloadN X0.here hx rfl (hb hby d_jdk_42_method_158_code_1) rfl ?_
    refine XS.iloadN X0.here hx rfl (hb hby d_jdk_42_method_158_code_2) rfl ?_
    exact hq)
  obtain ⟨T2, X2, e2, st2⟩ := getS2 X0 hx hZ hown (host := "") (Or.inl (wq hw 97 rfl)) Via.refl e0 (staOld S_f O0) (g := (mkF m 3 #[.val (.int i), .val (.int j), .val (.int k)] [(.int k), (.int j), (.int i)])) rfl (hb hby d_jdk_42_method_158_code_3)
  have k2 : To p.tables e below S0 (T2.setTop (mkF m 6 #[.val (.int i), .val (.int j), .val (.int k)] [fm, (.int k), (.int j), (.int i)])) := fun tt hq => k1 tt (st2 tt hq)
  obtain ⟨_, T3, L3, X3, ⟨rfl, Nq3, eq3⟩, k3a⟩ := callS' X2 hx hZ (y := (⟨"jdk/internal/util/Preconditions", "checkFromToIndex", "(IIILjava/util/function/BiFunction;)I"⟩ : MethodName)) hown (wq hw 135 rfl) (wq hw 136 rfl) (wq hw 98 rfl) (wq hw 137 rfl) (by decide) (backC (W := 0) (rm_cft l Z a0 hw i j k fm h0 n0 (by omega) hfm q1 q2 q3) hZ (wq hw 137 rfl) (wq hw 98 rfl) (by decide) (by decide)) e2 (argsL := [(.int i), (.int j), (.int k), fm]) (rest := []) rfl rfl pd_11 rfl (by rw [hml]; rfl) (hb hby d_jdk_42_method_158_code_6) (Nat.le_of_eq rfl) (by decide) (by decide) k2
  have k3 : To p.tables e below S0 (T3.setTop (mkF m 9 #[.val (.int i), .val (.int j), .val (.int k)] [(.int i)])) := k3a
  have N3 := N0.app Nq3
  have e3 : T3.heap = h0 := eq3
  have k4 : To p.tables e below S0 (T3.setTop (mkF m 10 #[.val (.int i), .val (.int j), .val (.int k)] [])) := fun tt hq => k3 tt (by
    refine XS.pop X3.here hx rfl (hb hby d_jdk_42_method_158_code_9) rfl rfl ?_
    exact hq)
  have hE := e3
  refine retVoid X3 hx hret hlk (hb hby d_jdk_42_method_158_code_10) k4 ?_ (by decide) (by decide)
  try rw [hE]
  exact ⟨rfl, N3, rfl⟩
theorem d_jdk_65_method_131_code_0 : decode jdk_65_method_131_code 0 = .ok (.iload_n 1, 1) := by decide +kernel
theorem d_jdk_65_method_131_code_1 : decode jdk_65_method_131_code 1 = .ok (.iload_n 0, 1) := by decide +kernel
theorem d_jdk_65_method_131_code_2 : decode jdk_65_method_131_code 2 = .ok (.if_icmp .ge 35, 3) := by decide +kernel
theorem d_jdk_65_method_131_code_5 : decode jdk_65_method_131_code 5 = .ok (.new 43, 3) := by decide +kernel
theorem d_jdk_65_method_131_code_8 : decode jdk_65_method_131_code 8 = .ok (.dup, 1) := by decide +kernel
theorem d_jdk_65_method_131_code_9 : decode jdk_65_method_131_code 9 = .ok (.new 45, 3) := by decide +kernel
theorem d_jdk_65_method_131_code_12 : decode jdk_65_method_131_code 12 = .ok (.dup, 1) := by decide +kernel
theorem d_jdk_65_method_131_code_13 : decode jdk_65_method_131_code 13 = .ok (.invokespecial 47, 3) := by decide +kernel
theorem d_jdk_65_method_131_code_16 : decode jdk_65_method_131_code 16 = .ok (.iload_n 0, 1) := by decide +kernel
theorem d_jdk_65_method_131_code_17 : decode jdk_65_method_131_code 17 = .ok (.invokevirtual 54, 3) := by decide +kernel
theorem d_jdk_65_method_131_code_20 : decode jdk_65_method_131_code 20 = .ok (.ldc_w 337, 3) := by decide +kernel
theorem d_jdk_65_method_131_code_23 : decode jdk_65_method_131_code 23 = .ok (.invokevirtual 50, 3) := by decide +kernel
theorem d_jdk_65_method_131_code_26 : decode jdk_65_method_131_code 26 = .ok (.iload_n 1, 1) := by decide +kernel
theorem d_jdk_65_method_131_code_27 : decode jdk_65_method_131_code 27 = .ok (.invokevirtual 54, 3) := by decide +kernel
theorem d_jdk_65_method_131_code_30 : decode jdk_65_method_131_code 30 = .ok (.invokevirtual 61, 3) := by decide +kernel
theorem d_jdk_65_method_131_code_33 : decode jdk_65_method_131_code 33 = .ok (.invokespecial 65, 3) := by decide +kernel
theorem d_jdk_65_method_131_code_36 : decode jdk_65_method_131_code 36 = .ok (.athrow, 1) := by decide +kernel
theorem d_jdk_65_method_131_code_37 : decode jdk_65_method_131_code 37 = .ok (.return_, 1) := by decide +kernel
theorem pn_8 : plainName "java/util/Arrays" = true := by first | (simp [plainName, overriddenIn]; done) | decide +kernel
set_option maxRecDepth 65536 in
set_option maxHeartbeats 40000000 in
theorem rm_ckl (l : Launch) (Z : State) (a0 : Array Value) (hw : ∀ d ∈ tables_1, d.before a0 Z = true) (i : Int32) (j : Int32) (h0 : Heap) (n0 : Nat) (hn0 : n0 ≤ h0.size) (q2 : ¬ j < i) :
    Con l Z (⟨"java/util/Arrays", "checkLength", "(II)V"⟩ : MethodName) jdk_65_method_131_code 2 none [] ({ frames := 0, cells := 0, slots := 0, locals := 0 } : Room) #[(.int i), (.int j)] h0 (fun v h L => v = none ∧ Fr n0 L ∧ h = h0) := by
  refine enter (Ls := #[.val (.int i), .val (.int j)]) (plainFor_of_name pn_8) (fun m => by exact entry_eq rfl) ?_
  intro p e s m below meth cd_ s₁ S0 hx hby hml hret hlk hnm hown hZ X0 e0 k0
  have N0 := Fr.nil n0
  have k1 : To p.tables e below S0 (s₁.setTop (mkF m 37 #[.val (.int i), .val (.int j)] [])) := fun tt hq => k0 tt (by
    refine XS.iloadN X0.here hx rfl (hb hby d_jdk_65_method_131_code_0) rfl ?_
    refine XS.iloadN X0.here hx rfl (hb hby d_jdk_65_method_131_code_1) rfl ?_
    refine XS.icmpYes X0.here hx rfl (pc0 := 2) (pc' := 37) rfl (hb hby d_jdk_65_method_131_code_2) rfl (flt q2).2.1 (by decide) (by decide) ?_
    exact hq)
  have hE := e0
  refine retVoid X0 hx hret hlk (hb hby d_jdk_65_method_131_code_37) k1 ?_ (by decide) (by decide)
  try rw [hE]
  exact ⟨rfl, N0, rfl⟩
theorem d_jdk_42_method_151_code_0 : decode jdk_42_method_151_code 0 = .ok (.aload_n 0, 1) := by decide +kernel
theorem d_jdk_42_method_151_code_1 : decode jdk_42_method_151_code 1 = .ok (.invokespecial 1, 3) := by decide +kernel
theorem d_jdk_42_method_151_code_4 : decode jdk_42_method_151_code 4 = .ok (.aload_n 0, 1) := by decide +kernel
theorem d_jdk_42_method_151_code_5 : decode jdk_42_method_151_code 5 = .ok (.aload_n 1, 1) := by decide +kernel
theorem d_jdk_42_method_151_code_6 : decode jdk_42_method_151_code 6 = .ok (.putfield 9, 3) := by decide +kernel
theorem d_jdk_42_method_151_code_9 : decode jdk_42_method_151_code 9 = .ok (.aload_n 0, 1) := by decide +kernel
theorem d_jdk_42_method_151_code_10 : decode jdk_42_method_151_code 10 = .ok (.iload_n 2, 1) := by decide +kernel
theorem d_jdk_42_method_151_code_11 : decode jdk_42_method_151_code 11 = .ok (.putfield 15, 3) := by decide +kernel
theorem d_jdk_42_method_151_code_14 : decode jdk_42_method_151_code 14 = .ok (.return_, 1) := by decide +kernel
set_option maxRecDepth 65536 in
set_option maxHeartbeats 40000000 in
theorem rm_sbb (l : Launch) (Z : State) (a0 : Array Value) (hw : ∀ d ∈ tables_1, d.before a0 Z = true) (a : Addr) (t : Addr) (u1 : Value) (u2 : Value) (h0 : Heap) (n0 : Nat) (hn0 : n0 ≤ h0.size) (E0 : Exa Z h0 a "java/lang/String") (F1 : Fld Z h0 a "java/lang/String" "value" "[B" u1) (F2 : Fld Z h0 a "java/lang/String" "coder" "B" u2) (ga : n0 ≤ a) :
    Con l Z (⟨"java/lang/String", "<init>", "([BB)V"⟩ : MethodName) jdk_42_method_151_code 3 none [] ({ frames := 1, cells := 0, slots := 0, locals := 12 } : Room) #[(.ref a), (.ref t), (.int (0 : Int32))] h0 (fun v h L => v = none ∧ Fr n0 L ∧ Keep h0 h [a] ∧ Exa Z h a "java/lang/String" ∧ Fld Z h a "java/lang/String" "value" "[B" (.ref t) ∧ Fld Z h a "java/lang/String" "coder" "B" (.int (0 : Int32))) := by
  refine enter (Ls := #[.val (.ref a), .val (.ref t), .val (.int (0 : Int32))]) (plainFor_of_name pn_1) (fun m => by exact entry_eq rfl) ?_
  intro p e s m below meth cd_ s₁ S0 hx hby hml hret hlk hnm hown hZ X0 e0 k0
  have N0 := Fr.nil n0
  have k1 : To p.tables e below S0 (s₁.setTop (mkF m 1 #[.val (.ref a), .val (.ref t), .val (.int (0 : Int32))] [(.ref a)])) := fun tt hq => k0 tt (by
    refine XS.aloadN X0.here hx rfl (hb hby d_jdk_42_method_151_code_0) rfl rfl ?_
    exact hq)
  obtain ⟨T2, X2, e2, st2⟩ := initO X0 hx hZ hown (wq hw 11 rfl) (wq hw 12 rfl) (wq hw 13 rfl) e0 (g := (mkF m 1 #[.val (.ref a), .val (.ref t), .val (.int (0 : Int32))] [(.ref a)])) rfl (by rw [hml]; rfl) rfl (hb hby d_jdk_42_method_151_code_1) (by decide) (W := 0) (by show 2 * 0 + _ ≤ _; exact Nat.le_of_eq rfl) (by decide)
  have k2 : To p.tables e below S0 (T2.setTop (mkF m 4 #[.val (.ref a), .val (.ref t), .val (.int (0 : Int32))] [])) := fun tt hq => k1 tt (st2 tt hq)
  have k3 : To p.tables e below S0 (T2.setTop (mkF m 6 #[.val (.ref a), .val (.ref t), .val (.int (0 : Int32))] [(.ref t), (.ref a)])) := fun tt hq => k2 tt (by
    refine XS.aloadN X2.here hx rfl (hb hby d_jdk_42_method_151_code_4) rfl rfl ?_
    refine XS.aloadN X2.here hx rfl (hb hby d_jdk_42_method_151_code_5) rfl rfl ?_
    exact hq)
  obtain ⟨T4, h4, X4, e4, W4, st4⟩ := putF X2 hx hZ hown (host := "") (Or.inl (wq hw 28 rfl)) Via.refl e2 F1 E0 (Or.inr ⟨(wq hw 29 rfl), rfl, hnm⟩) (wq hw 2 rfl) (ty := (.array .byte)) (by decide) rfl rfl (g := (mkF m 6 #[.val (.ref a), .val (.ref t), .val (.int (0 : Int32))] [(.ref t), (.ref a)])) rfl rfl (hb hby d_jdk_42_method_151_code_6)
  have k4 : To p.tables e below S0 (T4.setTop (mkF m 9 #[.val (.ref a), .val (.ref t), .val (.int (0 : Int32))] [])) := fun tt hq => k3 tt (st4 tt hq)
  have z4 : h4.size = h0.size := W4.size
  have F4 := F1.same W4
  have N4 := Fr.snoc X4 N0 (by omega : n0 ≤ a)
  have f5 : Exa Z h4 a "java/lang/String" := (E0.wr W4)
  have f6 : Fld Z h4 a "java/lang/String" "coder" "B" u2 := (F2.other W4 (Or.inr (slot_ne (Or.inr (wq hw 27 rfl)) (Or.inr (wq hw 29 rfl)) (by decide) (t := .byte) (t' := (.array .byte)) (by decide) (by decide))))
  have k7 : To p.tables e below S0 (T4.setTop (mkF m 11 #[.val (.ref a), .val (.ref t), .val (.int (0 : Int32))] [(.int (0 : Int32)), (.ref a)])) := fun tt hq => k4 tt (by
    refine XS.aloadN X4.here hx rfl (hb hby d_jdk_42_method_151_code_9) rfl rfl ?_
    refine XS.iloadN X4.here hx rfl (hb hby d_jdk_42_method_151_code_10) rfl ?_
    exact hq)
  obtain ⟨T8, h8, X8, e8, W8, st8⟩ := putF X4 hx hZ hown (host := "") (Or.inl (wq hw 26 rfl)) Via.refl e4 f6 f5 (Or.inr ⟨(wq hw 27 rfl), rfl, hnm⟩) (wq hw 2 rfl) (ty := .byte) (by decide) rfl rfl (g := (mkF m 11 #[.val (.ref a), .val (.ref t), .val (.int (0 : Int32))] [(.int (0 : Int32)), (.ref a)])) rfl rfl (hb hby d_jdk_42_method_151_code_11)
  have k8 : To p.tables e below S0 (T8.setTop (mkF m 14 #[.val (.ref a), .val (.ref t), .val (.int (0 : Int32))] [])) := fun tt hq => k7 tt (st8 tt hq)
  have z8 : h8.size = h4.size := W8.size
  have F8 := f6.same W8
  have N8 := Fr.snoc X8 N4 (by omega : n0 ≤ a)
  have f9 : Exa Z h8 a "java/lang/String" := (f5.wr W8)
  have f10 : Fld Z h8 a "java/lang/String" "value" "[B" (.ref t) := (F4.other W8 (Or.inr (slot_ne (Or.inr (wq hw 29 rfl)) (Or.inr (wq hw 27 rfl)) (by decide) (t := (.array .byte)) (t' := .byte) (by decide) (by decide))))
  have hE := e8
  refine retVoid X8 hx hret hlk (hb hby d_jdk_42_method_151_code_14) k8 ?_ (by decide) (by decide)
  try rw [hE]
  exact ⟨rfl, N8, (((Keep.refl h0 [a]).wr W4 (Or.inl (by simp))).wr W8 (Or.inl (by simp))), f9, f10, F8⟩
theorem d_jdk_42_method_55_code_0 : decode jdk_42_method_55_code 0 = .ok (.aload_n 0, 1) := by decide +kernel
theorem d_jdk_42_method_55_code_1 : decode jdk_42_method_55_code 1 = .ok (.getfield 9, 3) := by decide +kernel
theorem d_jdk_42_method_55_code_4 : decode jdk_42_method_55_code 4 = .ok (.arraylength, 1) := by decide +kernel
theorem d_jdk_42_method_55_code_5 : decode jdk_42_method_55_code 5 = .ok (.ifCond .ne 7, 3) := by decide +kernel
theorem d_jdk_42_method_55_code_8 : decode jdk_42_method_55_code 8 = .ok (.iconst 1, 1) := by decide +kernel
theorem d_jdk_42_method_55_code_9 : decode jdk_42_method_55_code 9 = .ok (.goto 4, 3) := by decide +kernel
theorem d_jdk_42_method_55_code_12 : decode jdk_42_method_55_code 12 = .ok (.iconst 0, 1) := by decide +kernel
theorem d_jdk_42_method_55_code_13 : decode jdk_42_method_55_code 13 = .ok (.ireturn, 1) := by decide +kernel
set_option maxRecDepth 65536 in
set_option maxHeartbeats 40000000 in
theorem rm_em (l : Launch) (Z : State) (a0 : Array Value) (hw : ∀ d ∈ tables_1, d.before a0 Z = true) (a : Addr) (t : Addr) (kt : ClassId) (h0 : Heap) (n0 : Nat) (hn0 : n0 ≤ h0.size) (P0 : Exa Z h0 a "java/lang/String") (P1 : Fld Z h0 a "java/lang/String" "value" "[B" (.ref t)) (P2 : Fld Z h0 a "java/lang/String" "coder" "B" (.int (0 : Int32))) (P3 : Arv Z h0 t kt .byte (0 : Int32) [] (.int 0)) :
    Con l Z (⟨"java/lang/String", "isEmpty", "()Z"⟩ : MethodName) jdk_42_method_55_code 1 (some .boolean) [] ({ frames := 0, cells := 0, slots := 0, locals := 0 } : Room) #[(.ref a)] h0 (fun v h L => v = some (.int (1 : Int32)) ∧ Fr n0 L ∧ h = h0) := by
  refine enter (Ls := #[.val (.ref a)]) (plainFor_of_name pn_1) (fun m => by exact entry_eq rfl) ?_
  intro p e s m below meth cd_ s₁ S0 hx hby hml hret hlk hnm hown hZ X0 e0 k0
  have N0 := Fr.nil n0
  have k1 : To p.tables e below S0 (s₁.setTop (mkF m 1 #[.val (.ref a)] [(.ref a)])) := fun tt hq => k0 tt (by
    refine XS.aloadN X0.here hx rfl (hb hby d_jdk_42_method_55_code_0) rfl rfl ?_
    exact hq)
  obtain ⟨T2, X2, e2, st2⟩ := getF X0 hx hZ hown (host := "") (Or.inl (wq hw 28 rfl)) Via.refl e0 P1 (g := (mkF m 1 #[.val (.ref a)] [(.ref a)])) rfl rfl (hb hby d_jdk_42_method_55_code_1)
  have k2 : To p.tables e below S0 (T2.setTop (mkF m 4 #[.val (.ref a)] [(.ref t)])) := fun tt hq => k1 tt (st2 tt hq)
  obtain ⟨cl3, Ar3, -, S3, M3, -, -⟩ := id P3
  have st3 := fun tt => X2.arraylength hx (by rw [e2]; exact Ar3.1) (State.isArrayOf_alike hZ.alike Ar3.2.1) (g := (mkF m 4 #[.val (.ref a)] [(.ref t)])) rfl rfl (hb hby d_jdk_42_method_55_code_4) tt
  rw [len_of S3 M3] at st3
  have k3 : To p.tables e below S0 (T2.setTop (mkF m 5 #[.val (.ref a)] [(.int (0 : Int32))])) := fun tt hq => k2 tt (st3 tt hq)
  have k4 : To p.tables e below S0 (T2.setTop (mkF m 13 #[.val (.ref a)] [(.int (1 : Int32))])) := fun tt hq => k3 tt (by
    refine XS.ifNo X2.here hx rfl (hb hby d_jdk_42_method_55_code_5) rfl ((if0 _ _).trans (teq (by decide)).2) ?_
    refine XS.iconst X2.here hx rfl (hb hby d_jdk_42_method_55_code_8) ?_
    refine XS.goto X2.here hx rfl (pc0 := 9) (pc' := 13) rfl (hb hby d_jdk_42_method_55_code_9) (by decide) (by decide) ?_
    exact hq)
  have hE := e2
  refine retInt X2 hx hret hlk (by simp) rfl (hb hby d_jdk_42_method_55_code_13) k4 ?_ (by decide) (by decide)
  try rw [hE]
  exact ⟨rfl, N0, rfl⟩
theorem pn_9 : plainName "com/example/ceruline/ceruline/parsing/SourceReaderTextFromPinLaw" = true := by first | (simp [plainName, overriddenIn]; done) | decide +kernel
theorem pd_12 : parseMethodDescriptor "([C)V" = some ⟨[(.array .char)], none⟩ := by decide +kernel
theorem pd_13 : parseMethodDescriptor "(Ljava/lang/String;Ljava/lang/String;)V" = some ⟨[(.object "java/lang/String"), (.object "java/lang/String")], none⟩ := by decide +kernel
theorem pd_14 : parseMethodDescriptor "(Lcom/example/ceruline/ceruline/source/SourceFile;)V" = some ⟨[(.object "com/example/ceruline/ceruline/source/SourceFile")], none⟩ := by decide +kernel
theorem pd_15 : parseMethodDescriptor "(II)I" = some ⟨[.int, .int], some .int⟩ := by decide +kernel
theorem d_method_2_code_0 : decode method_2_code 0 = .ok (.iload_n 1, 1) := by decide +kernel
theorem d_method_2_code_1 : decode method_2_code 1 = .ok (.iconst 1, 1) := by decide +kernel
theorem d_method_2_code_2 : decode method_2_code 2 = .ok (.if_icmp .lt 7, 3) := by decide +kernel
theorem d_method_2_code_5 : decode method_2_code 5 = .ok (.aload_n 0, 1) := by decide +kernel
theorem d_method_2_code_6 : decode method_2_code 6 = .ok (.invokevirtual 7, 3) := by decide +kernel
theorem d_method_2_code_9 : decode method_2_code 9 = .ok (.iload_n 1, 1) := by decide +kernel
theorem d_method_2_code_10 : decode method_2_code 10 = .ok (.iconst 2, 1) := by decide +kernel
theorem d_method_2_code_11 : decode method_2_code 11 = .ok (.if_icmp .lt 7, 3) := by decide +kernel
theorem d_method_2_code_14 : decode method_2_code 14 = .ok (.aload_n 0, 1) := by decide +kernel
theorem d_method_2_code_15 : decode method_2_code 15 = .ok (.invokevirtual 7, 3) := by decide +kernel
theorem d_method_2_code_18 : decode method_2_code 18 = .ok (.iload_n 1, 1) := by decide +kernel
theorem d_method_2_code_19 : decode method_2_code 19 = .ok (.iconst 3, 1) := by decide +kernel
theorem d_method_2_code_20 : decode method_2_code 20 = .ok (.if_icmp .lt 7, 3) := by decide +kernel
theorem d_method_2_code_23 : decode method_2_code 23 = .ok (.aload_n 0, 1) := by decide +kernel
theorem d_method_2_code_24 : decode method_2_code 24 = .ok (.invokevirtual 7, 3) := by decide +kernel
theorem d_method_2_code_27 : decode method_2_code 27 = .ok (.return_, 1) := by decide +kernel
set_option maxRecDepth 65536 in
set_option maxHeartbeats 40000000 in
theorem rm_st0_0 (l : Launch) (Z : State) (a0 : Array Value) (hw : ∀ d ∈ tables_1, d.before a0 Z = true) (zc : Int32) (fm : Value) (r : Addr) (so : Addr) (a : Addr) (t : Addr) (kt : ClassId) (c0 : Int32) (c1 : Int32) (c2 : Int32) (xl : Int32) (xc : Int32) (h0 : Heap) (n0 : Nat) (hn0 : n0 ≤ h0.size) (S_c : Sta Z Z.heap "java/lang/String" "COMPACT_STRINGS" "Z" (.int zc)) (hzc : ¬ zc = (0 : Int32)) (S_f : Sta Z Z.heap "jdk/internal/util/Preconditions" "SIOOBE_FORMATTER" "Ljava/util/function/BiFunction;" fm) (hfm : fm.isRef = true) (O0 : Old Z n0 h0) (P0 : Exa Z h0 r "com/example/ceruline/ceruline/parsing/SourceReader") (P1 : Fld Z h0 r "com/example/ceruline/ceruline/parsing/SourceReader" "source" "Lcom/example/ceruline/ceruline/source/SourceFile;" (.ref so)) (P2 : Fld Z h0 r "com/example/ceruline/ceruline/parsing/SourceReader" "text" "Ljava/lang/String;" (.ref a)) (P3 : Fld Z h0 r "com/example/ceruline/ceruline/parsing/SourceReader" "offset" "I" (.int (0 : Int32))) (P4 : Fld Z h0 r "com/example/ceruline/ceruline/parsing/SourceReader" "line" "I" (.int xl)) (P5 : Fld Z h0 r "com/example/ceruline/ceruline/parsing/SourceReader" "column" "I" (.int xc)) (R0 : Exa Z h0 a "java/lang/String") (R1 : Fld Z h0 a "java/lang/String" "value" "[B" (.ref t)) (R2 : Fld Z h0 a "java/lang/String" "coder" "B" (.int (0 : Int32))) (R3 : Arv Z h0 t kt .byte (3 : Int32) [(.int c0), (.int c1), (.int c2)] (.int 0)) (ga : n0 ≤ r) (nra : ¬ (@Eq Nat a r)) (nrt : ¬ (@Eq Nat t r)) :
    Con l Z (⟨"com/example/ceruline/ceruline/parsing/SourceReaderTextFromPinLaw", "steps", "(Lcom/example/ceruline/ceruline/parsing/SourceReader;I)V"⟩ : MethodName) method_2_code 2 none [] ({ frames := 0, cells := 0, slots := 0, locals := 0 } : Room) #[(.ref r), (.int (0 : Int32))] h0 (fun v h L => ∃ (y1 y2 : Int32), v = none ∧ Fr n0 L ∧ Keep h0 h [r] ∧ Exa Z h r "com/example/ceruline/ceruline/parsing/SourceReader" ∧ Fld Z h r "com/example/ceruline/ceruline/parsing/SourceReader" "source" "Lcom/example/ceruline/ceruline/source/SourceFile;" (.ref so) ∧ Fld Z h r "com/example/ceruline/ceruline/parsing/SourceReader" "text" "Ljava/lang/String;" (.ref a) ∧ Fld Z h r "com/example/ceruline/ceruline/parsing/SourceReader" "offset" "I" (.int (0 : Int32)) ∧ Fld Z h r "com/example/ceruline/ceruline/parsing/SourceReader" "line" "I" (.int y1) ∧ Fld Z h r "com/example/ceruline/ceruline/parsing/SourceReader" "column" "I" (.int y2)) := by
  refine enter (Ls := #[.val (.ref r), .val (.int (0 : Int32))]) (plainFor_of_name pn_9) (fun m => by exact entry_eq rfl) ?_
  intro p e s m below meth cd_ s₁ S0 hx hby hml hret hlk hnm hown hZ X0 e0 k0
  have N0 := Fr.nil n0
  have k1 : To p.tables e below S0 (s₁.setTop (mkF m 27 #[.val (.ref r), .val (.int (0 : Int32))] [])) := fun tt hq => k0 tt (by
    refine XS.iloadN X0.here hx rfl (hb hby d_method_2_code_0) rfl ?_
    refine XS.iconst X0.here hx rfl (hb hby d_method_2_code_1) ?_
    refine XS.icmpYes X0.here hx rfl (pc0 := 2) (pc' := 9) rfl (hb hby d_method_2_code_2) rfl (tlt (by decide)).1 (by decide) (by decide) ?_
    refine XS.iloadN X0.here hx rfl (hb hby d_method_2_code_9) rfl ?_
    refine XS.iconst X0.here hx rfl (hb hby d_method_2_code_10) ?_
    refine XS.icmpYes X0.here hx rfl (pc0 := 11) (pc' := 18) rfl (hb hby d_method_2_code_11) rfl (tlt (by decide)).1 (by decide) (by decide) ?_
    refine XS.iloadN X0.here hx rfl (hb hby d_method_2_code_18) rfl ?_
    refine XS.iconst X0.here hx rfl (hb hby d_method_2_code_19) ?_
    refine XS.icmpYes X0.here hx rfl (pc0 := 20) (pc' := 27) rfl (hb hby d_method_2_code_20) rfl (tlt (by decide)).1 (by decide) (by decide) ?_
    exact hq)
  have hE := e0
  refine retVoid X0 hx hret hlk (hb hby d_method_2_code_27) k1 ?_ (by decide) (by decide)
  try rw [hE]
  exact ⟨_, _, rfl, N0, (Keep.refl h0 [r]), P0, P1, P2, P3, P4, P5⟩
theorem pd_16 : parseMethodDescriptor "(Lcom/example/ceruline/ceruline/parsing/SourceReader;I)V" = some ⟨[(.object "com/example/ceruline/ceruline/parsing/SourceReader"), .int], none⟩ := by decide +kernel
theorem pd_17 : parseMethodDescriptor "()I" = some ⟨[], some .int⟩ := by decide +kernel
theorem d_prog_66_method_8_code_0 : decode prog_66_method_8_code 0 = .ok (.aload_n 0, 1) := by decide +kernel
theorem d_prog_66_method_8_code_1 : decode prog_66_method_8_code 1 = .ok (.getfield 26, 3) := by decide +kernel
theorem d_prog_66_method_8_code_4 : decode prog_66_method_8_code 4 = .ok (.iload_n 1, 1) := by decide +kernel
theorem d_prog_66_method_8_code_5 : decode prog_66_method_8_code 5 = .ok (.aload_n 0, 1) := by decide +kernel
theorem d_prog_66_method_8_code_6 : decode prog_66_method_8_code 6 = .ok (.getfield 29, 3) := by decide +kernel
theorem d_prog_66_method_8_code_9 : decode prog_66_method_8_code 9 = .ok (.invokevirtual 64, 3) := by decide +kernel
theorem d_prog_66_method_8_code_12 : decode prog_66_method_8_code 12 = .ok (.areturn, 1) := by decide +kernel
theorem d_jdk_42_method_92_code_0 : decode jdk_42_method_92_code 0 = .ok (.aload_n 0, 1) := by decide +kernel
theorem d_jdk_42_method_92_code_1 : decode jdk_42_method_92_code 1 = .ok (.invokevirtual 505, 3) := by decide +kernel
theorem d_jdk_42_method_92_code_4 : decode jdk_42_method_92_code 4 = .ok (.istore_n 3, 1) := by decide +kernel
theorem d_jdk_42_method_92_code_5 : decode jdk_42_method_92_code 5 = .ok (.iload_n 1, 1) := by decide +kernel
theorem d_jdk_42_method_92_code_6 : decode jdk_42_method_92_code 6 = .ok (.iload_n 2, 1) := by decide +kernel
theorem d_jdk_42_method_92_code_7 : decode jdk_42_method_92_code 7 = .ok (.iload_n 3, 1) := by decide +kernel
theorem d_jdk_42_method_92_code_8 : decode jdk_42_method_92_code 8 = .ok (.invokestatic 521, 3) := by decide +kernel
theorem d_jdk_42_method_92_code_11 : decode jdk_42_method_92_code 11 = .ok (.iload_n 1, 1) := by decide +kernel
theorem d_jdk_42_method_92_code_12 : decode jdk_42_method_92_code 12 = .ok (.ifCond .ne 10, 3) := by decide +kernel
theorem d_jdk_42_method_92_code_15 : decode jdk_42_method_92_code 15 = .ok (.iload_n 2, 1) := by decide +kernel
theorem d_jdk_42_method_92_code_16 : decode jdk_42_method_92_code 16 = .ok (.iload_n 3, 1) := by decide +kernel
theorem d_jdk_42_method_92_code_17 : decode jdk_42_method_92_code 17 = .ok (.if_icmp .ne 5, 3) := by decide +kernel
theorem d_jdk_42_method_92_code_20 : decode jdk_42_method_92_code 20 = .ok (.aload_n 0, 1) := by decide +kernel
theorem d_jdk_42_method_92_code_21 : decode jdk_42_method_92_code 21 = .ok (.areturn, 1) := by decide +kernel
theorem d_jdk_42_method_92_code_22 : decode jdk_42_method_92_code 22 = .ok (.iload_n 2, 1) := by decide +kernel
theorem d_jdk_42_method_92_code_23 : decode jdk_42_method_92_code 23 = .ok (.iload_n 1, 1) := by decide +kernel
theorem d_jdk_42_method_92_code_24 : decode jdk_42_method_92_code 24 = .ok (.isub, 1) := by decide +kernel
theorem d_jdk_42_method_92_code_25 : decode jdk_42_method_92_code 25 = .ok (.istore 4, 2) := by decide +kernel
theorem d_jdk_42_method_92_code_27 : decode jdk_42_method_92_code 27 = .ok (.aload_n 0, 1) := by decide +kernel
theorem d_jdk_42_method_92_code_28 : decode jdk_42_method_92_code 28 = .ok (.invokevirtual 492, 3) := by decide +kernel
theorem d_jdk_42_method_92_code_31 : decode jdk_42_method_92_code 31 = .ok (.ifCond .eq 16, 3) := by decide +kernel
theorem d_jdk_42_method_92_code_34 : decode jdk_42_method_92_code 34 = .ok (.aload_n 0, 1) := by decide +kernel
theorem d_jdk_42_method_92_code_35 : decode jdk_42_method_92_code 35 = .ok (.getfield 9, 3) := by decide +kernel
theorem d_jdk_42_method_92_code_38 : decode jdk_42_method_92_code 38 = .ok (.iload_n 1, 1) := by decide +kernel
theorem d_jdk_42_method_92_code_39 : decode jdk_42_method_92_code 39 = .ok (.iload 4, 2) := by decide +kernel
theorem d_jdk_42_method_92_code_41 : decode jdk_42_method_92_code 41 = .ok (.invokestatic 685, 3) := by decide +kernel
theorem d_jdk_42_method_92_code_44 : decode jdk_42_method_92_code 44 = .ok (.goto 13, 3) := by decide +kernel
theorem d_jdk_42_method_92_code_47 : decode jdk_42_method_92_code 47 = .ok (.aload_n 0, 1) := by decide +kernel
theorem d_jdk_42_method_92_code_48 : decode jdk_42_method_92_code 48 = .ok (.getfield 9, 3) := by decide +kernel
theorem d_jdk_42_method_92_code_51 : decode jdk_42_method_92_code 51 = .ok (.iload_n 1, 1) := by decide +kernel
theorem d_jdk_42_method_92_code_52 : decode jdk_42_method_92_code 52 = .ok (.iload 4, 2) := by decide +kernel
theorem d_jdk_42_method_92_code_54 : decode jdk_42_method_92_code 54 = .ok (.invokestatic 689, 3) := by decide +kernel
theorem d_jdk_42_method_92_code_57 : decode jdk_42_method_92_code 57 = .ok (.areturn, 1) := by decide +kernel
theorem pd_18 : parseMethodDescriptor "(III)V" = some ⟨[.int, .int, .int], none⟩ := by decide +kernel
theorem d_jdk_43_method_47_code_0 : decode jdk_43_method_47_code 0 = .ok (.iload_n 2, 1) := by decide +kernel
theorem d_jdk_43_method_47_code_1 : decode jdk_43_method_47_code 1 = .ok (.ifCond .ne 6, 3) := by decide +kernel
theorem d_jdk_43_method_47_code_4 : decode jdk_43_method_47_code 4 = .ok (.ldc 151, 2) := by decide +kernel
theorem d_jdk_43_method_47_code_6 : decode jdk_43_method_47_code 6 = .ok (.areturn, 1) := by decide +kernel
theorem d_jdk_43_method_47_code_7 : decode jdk_43_method_47_code 7 = .ok (.new 1, 3) := by decide +kernel
theorem d_jdk_43_method_47_code_10 : decode jdk_43_method_47_code 10 = .ok (.dup, 1) := by decide +kernel
theorem d_jdk_43_method_47_code_11 : decode jdk_43_method_47_code 11 = .ok (.aload_n 0, 1) := by decide +kernel
theorem d_jdk_43_method_47_code_12 : decode jdk_43_method_47_code 12 = .ok (.iload_n 1, 1) := by decide +kernel
theorem d_jdk_43_method_47_code_13 : decode jdk_43_method_47_code 13 = .ok (.iload_n 1, 1) := by decide +kernel
theorem d_jdk_43_method_47_code_14 : decode jdk_43_method_47_code 14 = .ok (.iload_n 2, 1) := by decide +kernel
theorem d_jdk_43_method_47_code_15 : decode jdk_43_method_47_code 15 = .ok (.iadd, 1) := by decide +kernel
theorem d_jdk_43_method_47_code_16 : decode jdk_43_method_47_code 16 = .ok (.invokestatic 232, 3) := by decide +kernel
theorem d_jdk_43_method_47_code_19 : decode jdk_43_method_47_code 19 = .ok (.iconst 0, 1) := by decide +kernel
theorem d_jdk_43_method_47_code_20 : decode jdk_43_method_47_code 20 = .ok (.invokespecial 112, 3) := by decide +kernel
theorem d_jdk_43_method_47_code_23 : decode jdk_43_method_47_code 23 = .ok (.areturn, 1) := by decide +kernel
set_option maxRecDepth 65536 in
set_option maxHeartbeats 40000000 in
theorem rm_ns0 (l : Launch) (Z : State) (a0 : Array Value) (hw : ∀ d ∈ tables_1, d.before a0 Z = true) (t : Addr) (i : Int32) (h0 : Heap) (n0 : Nat) (hn0 : n0 ≤ h0.size)  :
    ConW l Z own_EL (⟨"java/lang/StringLatin1", "newString", "([BII)Ljava/lang/String;"⟩ : MethodName) jdk_43_method_47_code 3 (some (.object "java/lang/String")) [] ({ frames := 0, cells := 2, slots := 4, locals := 0 } : Room) #[(.ref t), (.int i), (.int (0 : Int32))] h0 [] (fun v h L => ∃ (b t : Addr) (k : ClassId), v = some (.ref b) ∧ Fr n0 L ∧ (@LT.lt Nat instLTNat b h.size) ∧ (@LT.lt Nat instLTNat t h.size) ∧ Keep h0 h [] ∧ Exa Z h b "java/lang/String" ∧ Fld Z h b "java/lang/String" "value" "[B" (.ref t) ∧ Fld Z h b "java/lang/String" "coder" "B" (.int (0 : Int32)) ∧ Arv Z h t k .byte (0 : Int32) [] (.int 0)) := by
  refine enterW (Ls := #[.val (.ref t), .val (.int i), .val (.int (0 : Int32))]) (plainFor_of_name pn_4) (fun m => by exact entry_eq rfl) ?_
  intro p e s m below meth cd_ s₁ S0 vm0 hx hby hml hret hlk hnm hown hZ X0 e0 k0 C0 hsf hS0
  have N0 := Fr.nil n0
  have k1 : To p.tables e below S0 (s₁.setTop (mkF m 4 #[.val (.ref t), .val (.int i), .val (.int (0 : Int32))] [])) := fun tt hq => k0 tt (by
    refine XS.iloadN X0.here hx rfl (hb hby d_jdk_43_method_47_code_0) rfl ?_
    refine XS.ifNo X0.here hx rfl (hb hby d_jdk_43_method_47_code_1) rfl ((if0 _ _).trans (teq (by decide)).2) ?_
    exact hq)
  obtain ⟨a2, T2, h2, kk2, b2, c2, X2, e2, E2, hS2, hk2, hZ2a, hown2a, A2, Fc2, Fv2, V2, ya2, yb2, Cq2, -, hne2, st2⟩ := ldcCH X0 hx hZ hown (wq hw 142 rfl) (own_wS hw) e0 hS0 (by omega) (own_EW hw) (List.mem_of_getElem? (i := 1) rfl) C0.1 (vs := []) (z := (0 : Int32)) ⟨by decide, by decide⟩ (by decide) (by decide) (g := (mkF m 4 #[.val (.ref t), .val (.int i), .val (.int (0 : Int32))] [])) rfl (hb hby d_jdk_43_method_47_code_4) (n := 0) (by decide) (by decide) (by decide) (by decide)
  have k2 : To p.tables e below S0 (T2.setTop (mkF m 6 #[.val (.ref t), .val (.int i), .val (.int (0 : Int32))] [(.ref a2)])) := fun tt hq => k1 tt (st2 tt hq)
  have hZ2 : Z.Warmed39 T2.vm := hZ2a
  have hown2 : T2.vm.findClass "java/lang/StringLatin1" = some m.cls := hown2a
  have z2 : h0.size ≤ h2.size := E2.1
  have C2 := C0.trans Cq2
  refine retRefW X2 hx hZ2 (own_EW hw) hS2 (by omega) C2 e2 hret hlk rfl rfl (hb hby d_jdk_43_method_47_code_6) k2 ?_ (by decide) (by decide)
  exact ⟨_, _, _, rfl, N0, A2.lt, V2.lt, ((Keep.refl h0 []).ext E2), A2, Fv2, Fc2, V2⟩
theorem pd_19 : parseMethodDescriptor "([BII)Ljava/lang/String;" = some ⟨[(.array .byte), .int, .int], some (.object "java/lang/String")⟩ := by decide +kernel
set_option maxRecDepth 65536 in
set_option maxHeartbeats 40000000 in
theorem rm_sub0_0 (l : Launch) (Z : State) (a0 : Array Value) (hw : ∀ d ∈ tables_1, d.before a0 Z = true) (zc : Int32) (fm : Value) (a : Addr) (t : Addr) (kt : ClassId) (c0 : Int32) (c1 : Int32) (c2 : Int32) (h0 : Heap) (n0 : Nat) (hn0 : n0 ≤ h0.size) (S_c : Sta Z Z.heap "java/lang/String" "COMPACT_STRINGS" "Z" (.int zc)) (hzc : ¬ zc = (0 : Int32)) (S_f : Sta Z Z.heap "jdk/internal/util/Preconditions" "SIOOBE_FORMATTER" "Ljava/util/function/BiFunction;" fm) (hfm : fm.isRef = true) (O0 : Old Z n0 h0) (P0 : Exa Z h0 a "java/lang/String") (P1 : Fld Z h0 a "java/lang/String" "value" "[B" (.ref t)) (P2 : Fld Z h0 a "java/lang/String" "coder" "B" (.int (0 : Int32))) (P3 : Arv Z h0 t kt .byte (3 : Int32) [(.int c0), (.int c1), (.int c2)] (.int 0)) (yt : @LT.lt Nat instLTNat t h0.size) :
    ConW l Z own_EL (⟨"java/lang/String", "substring", "(II)Ljava/lang/String;"⟩ : MethodName) jdk_42_method_92_code 5 (some (.object "java/lang/String")) [] ({ frames := 2, cells := 2, slots := 4, locals := 29 } : Room) #[(.ref a), (.int (0 : Int32)), (.int (0 : Int32))] h0 [] (fun v h L => ∃ (b t : Addr) (k : ClassId), v = some (.ref b) ∧ Fr n0 L ∧ (@LT.lt Nat instLTNat b h.size) ∧ (@LT.lt Nat instLTNat t h.size) ∧ Keep h0 h [] ∧ Exa Z h b "java/lang/String" ∧ Fld Z h b "java/lang/String" "value" "[B" (.ref t) ∧ Fld Z h b "java/lang/String" "coder" "B" (.int (0 : Int32)) ∧ Arv Z h t k .byte (0 : Int32) [] (.int 0)) := by
  refine enterW (Ls := #[.val (.ref a), .val (.int (0 : Int32)), .val (.int (0 : Int32)), .unset, .unset]) (plainFor_of_name pn_1) (fun m => by exact entry_eq rfl) ?_
  intro p e s m below meth cd_ s₁ S0 vm0 hx hby hml hret hlk hnm hown hZ X0 e0 k0 C0 hsf hS0
  have N0 := Fr.nil n0
  have k1 : To p.tables e below S0 (s₁.setTop (mkF m 1 #[.val (.ref a), .val (.int (0 : Int32)), .val (.int (0 : Int32)), .unset, .unset] [(.ref a)])) := fun tt hq => k0 tt (by
    refine XS.aloadN X0.here hx rfl (hb hby d_jdk_42_method_92_code_0) rfl rfl ?_
    exact hq)
  obtain ⟨_, T2, L2, X2, ⟨rfl, Nq2, eq2⟩, k2a⟩ := callV' X0 hx hZ (y := (⟨"java/lang/String", "length", "()I"⟩ : MethodName)) (z := (⟨"java/lang/String", "length", "()I"⟩ : MethodName)) hown (wq hw 122 rfl) (wq hw 123 rfl) (notFace_of_selects (args := #[]) (mvT hZ (wq hw 125 rfl))) (wq hw 125 rfl) (wq hw 124 rfl) (by decide) P0 (backC (W := 0) (rm_len3 l Z a0 hw zc a t kt c0 c1 c2 h0 n0 (by omega) S_c hzc O0 P0 P1 P2 P3) hZ (wq hw 126 rfl) (wq hw 3 rfl) (by decide) (by decide)) e0 (argsL := []) (rest := []) rfl rfl pd_17 rfl (by rw [hml]; rfl) (hb hby d_jdk_42_method_92_code_1) (Nat.le_of_eq rfl) (by decide) (by decide) k1
  have k2 : To p.tables e below S0 (T2.setTop (mkF m 4 #[.val (.ref a), .val (.int (0 : Int32)), .val (.int (0 : Int32)), .unset, .unset] [(.int (3 : Int32))])) := k2a
  have N2 := N0.app Nq2
  have e2 : T2.heap = h0 := eq2
  have k3 : To p.tables e below S0 (T2.setTop (mkF m 8 #[.val (.ref a), .val (.int (0 : Int32)), .val (.int (0 : Int32)), .val (.int (3 : Int32)), .unset] [(.int (3 : Int32)), (.int (0 : Int32)), (.int (0 : Int32))])) := fun tt hq => k2 tt (by
    refine XS.istoreN X2.here hx rfl (hb hby d_jdk_42_method_92_code_4) rfl (l' := #[.val (.ref a), .val (.int (0 : Int32)), .val (.int (0 : Int32)), .val (.int (3 : Int32)), .unset]) rfl ?_
    refine XS.iloadN X2.here hx rfl (hb hby d_jdk_42_method_92_code_5) rfl ?_
    refine XS.iloadN X2.here hx rfl (hb hby d_jdk_42_method_92_code_6) rfl ?_
    refine XS.iloadN X2.here hx rfl (hb hby d_jdk_42_method_92_code_7) rfl ?_
    exact hq)
  obtain ⟨_, T4, L4, X4, ⟨rfl, Nq4, eq4⟩, k4a⟩ := callS' X2 hx hZ (y := (⟨"java/lang/String", "checkBoundsBeginEnd", "(III)V"⟩ : MethodName)) hown (wq hw 132 rfl) (wq hw 133 rfl) (wq hw 3 rfl) (wq hw 134 rfl) (by decide) (backC (W := 0) (rm_cbe l Z a0 hw fm (0 : Int32) (0 : Int32) (3 : Int32) h0 n0 (by omega) S_f hfm O0 (by decide) (by decide) (by decide)) hZ (wq hw 134 rfl) (wq hw 3 rfl) (by decide) (by decide)) e2 (argsL := [(.int (0 : Int32)), (.int (0 : Int32)), (.int (3 : Int32))]) (rest := []) rfl rfl pd_18 rfl (by rw [hml]; rfl) (hb hby d_jdk_42_method_92_code_8) (Nat.le_of_eq rfl) (by decide) (by decide) k3
  have k4 : To p.tables e below S0 (T4.setTop (mkF m 11 #[.val (.ref a), .val (.int (0 : Int32)), .val (.int (0 : Int32)), .val (.int (3 : Int32)), .unset] [])) := k4a
  have N4 := N2.app Nq4
  have e4 : T4.heap = h0 := eq4
  have k5 : To p.tables e below S0 (T4.setTop (mkF m 28 #[.val (.ref a), .val (.int (0 : Int32)), .val (.int (0 : Int32)), .val (.int (3 : Int32)), .val (.int (0 : Int32))] [(.ref a)])) := fun tt hq => k4 tt (by
    refine XS.iloadN X4.here hx rfl (hb hby d_jdk_42_method_92_code_11) rfl ?_
    refine XS.ifNo X4.here hx rfl (hb hby d_jdk_42_method_92_code_12) rfl ((if0 _ _).trans (teq (by decide)).2) ?_
    refine XS.iloadN X4.here hx rfl (hb hby d_jdk_42_method_92_code_15) rfl ?_
    refine XS.iloadN X4.here hx rfl (hb hby d_jdk_42_method_92_code_16) rfl ?_
    refine XS.icmpYes X4.here hx rfl (pc0 := 17) (pc' := 22) rfl (hb hby d_jdk_42_method_92_code_17) rfl (feq (by decide)).2 (by decide) (by decide) ?_
    refine XS.iloadN X4.here hx rfl (hb hby d_jdk_42_method_92_code_22) rfl ?_
    refine XS.iloadN X4.here hx rfl (hb hby d_jdk_42_method_92_code_23) rfl ?_
    refine XS.isub X4.here hx rfl (hb hby d_jdk_42_method_92_code_24) rfl ?_
    refine XS.istore X4.here hx rfl (hb hby d_jdk_42_method_92_code_25) rfl (l' := #[.val (.ref a), .val (.int (0 : Int32)), .val (.int (0 : Int32)), .val (.int (3 : Int32)), .val (.int (0 : Int32))]) rfl ?_
    refine XS.aloadN X4.here hx rfl (hb hby d_jdk_42_method_92_code_27) rfl rfl ?_
    exact hq)
  obtain ⟨_, T6, L6, X6, ⟨rfl, Nq6, eq6⟩, k6a⟩ := callV' X4 hx hZ (y := (⟨"java/lang/String", "isLatin1", "()Z"⟩ : MethodName)) (z := (⟨"java/lang/String", "isLatin1", "()Z"⟩ : MethodName)) hown (wq hw 89 rfl) (wq hw 90 rfl) (notFace_of_selects (args := #[]) (mvT hZ (wq hw 92 rfl))) (wq hw 92 rfl) (wq hw 91 rfl) (by decide) P0 (backC (W := 0) (rm_latin l Z a0 hw zc a h0 n0 (by omega) S_c hzc O0 P2) hZ (wq hw 93 rfl) (wq hw 3 rfl) (by decide) (by decide)) e4 (argsL := []) (rest := []) rfl rfl pd_6 rfl (by rw [hml]; rfl) (hb hby d_jdk_42_method_92_code_28) (Nat.le_of_eq rfl) (by decide) (by decide) k5
  have k6 : To p.tables e below S0 (T6.setTop (mkF m 31 #[.val (.ref a), .val (.int (0 : Int32)), .val (.int (0 : Int32)), .val (.int (3 : Int32)), .val (.int (0 : Int32))] [(.int (1 : Int32))])) := k6a
  have N6 := N4.app Nq6
  have e6 : T6.heap = h0 := eq6
  have k7 : To p.tables e below S0 (T6.setTop (mkF m 35 #[.val (.ref a), .val (.int (0 : Int32)), .val (.int (0 : Int32)), .val (.int (3 : Int32)), .val (.int (0 : Int32))] [(.ref a)])) := fun tt hq => k6 tt (by
    refine XS.ifNo X6.here hx rfl (hb hby d_jdk_42_method_92_code_31) rfl ((if0 _ _).trans (feq (by decide)).1) ?_
    refine XS.aloadN X6.here hx rfl (hb hby d_jdk_42_method_92_code_34) rfl rfl ?_
    exact hq)
  obtain ⟨T8, X8, e8, st8⟩ := getF X6 hx hZ hown (host := "") (Or.inl (wq hw 28 rfl)) Via.refl e6 P1 (g := (mkF m 35 #[.val (.ref a), .val (.int (0 : Int32)), .val (.int (0 : Int32)), .val (.int (3 : Int32)), .val (.int (0 : Int32))] [(.ref a)])) rfl rfl (hb hby d_jdk_42_method_92_code_35)
  have k8 : To p.tables e below S0 (T8.setTop (mkF m 38 #[.val (.ref a), .val (.int (0 : Int32)), .val (.int (0 : Int32)), .val (.int (3 : Int32)), .val (.int (0 : Int32))] [(.ref t)])) := fun tt hq => k7 tt (st8 tt hq)
  have k9 : To p.tables e below S0 (T8.setTop (mkF m 41 #[.val (.ref a), .val (.int (0 : Int32)), .val (.int (0 : Int32)), .val (.int (3 : Int32)), .val (.int (0 : Int32))] [(.int (0 : Int32)), (.int (0 : Int32)), (.ref t)])) := fun tt hq => k8 tt (by
    refine XS.iloadN X8.here hx rfl (hb hby d_jdk_42_method_92_code_38) rfl ?_
    refine XS.iload X8.here hx rfl (hb hby d_jdk_42_method_92_code_39) rfl ?_
    exact hq)
  obtain ⟨_, T10, L10, X10, ⟨a10, t10, k10x, rfl, Nq10, ya10, yt10, Kq10, P100, P101, P102, P103⟩, k10a, Cq10, hS10, hZ10, hown10⟩ := callSW X8 hx hZ (y := (⟨"java/lang/StringLatin1", "newString", "([BII)Ljava/lang/String;"⟩ : MethodName)) hown hS0 (by omega) (wq hw 138 rfl) (wq hw 139 rfl) (wq hw 140 rfl) (wq hw 141 rfl) (by decide) (backOfW (W := 0) (rm_ns0 l Z a0 hw t (0 : Int32) h0 n0 (by omega)) hZ (wq hw 141 rfl) (wq hw 140 rfl) (by decide) (by decide) (own_EW hw) C0.1 all0) e8 (argsL := [(.ref t), (.int (0 : Int32)), (.int (0 : Int32))]) (rest := []) rfl rfl pd_19 rfl (by rw [hml]; rfl) (hb hby d_jdk_42_method_92_code_41) (Nat.le_of_eq rfl) (by decide) (by decide) k9
  have k10 : To p.tables e below S0 (T10.setTop (mkF m 44 #[.val (.ref a), .val (.int (0 : Int32)), .val (.int (0 : Int32)), .val (.int (3 : Int32)), .val (.int (0 : Int32))] [(.ref a10)])) := k10a
  have N10 := N6.app Nq10
  obtain ⟨h10, e10⟩ : ∃ z, T10.heap = z := ⟨_, rfl⟩
  rw [e10] at Kq10 ya10 yt10 P100 P101 P102 P103 Cq10 hS10
  have z10 : h0.size ≤ h10.size := Kq10.1
  have C10 := C0.trans Cq10
  have k11 : To p.tables e below S0 (T10.setTop (mkF m 57 #[.val (.ref a), .val (.int (0 : Int32)), .val (.int (0 : Int32)), .val (.int (3 : Int32)), .val (.int (0 : Int32))] [(.ref a10)])) := fun tt hq => k10 tt (by
    refine XS.goto X10.here hx rfl (pc0 := 44) (pc' := 57) rfl (hb hby d_jdk_42_method_92_code_44) (by decide) (by decide) ?_
    exact hq)
  refine retRefW X10 hx hZ10 (own_EW hw) hS10 (by omega) C10 e10 hret hlk rfl rfl (hb hby d_jdk_42_method_92_code_57) k11 ?_ (by decide) (by decide)
  exact ⟨_, _, _, rfl, N10, P100.lt, P103.lt, ((Keep.refl h0 []).trans Kq10 all0), P100, P101, P102, P103⟩
theorem pd_20 : parseMethodDescriptor "(II)Ljava/lang/String;" = some ⟨[.int, .int], some (.object "java/lang/String")⟩ := by decide +kernel
set_option maxRecDepth 65536 in
set_option maxHeartbeats 40000000 in
theorem rm_tf0_0 (l : Launch) (Z : State) (a0 : Array Value) (hw : ∀ d ∈ tables_1, d.before a0 Z = true) (zc : Int32) (fm : Value) (r : Addr) (a : Addr) (t : Addr) (kt : ClassId) (c0 : Int32) (c1 : Int32) (c2 : Int32) (h0 : Heap) (n0 : Nat) (hn0 : n0 ≤ h0.size) (S_c : Sta Z Z.heap "java/lang/String" "COMPACT_STRINGS" "Z" (.int zc)) (hzc : ¬ zc = (0 : Int32)) (S_f : Sta Z Z.heap "jdk/internal/util/Preconditions" "SIOOBE_FORMATTER" "Ljava/util/function/BiFunction;" fm) (hfm : fm.isRef = true) (O0 : Old Z n0 h0) (Q0 : Fld Z h0 r "com/example/ceruline/ceruline/parsing/SourceReader" "text" "Ljava/lang/String;" (.ref a)) (Q1 : Fld Z h0 r "com/example/ceruline/ceruline/parsing/SourceReader" "offset" "I" (.int (0 : Int32))) (P0 : Exa Z h0 a "java/lang/String") (P1 : Fld Z h0 a "java/lang/String" "value" "[B" (.ref t)) (P2 : Fld Z h0 a "java/lang/String" "coder" "B" (.int (0 : Int32))) (P3 : Arv Z h0 t kt .byte (3 : Int32) [(.int c0), (.int c1), (.int c2)] (.int 0)) (yt : @LT.lt Nat instLTNat t h0.size) :
    ConW l Z own_EL (⟨"com/example/ceruline/ceruline/parsing/SourceReader", "textFrom", "(I)Ljava/lang/String;"⟩ : MethodName) prog_66_method_8_code 2 (some (.object "java/lang/String")) [] ({ frames := 3, cells := 2, slots := 4, locals := 45 } : Room) #[(.ref r), (.int (0 : Int32))] h0 [] (fun v h L => ∃ (b t : Addr) (k : ClassId), v = some (.ref b) ∧ Fr n0 L ∧ (@LT.lt Nat instLTNat b h.size) ∧ (@LT.lt Nat instLTNat t h.size) ∧ Keep h0 h [] ∧ Exa Z h b "java/lang/String" ∧ Fld Z h b "java/lang/String" "value" "[B" (.ref t) ∧ Fld Z h b "java/lang/String" "coder" "B" (.int (0 : Int32)) ∧ Arv Z h t k .byte (0 : Int32) [] (.int 0)) := by
  refine enterW (Ls := #[.val (.ref r), .val (.int (0 : Int32))]) (plainFor_of_name pn_7) (fun m => by exact entry_eq rfl) ?_
  intro p e s m below meth cd_ s₁ S0 vm0 hx hby hml hret hlk hnm hown hZ X0 e0 k0 C0 hsf hS0
  have N0 := Fr.nil n0
  have k1 : To p.tables e below S0 (s₁.setTop (mkF m 1 #[.val (.ref r), .val (.int (0 : Int32))] [(.ref r)])) := fun tt hq => k0 tt (by
    refine XS.aloadN X0.here hx rfl (hb hby d_prog_66_method_8_code_0) rfl rfl ?_
    exact hq)
  obtain ⟨T2, X2, e2, st2⟩ := getF X0 hx hZ hown (host := "") (Or.inl (wq hw 67 rfl)) Via.refl e0 Q0 (g := (mkF m 1 #[.val (.ref r), .val (.int (0 : Int32))] [(.ref r)])) rfl rfl (hb hby d_prog_66_method_8_code_1)
  have k2 : To p.tables e below S0 (T2.setTop (mkF m 4 #[.val (.ref r), .val (.int (0 : Int32))] [(.ref a)])) := fun tt hq => k1 tt (st2 tt hq)
  have k3 : To p.tables e below S0 (T2.setTop (mkF m 6 #[.val (.ref r), .val (.int (0 : Int32))] [(.ref r), (.int (0 : Int32)), (.ref a)])) := fun tt hq => k2 tt (by
    refine XS.iloadN X2.here hx rfl (hb hby d_prog_66_method_8_code_4) rfl ?_
    refine XS.aloadN X2.here hx rfl (hb hby d_prog_66_method_8_code_5) rfl rfl ?_
    exact hq)
  obtain ⟨T4, X4, e4, st4⟩ := getF X2 hx hZ hown (host := "") (Or.inl (wq hw 82 rfl)) Via.refl e2 Q1 (g := (mkF m 6 #[.val (.ref r), .val (.int (0 : Int32))] [(.ref r), (.int (0 : Int32)), (.ref a)])) rfl rfl (hb hby d_prog_66_method_8_code_6)
  have k4 : To p.tables e below S0 (T4.setTop (mkF m 9 #[.val (.ref r), .val (.int (0 : Int32))] [(.int (0 : Int32)), (.int (0 : Int32)), (.ref a)])) := fun tt hq => k3 tt (st4 tt hq)
  obtain ⟨_, T5, L5, X5, ⟨a5, t5, k5x, rfl, Nq5, ya5, yt5, Kq5, P50, P51, P52, P53⟩, k5a, Cq5, hS5, hZ5, hown5⟩ := callVW X4 hx hZ (y := (⟨"java/lang/String", "substring", "(II)Ljava/lang/String;"⟩ : MethodName)) (z := (⟨"java/lang/String", "substring", "(II)Ljava/lang/String;"⟩ : MethodName)) hown hS0 (by omega) (wq hw 117 rfl) (wq hw 118 rfl) (notFace_of_selects (args := #[]) (mvT hZ (wq hw 120 rfl))) (wq hw 120 rfl) (wq hw 119 rfl) (by decide) P0 (backOfW (W := 0) (rm_sub0_0 l Z a0 hw zc fm a t kt c0 c1 c2 h0 n0 (by omega) S_c hzc S_f hfm O0 P0 P1 P2 P3 (by omega)) hZ (wq hw 121 rfl) (wq hw 3 rfl) (by decide) (by decide) (own_EW hw) C0.1 all0) e4 (argsL := [(.int (0 : Int32)), (.int (0 : Int32))]) (rest := []) rfl rfl pd_20 rfl (by rw [hml]; rfl) (hb hby d_prog_66_method_8_code_9) (Nat.le_of_eq rfl) (by decide) (by decide) k4
  have k5 : To p.tables e below S0 (T5.setTop (mkF m 12 #[.val (.ref r), .val (.int (0 : Int32))] [(.ref a5)])) := k5a
  have N5 := N0.app Nq5
  obtain ⟨h5, e5⟩ : ∃ z, T5.heap = z := ⟨_, rfl⟩
  rw [e5] at Kq5 ya5 yt5 P50 P51 P52 P53 Cq5 hS5
  have z5 : h0.size ≤ h5.size := Kq5.1
  have C5 := C0.trans Cq5
  refine retRefW X5 hx hZ5 (own_EW hw) hS5 (by omega) C5 e5 hret hlk rfl rfl (hb hby d_prog_66_method_8_code_12) k5 ?_ (by decide) (by decide)
  exact ⟨_, _, _, rfl, N5, P50.lt, P53.lt, ((Keep.refl h0 []).trans Kq5 all0), P50, P51, P52, P53⟩
theorem pd_21 : parseMethodDescriptor "(I)Ljava/lang/String;" = some ⟨[.int], some (.object "java/lang/String")⟩ := by decide +kernel
theorem d_prog_66_method_4_code_0 : decode prog_66_method_4_code 0 = .ok (.aload_n 0, 1) := by decide +kernel
theorem d_prog_66_method_4_code_1 : decode prog_66_method_4_code 1 = .ok (.getfield 26, 3) := by decide +kernel
theorem d_prog_66_method_4_code_4 : decode prog_66_method_4_code 4 = .ok (.aload_n 0, 1) := by decide +kernel
theorem d_prog_66_method_4_code_5 : decode prog_66_method_4_code 5 = .ok (.getfield 29, 3) := by decide +kernel
theorem d_prog_66_method_4_code_8 : decode prog_66_method_4_code 8 = .ok (.invokevirtual 42, 3) := by decide +kernel
theorem d_prog_66_method_4_code_11 : decode prog_66_method_4_code 11 = .ok (.istore_n 1, 1) := by decide +kernel
theorem d_prog_66_method_4_code_12 : decode prog_66_method_4_code 12 = .ok (.aload_n 0, 1) := by decide +kernel
theorem d_prog_66_method_4_code_13 : decode prog_66_method_4_code 13 = .ok (.dup, 1) := by decide +kernel
theorem d_prog_66_method_4_code_14 : decode prog_66_method_4_code 14 = .ok (.getfield 29, 3) := by decide +kernel
theorem d_prog_66_method_4_code_17 : decode prog_66_method_4_code 17 = .ok (.iload_n 1, 1) := by decide +kernel
theorem d_prog_66_method_4_code_18 : decode prog_66_method_4_code 18 = .ok (.invokestatic 46, 3) := by decide +kernel
theorem d_prog_66_method_4_code_21 : decode prog_66_method_4_code 21 = .ok (.iadd, 1) := by decide +kernel
theorem d_prog_66_method_4_code_22 : decode prog_66_method_4_code 22 = .ok (.putfield 29, 3) := by decide +kernel
theorem d_prog_66_method_4_code_25 : decode prog_66_method_4_code 25 = .ok (.iload_n 1, 1) := by decide +kernel
theorem d_prog_66_method_4_code_26 : decode prog_66_method_4_code 26 = .ok (.bipush 10, 2) := by decide +kernel
theorem d_prog_66_method_4_code_28 : decode prog_66_method_4_code 28 = .ok (.if_icmp .ne 21, 3) := by decide +kernel
theorem d_prog_66_method_4_code_31 : decode prog_66_method_4_code 31 = .ok (.aload_n 0, 1) := by decide +kernel
theorem d_prog_66_method_4_code_32 : decode prog_66_method_4_code 32 = .ok (.dup, 1) := by decide +kernel
theorem d_prog_66_method_4_code_33 : decode prog_66_method_4_code 33 = .ok (.getfield 7, 3) := by decide +kernel
theorem d_prog_66_method_4_code_36 : decode prog_66_method_4_code 36 = .ok (.iconst 1, 1) := by decide +kernel
theorem d_prog_66_method_4_code_37 : decode prog_66_method_4_code 37 = .ok (.iadd, 1) := by decide +kernel
theorem d_prog_66_method_4_code_38 : decode prog_66_method_4_code 38 = .ok (.putfield 7, 3) := by decide +kernel
theorem d_prog_66_method_4_code_41 : decode prog_66_method_4_code 41 = .ok (.aload_n 0, 1) := by decide +kernel
theorem d_prog_66_method_4_code_42 : decode prog_66_method_4_code 42 = .ok (.iconst 1, 1) := by decide +kernel
theorem d_prog_66_method_4_code_43 : decode prog_66_method_4_code 43 = .ok (.putfield 13, 3) := by decide +kernel
theorem d_prog_66_method_4_code_46 : decode prog_66_method_4_code 46 = .ok (.goto 13, 3) := by decide +kernel
theorem d_prog_66_method_4_code_49 : decode prog_66_method_4_code 49 = .ok (.aload_n 0, 1) := by decide +kernel
theorem d_prog_66_method_4_code_50 : decode prog_66_method_4_code 50 = .ok (.dup, 1) := by decide +kernel
theorem d_prog_66_method_4_code_51 : decode prog_66_method_4_code 51 = .ok (.getfield 13, 3) := by decide +kernel
theorem d_prog_66_method_4_code_54 : decode prog_66_method_4_code 54 = .ok (.iconst 1, 1) := by decide +kernel
theorem d_prog_66_method_4_code_55 : decode prog_66_method_4_code 55 = .ok (.iadd, 1) := by decide +kernel
theorem d_prog_66_method_4_code_56 : decode prog_66_method_4_code 56 = .ok (.putfield 13, 3) := by decide +kernel
theorem d_prog_66_method_4_code_59 : decode prog_66_method_4_code 59 = .ok (.return_, 1) := by decide +kernel
theorem pd_22 : parseMethodDescriptor "(I)I" = some ⟨[.int], some .int⟩ := by decide +kernel
set_option maxRecDepth 65536 in
set_option maxHeartbeats 40000000 in
theorem rm_adv0 (l : Launch) (Z : State) (a0 : Array Value) (hw : ∀ d ∈ tables_1, d.before a0 Z = true) (zc : Int32) (fm : Value) (r : Addr) (so : Addr) (a : Addr) (t : Addr) (kt : ClassId) (c0 : Int32) (c1 : Int32) (c2 : Int32) (xl : Int32) (xc : Int32) (h0 : Heap) (n0 : Nat) (hn0 : n0 ≤ h0.size) (S_c : Sta Z Z.heap "java/lang/String" "COMPACT_STRINGS" "Z" (.int zc)) (hzc : ¬ zc = (0 : Int32)) (S_f : Sta Z Z.heap "jdk/internal/util/Preconditions" "SIOOBE_FORMATTER" "Ljava/util/function/BiFunction;" fm) (hfm : fm.isRef = true) (O0 : Old Z n0 h0) (P0 : Exa Z h0 r "com/example/ceruline/ceruline/parsing/SourceReader") (P1 : Fld Z h0 r "com/example/ceruline/ceruline/parsing/SourceReader" "source" "Lcom/example/ceruline/ceruline/source/SourceFile;" (.ref so)) (P2 : Fld Z h0 r "com/example/ceruline/ceruline/parsing/SourceReader" "text" "Ljava/lang/String;" (.ref a)) (P3 : Fld Z h0 r "com/example/ceruline/ceruline/parsing/SourceReader" "offset" "I" (.int (0 : Int32))) (P4 : Fld Z h0 r "com/example/ceruline/ceruline/parsing/SourceReader" "line" "I" (.int xl)) (P5 : Fld Z h0 r "com/example/ceruline/ceruline/parsing/SourceReader" "column" "I" (.int xc)) (R0 : Exa Z h0 a "java/lang/String") (R1 : Fld Z h0 a "java/lang/String" "value" "[B" (.ref t)) (R2 : Fld Z h0 a "java/lang/String" "coder" "B" (.int (0 : Int32))) (R3 : Arv Z h0 t kt .byte (3 : Int32) [(.int c0), (.int c1), (.int c2)] (.int 0)) (ga : n0 ≤ r) (nra : ¬ (@Eq Nat a r)) (nrt : ¬ (@Eq Nat t r)) :
    Con l Z (⟨"com/example/ceruline/ceruline/parsing/SourceReader", "advance", "()V"⟩ : MethodName) prog_66_method_4_code 2 none [] ({ frames := 3, cells := 0, slots := 0, locals := 41 } : Room) #[(.ref r)] h0 (fun v h L => ∃ (y1 y2 : Int32), v = none ∧ Fr n0 L ∧ Keep h0 h [r] ∧ Exa Z h r "com/example/ceruline/ceruline/parsing/SourceReader" ∧ Fld Z h r "com/example/ceruline/ceruline/parsing/SourceReader" "source" "Lcom/example/ceruline/ceruline/source/SourceFile;" (.ref so) ∧ Fld Z h r "com/example/ceruline/ceruline/parsing/SourceReader" "text" "Ljava/lang/String;" (.ref a) ∧ Fld Z h r "com/example/ceruline/ceruline/parsing/SourceReader" "offset" "I" (.int (1 : Int32)) ∧ Fld Z h r "com/example/ceruline/ceruline/parsing/SourceReader" "line" "I" (.int y1) ∧ Fld Z h r "com/example/ceruline/ceruline/parsing/SourceReader" "column" "I" (.int y2)) := by
  refine enter (Ls := #[.val (.ref r), .unset]) (plainFor_of_name pn_7) (fun m => by exact entry_eq rfl) ?_
  intro p e s m below meth cd_ s₁ S0 hx hby hml hret hlk hnm hown hZ X0 e0 k0
  have N0 := Fr.nil n0
  have k1 : To p.tables e below S0 (s₁.setTop (mkF m 1 #[.val (.ref r), .unset] [(.ref r)])) := fun tt hq => k0 tt (by
    refine XS.aloadN X0.here hx rfl (hb hby d_prog_66_method_4_code_0) rfl rfl ?_
    exact hq)
  obtain ⟨T2, X2, e2, st2⟩ := getF X0 hx hZ hown (host := "") (Or.inl (wq hw 67 rfl)) Via.refl e0 P2 (g := (mkF m 1 #[.val (.ref r), .unset] [(.ref r)])) rfl rfl (hb hby d_prog_66_method_4_code_1)
  have k2 : To p.tables e below S0 (T2.setTop (mkF m 4 #[.val (.ref r), .unset] [(.ref a)])) := fun tt hq => k1 tt (st2 tt hq)
  have k3 : To p.tables e below S0 (T2.setTop (mkF m 5 #[.val (.ref r), .unset] [(.ref r), (.ref a)])) := fun tt hq => k2 tt (by
    refine XS.aloadN X2.here hx rfl (hb hby d_prog_66_method_4_code_4) rfl rfl ?_
    exact hq)
  obtain ⟨T4, X4, e4, st4⟩ := getF X2 hx hZ hown (host := "") (Or.inl (wq hw 82 rfl)) Via.refl e2 P3 (g := (mkF m 5 #[.val (.ref r), .unset] [(.ref r), (.ref a)])) rfl rfl (hb hby d_prog_66_method_4_code_5)
  have k4 : To p.tables e below S0 (T4.setTop (mkF m 8 #[.val (.ref r), .unset] [(.int (0 : Int32)), (.ref a)])) := fun tt hq => k3 tt (st4 tt hq)
  obtain ⟨_, T5, L5, X5, ⟨rfl, Nq5, eq5⟩, k5a⟩ := callV' X4 hx hZ (y := (⟨"java/lang/String", "codePointAt", "(I)I"⟩ : MethodName)) (z := (⟨"java/lang/String", "codePointAt", "(I)I"⟩ : MethodName)) hown (wq hw 84 rfl) (wq hw 85 rfl) (notFace_of_selects (args := #[]) (mvT hZ (wq hw 87 rfl))) (wq hw 87 rfl) (wq hw 86 rfl) (by decide) R0 (backC (W := 0) (rm_cp3_0 l Z a0 hw zc fm a t kt c0 c1 c2 h0 n0 (by omega) S_c hzc S_f hfm O0 R0 R1 R2 R3) hZ (wq hw 88 rfl) (wq hw 3 rfl) (by decide) (by decide)) e4 (argsL := [(.int (0 : Int32))]) (rest := []) rfl rfl pd_22 rfl (by rw [hml]; rfl) (hb hby d_prog_66_method_4_code_8) (Nat.le_of_eq rfl) (by decide) (by decide) k4
  have k5 : To p.tables e below S0 (T5.setTop (mkF m 11 #[.val (.ref r), .unset] [(.int (c0 &&& (255 : Int32)))])) := k5a
  have N5 := N0.app Nq5
  have e5 : T5.heap = h0 := eq5
  have k6 : To p.tables e below S0 (T5.setTop (mkF m 14 #[.val (.ref r), .val (.int (c0 &&& (255 : Int32)))] [(.ref r), (.ref r)])) := fun tt hq => k5 tt (by
    refine XS.istoreN X5.here hx rfl (hb hby d_prog_66_method_4_code_11) rfl (l' := #[.val (.ref r), .val (.int (c0 &&& (255 : Int32)))]) rfl ?_
    refine XS.aloadN X5.here hx rfl (hb hby d_prog_66_method_4_code_12) rfl rfl ?_
    refine XS.dup X5.here hx rfl (hb hby d_prog_66_method_4_code_13) rfl rfl ?_
    exact hq)
  obtain ⟨T7, X7, e7, st7⟩ := getF X5 hx hZ hown (host := "") (Or.inl (wq hw 82 rfl)) Via.refl e5 P3 (g := (mkF m 14 #[.val (.ref r), .val (.int (c0 &&& (255 : Int32)))] [(.ref r), (.ref r)])) rfl rfl (hb hby d_prog_66_method_4_code_14)
  have k7 : To p.tables e below S0 (T7.setTop (mkF m 17 #[.val (.ref r), .val (.int (c0 &&& (255 : Int32)))] [(.int (0 : Int32)), (.ref r)])) := fun tt hq => k6 tt (st7 tt hq)
  have k8 : To p.tables e below S0 (T7.setTop (mkF m 18 #[.val (.ref r), .val (.int (c0 &&& (255 : Int32)))] [(.int (c0 &&& (255 : Int32))), (.int (0 : Int32)), (.ref r)])) := fun tt hq => k7 tt (by
    refine XS.iloadN X7.here hx rfl (hb hby d_prog_66_method_4_code_17) rfl ?_
    exact hq)
  obtain ⟨_, T9, L9, X9, ⟨rfl, Nq9, eq9⟩, k9a⟩ := callS' X7 hx hZ (y := (⟨"java/lang/Character", "charCount", "(I)I"⟩ : MethodName)) hown (wq hw 102 rfl) (wq hw 103 rfl) (wq hw 104 rfl) (wq hw 105 rfl) (by decide) (backC (W := 2) (rm_cc l Z a0 hw (c0 &&& (255 : Int32)) h0 n0 (by omega) (own_small _)) hZ (wq hw 105 rfl) (wq hw 104 rfl) (by decide) (by decide)) e7 (argsL := [(.int (c0 &&& (255 : Int32)))]) (rest := [(.int (0 : Int32)), (.ref r)]) rfl rfl pd_22 rfl (by rw [hml]; rfl) (hb hby d_prog_66_method_4_code_18) (Nat.le_of_eq rfl) (by decide) (by decide) k8
  have k9 : To p.tables e below S0 (T9.setTop (mkF m 21 #[.val (.ref r), .val (.int (c0 &&& (255 : Int32)))] [(.int (1 : Int32)), (.int (0 : Int32)), (.ref r)])) := k9a
  have N9 := N5.app Nq9
  have e9 : T9.heap = h0 := eq9
  have k10 : To p.tables e below S0 (T9.setTop (mkF m 22 #[.val (.ref r), .val (.int (c0 &&& (255 : Int32)))] [(.int (1 : Int32)), (.ref r)])) := fun tt hq => k9 tt (by
    refine XS.iadd X9.here hx rfl (hb hby d_prog_66_method_4_code_21) rfl ?_
    exact hq)
  obtain ⟨T11, h11, X11, e11, W11, st11⟩ := putF X9 hx hZ hown (host := "") (Or.inl (wq hw 82 rfl)) Via.refl e9 P3 P0 (Or.inl (wq hw 83 rfl)) (wq hw 31 rfl) (ty := .int) (by decide) rfl rfl (g := (mkF m 22 #[.val (.ref r), .val (.int (c0 &&& (255 : Int32)))] [(.int (1 : Int32)), (.ref r)])) rfl rfl (hb hby d_prog_66_method_4_code_22)
  have k11 : To p.tables e below S0 (T11.setTop (mkF m 25 #[.val (.ref r), .val (.int (c0 &&& (255 : Int32)))] [])) := fun tt hq => k10 tt (st11 tt hq)
  have z11 : h11.size = h0.size := W11.size
  have F11 := P3.same W11
  have N11 := Fr.snoc X11 N9 (by omega : n0 ≤ r)
  have k12 : To p.tables e below S0 (T11.setTop (mkF m 28 #[.val (.ref r), .val (.int (c0 &&& (255 : Int32)))] [(.int (10 : Int32)), (.int (c0 &&& (255 : Int32)))])) := fun tt hq => k11 tt (by
    refine XS.iloadN X11.here hx rfl (hb hby d_prog_66_method_4_code_25) rfl ?_
    refine XS.bipush X11.here hx rfl (hb hby d_prog_66_method_4_code_26) ?_
    exact hq)
  by_cases hc28_13 : (c0 &&& (255 : Int32)) = (10 : Int32)
  · -- pc 28, holds
    have f14 : Fld Z h11 r "com/example/ceruline/ceruline/parsing/SourceReader" "line" "I" (.int xl) := (P4.other W11 (Or.inr (slot_ne (Or.inl (wq hw 57 rfl)) (Or.inl (wq hw 83 rfl)) (by decide) (t := .int) (t' := .int) (by decide) (by decide))))
    have k15 : To p.tables e below S0 (T11.setTop (mkF m 33 #[.val (.ref r), .val (.int (c0 &&& (255 : Int32)))] [(.ref r), (.ref r)])) := fun tt hq => k12 tt (by
      refine XS.icmpNo X11.here hx rfl (hb hby d_prog_66_method_4_code_28) rfl (teq hc28_13).2 ?_
      refine XS.aloadN X11.here hx rfl (hb hby d_prog_66_method_4_code_31) rfl rfl ?_
      refine XS.dup X11.here hx rfl (hb hby d_prog_66_method_4_code_32) rfl rfl ?_
      exact hq)
    obtain ⟨T16, X16, e16, st16⟩ := getF X11 hx hZ hown (host := "") (Or.inl (wq hw 56 rfl)) Via.refl e11 f14 (g := (mkF m 33 #[.val (.ref r), .val (.int (c0 &&& (255 : Int32)))] [(.ref r), (.ref r)])) rfl rfl (hb hby d_prog_66_method_4_code_33)
    have k16 : To p.tables e below S0 (T16.setTop (mkF m 36 #[.val (.ref r), .val (.int (c0 &&& (255 : Int32)))] [(.int xl), (.ref r)])) := fun tt hq => k15 tt (st16 tt hq)
    have f17 : Exa Z h11 r "com/example/ceruline/ceruline/parsing/SourceReader" := (P0.wr W11)
    have k18 : To p.tables e below S0 (T16.setTop (mkF m 38 #[.val (.ref r), .val (.int (c0 &&& (255 : Int32)))] [(.int (xl + (1 : Int32))), (.ref r)])) := fun tt hq => k16 tt (by
      refine XS.iconst X16.here hx rfl (hb hby d_prog_66_method_4_code_36) ?_
      refine XS.iadd X16.here hx rfl (hb hby d_prog_66_method_4_code_37) rfl ?_
      exact hq)
    obtain ⟨T19, h19, X19, e19, W19, st19⟩ := putF X16 hx hZ hown (host := "") (Or.inl (wq hw 56 rfl)) Via.refl e16 f14 f17 (Or.inl (wq hw 57 rfl)) (wq hw 31 rfl) (ty := .int) (by decide) rfl rfl (g := (mkF m 38 #[.val (.ref r), .val (.int (c0 &&& (255 : Int32)))] [(.int (xl + (1 : Int32))), (.ref r)])) rfl rfl (hb hby d_prog_66_method_4_code_38)
    have k19 : To p.tables e below S0 (T19.setTop (mkF m 41 #[.val (.ref r), .val (.int (c0 &&& (255 : Int32)))] [])) := fun tt hq => k18 tt (st19 tt hq)
    have z19 : h19.size = h11.size := W19.size
    have F19 := f14.same W19
    have N19 := Fr.snoc X19 N11 (by omega : n0 ≤ r)
    have f20 : Exa Z h19 r "com/example/ceruline/ceruline/parsing/SourceReader" := (f17.wr W19)
    have f21 : Fld Z h19 r "com/example/ceruline/ceruline/parsing/SourceReader" "column" "I" (.int xc) := ((P5.other W11 (Or.inr (slot_ne (Or.inl (wq hw 59 rfl)) (Or.inl (wq hw 83 rfl)) (by decide) (t := .int) (t' := .int) (by decide) (by decide)))).other W19 (Or.inr (slot_ne (Or.inl (wq hw 59 rfl)) (Or.inl (wq hw 57 rfl)) (by decide) (t := .int) (t' := .int) (by decide) (by decide))))
    have k22 : To p.tables e below S0 (T19.setTop (mkF m 43 #[.val (.ref r), .val (.int (c0 &&& (255 : Int32)))] [(.int (1 : Int32)), (.ref r)])) := fun tt hq => k19 tt (by
      refine XS.aloadN X19.here hx rfl (hb hby d_prog_66_method_4_code_41) rfl rfl ?_
      refine XS.iconst X19.here hx rfl (hb hby d_prog_66_method_4_code_42) ?_
      exact hq)
    obtain ⟨T23, h23, X23, e23, W23, st23⟩ := putF X19 hx hZ hown (host := "") (Or.inl (wq hw 58 rfl)) Via.refl e19 f21 f20 (Or.inl (wq hw 59 rfl)) (wq hw 31 rfl) (ty := .int) (by decide) rfl rfl (g := (mkF m 43 #[.val (.ref r), .val (.int (c0 &&& (255 : Int32)))] [(.int (1 : Int32)), (.ref r)])) rfl rfl (hb hby d_prog_66_method_4_code_43)
    have k23 : To p.tables e below S0 (T23.setTop (mkF m 46 #[.val (.ref r), .val (.int (c0 &&& (255 : Int32)))] [])) := fun tt hq => k22 tt (st23 tt hq)
    have z23 : h23.size = h19.size := W23.size
    have F23 := f21.same W23
    have N23 := Fr.snoc X23 N19 (by omega : n0 ≤ r)
    have k24 : To p.tables e below S0 (T23.setTop (mkF m 59 #[.val (.ref r), .val (.int (c0 &&& (255 : Int32)))] [])) := fun tt hq => k23 tt (by
      refine XS.goto X23.here hx rfl (pc0 := 46) (pc' := 59) rfl (hb hby d_prog_66_method_4_code_46) (by decide) (by decide) ?_
      exact hq)
    have f25 : Exa Z h23 r "com/example/ceruline/ceruline/parsing/SourceReader" := (f20.wr W23)
    have f26 : Fld Z h23 r "com/example/ceruline/ceruline/parsing/SourceReader" "source" "Lcom/example/ceruline/ceruline/source/SourceFile;" (.ref so) := (((P1.other W11 (Or.inr (slot_ne (Or.inr (wq hw 61 rfl)) (Or.inl (wq hw 83 rfl)) (by decide) (t := (.object "com/example/ceruline/ceruline/source/SourceFile")) (t' := .int) (by decide) (by decide)))).other W19 (Or.inr (slot_ne (Or.inr (wq hw 61 rfl)) (Or.inl (wq hw 57 rfl)) (by decide) (t := (.object "com/example/ceruline/ceruline/source/SourceFile")) (t' := .int) (by decide) (by decide)))).other W23 (Or.inr (slot_ne (Or.inr (wq hw 61 rfl)) (Or.inl (wq hw 59 rfl)) (by decide) (t := (.object "com/example/ceruline/ceruline/source/SourceFile")) (t' := .int) (by decide) (by decide))))
    have f27 : Fld Z h23 r "com/example/ceruline/ceruline/parsing/SourceReader" "text" "Ljava/lang/String;" (.ref a) := (((P2.other W11 (Or.inr (slot_ne (Or.inr (wq hw 68 rfl)) (Or.inl (wq hw 83 rfl)) (by decide) (t := (.object "java/lang/String")) (t' := .int) (by decide) (by decide)))).other W19 (Or.inr (slot_ne (Or.inr (wq hw 68 rfl)) (Or.inl (wq hw 57 rfl)) (by decide) (t := (.object "java/lang/String")) (t' := .int) (by decide) (by decide)))).other W23 (Or.inr (slot_ne (Or.inr (wq hw 68 rfl)) (Or.inl (wq hw 59 rfl)) (by decide) (t := (.object "java/lang/String")) (t' := .int) (by decide) (by decide))))
    have f28 : Fld Z h23 r "com/example/ceruline/ceruline/parsing/SourceReader" "offset" "I" (.int (1 : Int32)) := ((F11.other W19 (Or.inr (slot_ne (Or.inl (wq hw 83 rfl)) (Or.inl (wq hw 57 rfl)) (by decide) (t := .int) (t' := .int) (by decide) (by decide)))).other W23 (Or.inr (slot_ne (Or.inl (wq hw 83 rfl)) (Or.inl (wq hw 59 rfl)) (by decide) (t := .int) (t' := .int) (by decide) (by decide))))
    have f29 : Fld Z h23 r "com/example/ceruline/ceruline/parsing/SourceReader" "line" "I" (.int (xl + (1 : Int32))) := (F19.other W23 (Or.inr (slot_ne (Or.inl (wq hw 57 rfl)) (Or.inl (wq hw 59 rfl)) (by decide) (t := .int) (t' := .int) (by decide) (by decide))))
    have hE := e23
    refine retVoid X23 hx hret hlk (hb hby d_prog_66_method_4_code_59) k24 ?_ (by decide) (by decide)
    try rw [hE]
    exact ⟨_, _, rfl, N23, ((((Keep.refl h0 [r]).wr W11 (Or.inl (by simp))).wr W19 (Or.inl (by simp))).wr W23 (Or.inl (by simp))), f25, f26, f27, f28, f29, F23⟩
  · -- pc 28, holds not
    have f30 : Fld Z h11 r "com/example/ceruline/ceruline/parsing/SourceReader" "column" "I" (.int xc) := (P5.other W11 (Or.inr (slot_ne (Or.inl (wq hw 59 rfl)) (Or.inl (wq hw 83 rfl)) (by decide) (t := .int) (t' := .int) (by decide) (by decide))))
    have k31 : To p.tables e below S0 (T11.setTop (mkF m 51 #[.val (.ref r), .val (.int (c0 &&& (255 : Int32)))] [(.ref r), (.ref r)])) := fun tt hq => k12 tt (by
      refine XS.icmpYes X11.here hx rfl (pc0 := 28) (pc' := 49) rfl (hb hby d_prog_66_method_4_code_28) rfl (feq hc28_13).2 (by decide) (by decide) ?_
      refine XS.aloadN X11.here hx rfl (hb hby d_prog_66_method_4_code_49) rfl rfl ?_
      refine XS.dup X11.here hx rfl (hb hby d_prog_66_method_4_code_50) rfl rfl ?_
      exact hq)
    obtain ⟨T32, X32, e32, st32⟩ := getF X11 hx hZ hown (host := "") (Or.inl (wq hw 58 rfl)) Via.refl e11 f30 (g := (mkF m 51 #[.val (.ref r), .val (.int (c0 &&& (255 : Int32)))] [(.ref r), (.ref r)])) rfl rfl (hb hby d_prog_66_method_4_code_51)
    have k32 : To p.tables e below S0 (T32.setTop (mkF m 54 #[.val (.ref r), .val (.int (c0 &&& (255 : Int32)))] [(.int xc), (.ref r)])) := fun tt hq => k31 tt (st32 tt hq)
    have f33 : Exa Z h11 r "com/example/ceruline/ceruline/parsing/SourceReader" := (P0.wr W11)
    have k34 : To p.tables e below S0 (T32.setTop (mkF m 56 #[.val (.ref r), .val (.int (c0 &&& (255 : Int32)))] [(.int (xc + (1 : Int32))), (.ref r)])) := fun tt hq => k32 tt (by
      refine XS.iconst X32.here hx rfl (hb hby d_prog_66_method_4_code_54) ?_
      refine XS.iadd X32.here hx rfl (hb hby d_prog_66_method_4_code_55) rfl ?_
      exact hq)
    obtain ⟨T35, h35, X35, e35, W35, st35⟩ := putF X32 hx hZ hown (host := "") (Or.inl (wq hw 58 rfl)) Via.refl e32 f30 f33 (Or.inl (wq hw 59 rfl)) (wq hw 31 rfl) (ty := .int) (by decide) rfl rfl (g := (mkF m 56 #[.val (.ref r), .val (.int (c0 &&& (255 : Int32)))] [(.int (xc + (1 : Int32))), (.ref r)])) rfl rfl (hb hby d_prog_66_method_4_code_56)
    have k35 : To p.tables e below S0 (T35.setTop (mkF m 59 #[.val (.ref r), .val (.int (c0 &&& (255 : Int32)))] [])) := fun tt hq => k34 tt (st35 tt hq)
    have z35 : h35.size = h11.size := W35.size
    have F35 := f30.same W35
    have N35 := Fr.snoc X35 N11 (by omega : n0 ≤ r)
    have f36 : Exa Z h35 r "com/example/ceruline/ceruline/parsing/SourceReader" := (f33.wr W35)
    have f37 : Fld Z h35 r "com/example/ceruline/ceruline/parsing/SourceReader" "source" "Lcom/example/ceruline/ceruline/source/SourceFile;" (.ref so) := ((P1.other W11 (Or.inr (slot_ne (Or.inr (wq hw 61 rfl)) (Or.inl (wq hw 83 rfl)) (by decide) (t := (.object "com/example/ceruline/ceruline/source/SourceFile")) (t' := .int) (by decide) (by decide)))).other W35 (Or.inr (slot_ne (Or.inr (wq hw 61 rfl)) (Or.inl (wq hw 59 rfl)) (by decide) (t := (.object "com/example/ceruline/ceruline/source/SourceFile")) (t' := .int) (by decide) (by decide))))
    have f38 : Fld Z h35 r "com/example/ceruline/ceruline/parsing/SourceReader" "text" "Ljava/lang/String;" (.ref a) := ((P2.other W11 (Or.inr (slot_ne (Or.inr (wq hw 68 rfl)) (Or.inl (wq hw 83 rfl)) (by decide) (t := (.object "java/lang/String")) (t' := .int) (by decide) (by decide)))).other W35 (Or.inr (slot_ne (Or.inr (wq hw 68 rfl)) (Or.inl (wq hw 59 rfl)) (by decide) (t := (.object "java/lang/String")) (t' := .int) (by decide) (by decide))))
    have f39 : Fld Z h35 r "com/example/ceruline/ceruline/parsing/SourceReader" "offset" "I" (.int (1 : Int32)) := (F11.other W35 (Or.inr (slot_ne (Or.inl (wq hw 83 rfl)) (Or.inl (wq hw 59 rfl)) (by decide) (t := .int) (t' := .int) (by decide) (by decide))))
    have f40 : Fld Z h35 r "com/example/ceruline/ceruline/parsing/SourceReader" "line" "I" (.int xl) := ((P4.other W11 (Or.inr (slot_ne (Or.inl (wq hw 57 rfl)) (Or.inl (wq hw 83 rfl)) (by decide) (t := .int) (t' := .int) (by decide) (by decide)))).other W35 (Or.inr (slot_ne (Or.inl (wq hw 57 rfl)) (Or.inl (wq hw 59 rfl)) (by decide) (t := .int) (t' := .int) (by decide) (by decide))))
    have hE := e35
    refine retVoid X35 hx hret hlk (hb hby d_prog_66_method_4_code_59) k35 ?_ (by decide) (by decide)
    try rw [hE]
    exact ⟨_, _, rfl, N35, (((Keep.refl h0 [r]).wr W11 (Or.inl (by simp))).wr W35 (Or.inl (by simp))), f36, f37, f38, f39, f40, F35⟩
set_option maxRecDepth 65536 in
set_option maxHeartbeats 40000000 in
theorem rm_st0_1 (l : Launch) (Z : State) (a0 : Array Value) (hw : ∀ d ∈ tables_1, d.before a0 Z = true) (zc : Int32) (fm : Value) (r : Addr) (so : Addr) (a : Addr) (t : Addr) (kt : ClassId) (c0 : Int32) (c1 : Int32) (c2 : Int32) (xl : Int32) (xc : Int32) (h0 : Heap) (n0 : Nat) (hn0 : n0 ≤ h0.size) (S_c : Sta Z Z.heap "java/lang/String" "COMPACT_STRINGS" "Z" (.int zc)) (hzc : ¬ zc = (0 : Int32)) (S_f : Sta Z Z.heap "jdk/internal/util/Preconditions" "SIOOBE_FORMATTER" "Ljava/util/function/BiFunction;" fm) (hfm : fm.isRef = true) (O0 : Old Z n0 h0) (P0 : Exa Z h0 r "com/example/ceruline/ceruline/parsing/SourceReader") (P1 : Fld Z h0 r "com/example/ceruline/ceruline/parsing/SourceReader" "source" "Lcom/example/ceruline/ceruline/source/SourceFile;" (.ref so)) (P2 : Fld Z h0 r "com/example/ceruline/ceruline/parsing/SourceReader" "text" "Ljava/lang/String;" (.ref a)) (P3 : Fld Z h0 r "com/example/ceruline/ceruline/parsing/SourceReader" "offset" "I" (.int (0 : Int32))) (P4 : Fld Z h0 r "com/example/ceruline/ceruline/parsing/SourceReader" "line" "I" (.int xl)) (P5 : Fld Z h0 r "com/example/ceruline/ceruline/parsing/SourceReader" "column" "I" (.int xc)) (R0 : Exa Z h0 a "java/lang/String") (R1 : Fld Z h0 a "java/lang/String" "value" "[B" (.ref t)) (R2 : Fld Z h0 a "java/lang/String" "coder" "B" (.int (0 : Int32))) (R3 : Arv Z h0 t kt .byte (3 : Int32) [(.int c0), (.int c1), (.int c2)] (.int 0)) (ga : n0 ≤ r) (nra : ¬ (@Eq Nat a r)) (nrt : ¬ (@Eq Nat t r)) :
    Con l Z (⟨"com/example/ceruline/ceruline/parsing/SourceReaderTextFromPinLaw", "steps", "(Lcom/example/ceruline/ceruline/parsing/SourceReader;I)V"⟩ : MethodName) method_2_code 2 none [] ({ frames := 4, cells := 0, slots := 0, locals := 54 } : Room) #[(.ref r), (.int (1 : Int32))] h0 (fun v h L => ∃ (y1 y2 : Int32), v = none ∧ Fr n0 L ∧ Keep h0 h [r] ∧ Exa Z h r "com/example/ceruline/ceruline/parsing/SourceReader" ∧ Fld Z h r "com/example/ceruline/ceruline/parsing/SourceReader" "source" "Lcom/example/ceruline/ceruline/source/SourceFile;" (.ref so) ∧ Fld Z h r "com/example/ceruline/ceruline/parsing/SourceReader" "text" "Ljava/lang/String;" (.ref a) ∧ Fld Z h r "com/example/ceruline/ceruline/parsing/SourceReader" "offset" "I" (.int (1 : Int32)) ∧ Fld Z h r "com/example/ceruline/ceruline/parsing/SourceReader" "line" "I" (.int y1) ∧ Fld Z h r "com/example/ceruline/ceruline/parsing/SourceReader" "column" "I" (.int y2)) := by
  refine enter (Ls := #[.val (.ref r), .val (.int (1 : Int32))]) (plainFor_of_name pn_9) (fun m => by exact entry_eq rfl) ?_
  intro p e s m below meth cd_ s₁ S0 hx hby hml hret hlk hnm hown hZ X0 e0 k0
  have N0 := Fr.nil n0
  have k1 : To p.tables e below S0 (s₁.setTop (mkF m 6 #[.val (.ref r), .val (.int (1 : Int32))] [(.ref r)])) := fun tt hq => k0 tt (by
    refine XS.iloadN X0.here hx rfl (hb hby d_method_2_code_0) rfl ?_
    refine XS.iconst X0.here hx rfl (hb hby d_method_2_code_1) ?_
    refine XS.icmpNo X0.here hx rfl (hb hby d_method_2_code_2) rfl (flt (by decide)).1 ?_
    refine XS.aloadN X0.here hx rfl (hb hby d_method_2_code_5) rfl rfl ?_
    exact hq)
  obtain ⟨_, T2, L2, X2, ⟨x2, y2x, rfl, Nq2, Kq2, P2_0, P2_1, P2_2, P2_3, P2_4, P2_5⟩, k2a⟩ := callV' X0 hx hZ (y := (⟨"com/example/ceruline/ceruline/parsing/SourceReader", "advance", "()V"⟩ : MethodName)) (z := (⟨"com/example/ceruline/ceruline/parsing/SourceReader", "advance", "()V"⟩ : MethodName)) hown (wq hw 77 rfl) (wq hw 78 rfl) (notFace_of_selects (args := #[]) (mvT hZ (wq hw 80 rfl))) (wq hw 80 rfl) (wq hw 79 rfl) (by decide) P0 (backC (W := 0) (rm_adv0 l Z a0 hw zc fm r so a t kt c0 c1 c2 xl xc h0 n0 (by omega) S_c hzc S_f hfm O0 P0 P1 P2 P3 P4 P5 R0 R1 R2 R3 (by omega) (by omega) (by omega)) hZ (wq hw 81 rfl) (wq hw 32 rfl) (by decide) (by decide)) e0 (argsL := []) (rest := []) rfl rfl pd_9 rfl (by rw [hml]; rfl) (hb hby d_method_2_code_6) (Nat.le_of_eq rfl) (by decide) (by decide) k1
  have k2 : To p.tables e below S0 (T2.setTop (mkF m 9 #[.val (.ref r), .val (.int (1 : Int32))] [])) := k2a
  have N2 := N0.app Nq2
  obtain ⟨h2, e2⟩ : ∃ z, T2.heap = z := ⟨_, rfl⟩
  rw [e2] at Kq2 P2_0 P2_1 P2_2 P2_3 P2_4 P2_5
  have z2 : h0.size ≤ h2.size := Kq2.1
  have k3 : To p.tables e below S0 (T2.setTop (mkF m 27 #[.val (.ref r), .val (.int (1 : Int32))] [])) := fun tt hq => k2 tt (by
    refine XS.iloadN X2.here hx rfl (hb hby d_method_2_code_9) rfl ?_
    refine XS.iconst X2.here hx rfl (hb hby d_method_2_code_10) ?_
    refine XS.icmpYes X2.here hx rfl (pc0 := 11) (pc' := 18) rfl (hb hby d_method_2_code_11) rfl (tlt (by decide)).1 (by decide) (by decide) ?_
    refine XS.iloadN X2.here hx rfl (hb hby d_method_2_code_18) rfl ?_
    refine XS.iconst X2.here hx rfl (hb hby d_method_2_code_19) ?_
    refine XS.icmpYes X2.here hx rfl (pc0 := 20) (pc' := 27) rfl (hb hby d_method_2_code_20) rfl (tlt (by decide)).1 (by decide) (by decide) ?_
    exact hq)
  have hE := e2
  refine retVoid X2 hx hret hlk (hb hby d_method_2_code_27) k3 ?_ (by decide) (by decide)
  try rw [hE]
  exact ⟨_, _, rfl, N2, ((Keep.refl h0 [r]).trans Kq2 (allS (Or.inl (by simp)) all0)), P2_0, P2_1, P2_2, P2_3, P2_4, P2_5⟩
theorem d_jdk_65_method_132_code_0 : decode jdk_65_method_132_code 0 = .ok (.iload_n 1, 1) := by decide +kernel
theorem d_jdk_65_method_132_code_1 : decode jdk_65_method_132_code 1 = .ok (.ifCond .ne 9, 3) := by decide +kernel
theorem d_jdk_65_method_132_code_4 : decode jdk_65_method_132_code 4 = .ok (.iload_n 2, 1) := by decide +kernel
theorem d_jdk_65_method_132_code_5 : decode jdk_65_method_132_code 5 = .ok (.aload_n 0, 1) := by decide +kernel
theorem d_jdk_65_method_132_code_6 : decode jdk_65_method_132_code 6 = .ok (.arraylength, 1) := by decide +kernel
theorem d_jdk_65_method_132_code_7 : decode jdk_65_method_132_code 7 = .ok (.if_icmp .eq 10, 3) := by decide +kernel
theorem d_jdk_65_method_132_code_10 : decode jdk_65_method_132_code 10 = .ok (.aload_n 0, 1) := by decide +kernel
theorem d_jdk_65_method_132_code_11 : decode jdk_65_method_132_code 11 = .ok (.iload_n 1, 1) := by decide +kernel
theorem d_jdk_65_method_132_code_12 : decode jdk_65_method_132_code 12 = .ok (.iload_n 2, 1) := by decide +kernel
theorem d_jdk_65_method_132_code_13 : decode jdk_65_method_132_code 13 = .ok (.invokestatic 339, 3) := by decide +kernel
theorem d_jdk_65_method_132_code_16 : decode jdk_65_method_132_code 16 = .ok (.areturn, 1) := by decide +kernel
theorem d_jdk_65_method_132_code_17 : decode jdk_65_method_132_code 17 = .ok (.aload_n 0, 1) := by decide +kernel
theorem d_jdk_65_method_132_code_18 : decode jdk_65_method_132_code 18 = .ok (.invokevirtual 310, 3) := by decide +kernel
theorem d_jdk_65_method_132_code_21 : decode jdk_65_method_132_code 21 = .ok (.checkcast 311, 3) := by decide +kernel
theorem d_jdk_65_method_132_code_24 : decode jdk_65_method_132_code 24 = .ok (.areturn, 1) := by decide +kernel
theorem d_jdk_65_method_133_code_0 : decode jdk_65_method_133_code 0 = .ok (.iload_n 1, 1) := by decide +kernel
theorem d_jdk_65_method_133_code_1 : decode jdk_65_method_133_code 1 = .ok (.iload_n 2, 1) := by decide +kernel
theorem d_jdk_65_method_133_code_2 : decode jdk_65_method_133_code 2 = .ok (.invokestatic 343, 3) := by decide +kernel
theorem d_jdk_65_method_133_code_5 : decode jdk_65_method_133_code 5 = .ok (.iload_n 2, 1) := by decide +kernel
theorem d_jdk_65_method_133_code_6 : decode jdk_65_method_133_code 6 = .ok (.iload_n 1, 1) := by decide +kernel
theorem d_jdk_65_method_133_code_7 : decode jdk_65_method_133_code 7 = .ok (.isub, 1) := by decide +kernel
theorem d_jdk_65_method_133_code_8 : decode jdk_65_method_133_code 8 = .ok (.istore_n 3, 1) := by decide +kernel
theorem d_jdk_65_method_133_code_9 : decode jdk_65_method_133_code 9 = .ok (.iload_n 3, 1) := by decide +kernel
theorem d_jdk_65_method_133_code_10 : decode jdk_65_method_133_code 10 = .ok (.newarray .byte, 2) := by decide +kernel
theorem d_jdk_65_method_133_code_12 : decode jdk_65_method_133_code 12 = .ok (.astore 4, 2) := by decide +kernel
theorem d_jdk_65_method_133_code_14 : decode jdk_65_method_133_code 14 = .ok (.aload_n 0, 1) := by decide +kernel
theorem d_jdk_65_method_133_code_15 : decode jdk_65_method_133_code 15 = .ok (.iload_n 1, 1) := by decide +kernel
theorem d_jdk_65_method_133_code_16 : decode jdk_65_method_133_code 16 = .ok (.aload 4, 2) := by decide +kernel
theorem d_jdk_65_method_133_code_18 : decode jdk_65_method_133_code 18 = .ok (.iconst 0, 1) := by decide +kernel
theorem d_jdk_65_method_133_code_19 : decode jdk_65_method_133_code 19 = .ok (.aload_n 0, 1) := by decide +kernel
theorem d_jdk_65_method_133_code_20 : decode jdk_65_method_133_code 20 = .ok (.arraylength, 1) := by decide +kernel
theorem d_jdk_65_method_133_code_21 : decode jdk_65_method_133_code 21 = .ok (.iload_n 1, 1) := by decide +kernel
theorem d_jdk_65_method_133_code_22 : decode jdk_65_method_133_code 22 = .ok (.isub, 1) := by decide +kernel
theorem d_jdk_65_method_133_code_23 : decode jdk_65_method_133_code 23 = .ok (.iload_n 3, 1) := by decide +kernel
theorem d_jdk_65_method_133_code_24 : decode jdk_65_method_133_code 24 = .ok (.invokestatic 304, 3) := by decide +kernel
theorem d_jdk_65_method_133_code_27 : decode jdk_65_method_133_code 27 = .ok (.invokestatic 150, 3) := by decide +kernel
theorem d_jdk_65_method_133_code_30 : decode jdk_65_method_133_code 30 = .ok (.aload 4, 2) := by decide +kernel
theorem d_jdk_65_method_133_code_32 : decode jdk_65_method_133_code 32 = .ok (.areturn, 1) := by decide +kernel
set_option maxRecDepth 65536 in
set_option maxHeartbeats 40000000 in
theorem rm_crb0_1 (l : Launch) (Z : State) (a0 : Array Value) (hw : ∀ d ∈ tables_1, d.before a0 Z = true) (t : Addr) (kt : ClassId) (c0 : Int32) (c1 : Int32) (c2 : Int32) (h0 : Heap) (n0 : Nat) (hn0 : n0 ≤ h0.size) (P0 : Arv Z h0 t kt .byte (3 : Int32) [(.int c0), (.int c1), (.int c2)] (.int (0 : Int32))) (yt : @LT.lt Nat instLTNat t h0.size) :
    Con l Z (⟨"java/util/Arrays", "copyOfRangeByte", "([BII)[B"⟩ : MethodName) jdk_65_method_133_code 5 (some (.array .byte)) [] ({ frames := 1, cells := 1, slots := 1, locals := 18 } : Room) #[(.ref t), (.int (0 : Int32)), (.int (1 : Int32))] h0 (fun v h L => ∃ (b : Addr) (kb : ClassId), v = some (.ref b) ∧ Fr n0 L ∧ h0.size ≤ b ∧ Keep h0 h [] ∧ Arv Z h b kb .byte (1 : Int32) [(.int c0)] (.int (0 : Int32))) := by
  refine enter (Ls := #[.val (.ref t), .val (.int (0 : Int32)), .val (.int (1 : Int32)), .unset, .unset]) (plainFor_of_name pn_8) (fun m => by exact entry_eq rfl) ?_
  intro p e s m below meth cd_ s₁ S0 hx hby hml hret hlk hnm hown hZ X0 e0 k0
  have N0 := Fr.nil n0
  have k1 : To p.tables e below S0 (s₁.setTop (mkF m 2 #[.val (.ref t), .val (.int (0 : Int32)), .val (.int (1 : Int32)), .unset, .unset] [(.int (1 : Int32)), (.int (0 : Int32))])) := fun tt hq => k0 tt (by
    refine XS.iloadN X0.here hx rfl (hb hby d_jdk_65_method_133_code_0) rfl ?_
    refine XS.iloadN X0.here hx rfl (hb hby d_jdk_65_method_133_code_1) rfl ?_
    exact hq)
  obtain ⟨_, T2, L2, X2, ⟨rfl, Nq2, eq2⟩, k2a⟩ := callS' X0 hx hZ (y := (⟨"java/util/Arrays", "checkLength", "(II)V"⟩ : MethodName)) hown (wq hw 157 rfl) (wq hw 158 rfl) (wq hw 152 rfl) (wq hw 159 rfl) (by decide) (backC (W := 0) (rm_ckl l Z a0 hw (0 : Int32) (1 : Int32) h0 n0 (by omega) (by decide)) hZ (wq hw 159 rfl) (wq hw 152 rfl) (by decide) (by decide)) e0 (argsL := [(.int (0 : Int32)), (.int (1 : Int32))]) (rest := []) rfl rfl pd_7 rfl (by rw [hml]; rfl) (hb hby d_jdk_65_method_133_code_2) (Nat.le_of_eq rfl) (by decide) (by decide) k1
  have k2 : To p.tables e below S0 (T2.setTop (mkF m 5 #[.val (.ref t), .val (.int (0 : Int32)), .val (.int (1 : Int32)), .unset, .unset] [])) := k2a
  have N2 := N0.app Nq2
  have e2 : T2.heap = h0 := eq2
  have k3 : To p.tables e below S0 (T2.setTop (mkF m 10 #[.val (.ref t), .val (.int (0 : Int32)), .val (.int (1 : Int32)), .val (.int (1 : Int32)), .unset] [(.int (1 : Int32))])) := fun tt hq => k2 tt (by
    refine XS.iloadN X2.here hx rfl (hb hby d_jdk_65_method_133_code_5) rfl ?_
    refine XS.iloadN X2.here hx rfl (hb hby d_jdk_65_method_133_code_6) rfl ?_
    refine XS.isub X2.here hx rfl (hb hby d_jdk_65_method_133_code_7) rfl ?_
    refine XS.istoreN X2.here hx rfl (hb hby d_jdk_65_method_133_code_8) rfl (l' := #[.val (.ref t), .val (.int (0 : Int32)), .val (.int (1 : Int32)), .val (.int (1 : Int32)), .unset]) rfl ?_
    refine XS.iloadN X2.here hx rfl (hb hby d_jdk_65_method_133_code_9) rfl ?_
    exact hq)
  obtain ⟨T4, h4, c4, X4, e4, E4, A4, st4⟩ := newP X2 hx hZ (wq hw 19 rfl) e2 (g := (mkF m 10 #[.val (.ref t), .val (.int (0 : Int32)), .val (.int (1 : Int32)), .val (.int (1 : Int32)), .unset] [(.int (1 : Int32))])) rfl (hb hby d_jdk_65_method_133_code_10) rfl (by decide) (cap := 1) (by decide) (by decide) (by decide) (by decide)
  obtain ⟨b4, g4⟩ : ∃ z, z = h0.size := ⟨_, rfl⟩
  rw [← g4] at A4 st4
  have k4 : To p.tables e below S0 (T4.setTop (mkF m 12 #[.val (.ref t), .val (.int (0 : Int32)), .val (.int (1 : Int32)), .val (.int (1 : Int32)), .unset] [(.ref b4)])) := fun tt hq => k3 tt (st4 tt hq)
  have z4 : h0.size ≤ h4.size := E4.1
  have V4 : Arv Z h4 b4 c4 .byte (1 : Int32) [(.int (0 : Int32))] (.int (0 : Int32)) := (Arv.new A4 (by decide)).pad (pad_rep [] (.int (0 : Int32)) 1)
  have y4 : @LT.lt Nat instLTNat b4 h4.size := V4.lt
  have f5 : Arv Z h4 t kt .byte (3 : Int32) [(.int c0), (.int c1), (.int c2)] (.int (0 : Int32)) := (P0.ext E4)
  have k6 : To p.tables e below S0 (T4.setTop (mkF m 20 #[.val (.ref t), .val (.int (0 : Int32)), .val (.int (1 : Int32)), .val (.int (1 : Int32)), .val (.ref b4)] [(.ref t), (.int (0 : Int32)), (.ref b4), (.int (0 : Int32)), (.ref t)])) := fun tt hq => k4 tt (by
    refine XS.astore X4.here hx rfl (hb hby d_jdk_65_method_133_code_12) rfl rfl (l' := #[.val (.ref t), .val (.int (0 : Int32)), .val (.int (1 : Int32)), .val (.int (1 : Int32)), .val (.ref b4)]) rfl ?_
    refine XS.aloadN X4.here hx rfl (hb hby d_jdk_65_method_133_code_14) rfl rfl ?_
    refine XS.iloadN X4.here hx rfl (hb hby d_jdk_65_method_133_code_15) rfl ?_
    refine XS.aload X4.here hx rfl (hb hby d_jdk_65_method_133_code_16) rfl rfl ?_
    refine XS.iconst X4.here hx rfl (hb hby d_jdk_65_method_133_code_18) ?_
    refine XS.aloadN X4.here hx rfl (hb hby d_jdk_65_method_133_code_19) rfl rfl ?_
    exact hq)
  obtain ⟨cl7, Ar7, -, S7, M7, -, -⟩ := id f5
  have st7 := fun tt => X4.arraylength hx (by rw [e4]; exact Ar7.1) (State.isArrayOf_alike hZ.alike Ar7.2.1) (g := (mkF m 20 #[.val (.ref t), .val (.int (0 : Int32)), .val (.int (1 : Int32)), .val (.int (1 : Int32)), .val (.ref b4)] [(.ref t), (.int (0 : Int32)), (.ref b4), (.int (0 : Int32)), (.ref t)])) rfl rfl (hb hby d_jdk_65_method_133_code_20) tt
  rw [len_of S7 M7] at st7
  have k7 : To p.tables e below S0 (T4.setTop (mkF m 21 #[.val (.ref t), .val (.int (0 : Int32)), .val (.int (1 : Int32)), .val (.int (1 : Int32)), .val (.ref b4)] [(.int (3 : Int32)), (.int (0 : Int32)), (.ref b4), (.int (0 : Int32)), (.ref t)])) := fun tt hq => k6 tt (st7 tt hq)
  have k8 : To p.tables e below S0 (T4.setTop (mkF m 24 #[.val (.ref t), .val (.int (0 : Int32)), .val (.int (1 : Int32)), .val (.int (1 : Int32)), .val (.ref b4)] [(.int (1 : Int32)), (.int (3 : Int32)), (.int (0 : Int32)), (.ref b4), (.int (0 : Int32)), (.ref t)])) := fun tt hq => k7 tt (by
    refine XS.iloadN X4.here hx rfl (hb hby d_jdk_65_method_133_code_21) rfl ?_
    refine XS.isub X4.here hx rfl (hb hby d_jdk_65_method_133_code_22) rfl ?_
    refine XS.iloadN X4.here hx rfl (hb hby d_jdk_65_method_133_code_23) rfl ?_
    exact hq)
  obtain ⟨_, T9, L9, X9, ⟨rfl, Nq9, eq9⟩, k9a⟩ := callS' X4 hx hZ (y := (⟨"java/lang/Math", "min", "(II)I"⟩ : MethodName)) hown (wq hw 160 rfl) (wq hw 70 rfl) (wq hw 71 rfl) (wq hw 72 rfl) (by decide) (backC (W := 4) (rm_min l Z a0 hw (3 : Int32) (1 : Int32) (1 : Int32) h4 n0 (by omega) (by decide)) hZ (wq hw 72 rfl) (wq hw 71 rfl) (by decide) (by decide)) e4 (argsL := [(.int (3 : Int32)), (.int (1 : Int32))]) (rest := [(.int (0 : Int32)), (.ref b4), (.int (0 : Int32)), (.ref t)]) rfl rfl pd_15 rfl (by rw [hml]; rfl) (hb hby d_jdk_65_method_133_code_24) (Nat.le_of_eq rfl) (by decide) (by decide) k8
  have k9 : To p.tables e below S0 (T9.setTop (mkF m 27 #[.val (.ref t), .val (.int (0 : Int32)), .val (.int (1 : Int32)), .val (.int (1 : Int32)), .val (.ref b4)] [(.int (1 : Int32)), (.int (0 : Int32)), (.ref b4), (.int (0 : Int32)), (.ref t)])) := k9a
  have N9 := N2.app Nq9
  have e9 : T9.heap = h4 := eq9
  obtain ⟨T10, h10, L10, X10, F10, e10, Kq10, V10, st10⟩ := copyB X9 hx hZ hown (wq hw 161 rfl) (wq hw 164 rfl) (wq hw 162 rfl) (wq hw 163 rfl) e9 f5 V4 (i := (0 : Int32)) (ws := [(.int c0)]) (by decide) (by decide) (by intro j hj; have hj' : j < 1 := Nat.lt_of_lt_of_eq hj (by decide); rcases j with _ | j <;> first | rfl | omega) (g := (mkF m 27 #[.val (.ref t), .val (.int (0 : Int32)), .val (.int (1 : Int32)), .val (.int (1 : Int32)), .val (.ref b4)] [(.int (1 : Int32)), (.int (0 : Int32)), (.ref b4), (.int (0 : Int32)), (.ref t)])) rfl (by rw [hml]; rfl) rfl (hb hby d_jdk_65_method_133_code_27) (by decide) (by show 2 * 0 + _ + _ ≤ _; decide +kernel)
  have k10 : To p.tables e below S0 (T10.setTop (mkF m 30 #[.val (.ref t), .val (.int (0 : Int32)), .val (.int (1 : Int32)), .val (.int (1 : Int32)), .val (.ref b4)] [])) := fun tt hq => k9 tt (st10 tt hq)
  have z10 : h4.size ≤ h10.size := Kq10.1
  have N10 := N9.app (F10 n0 (by omega))
  have k11 : To p.tables e below S0 (T10.setTop (mkF m 32 #[.val (.ref t), .val (.int (0 : Int32)), .val (.int (1 : Int32)), .val (.int (1 : Int32)), .val (.ref b4)] [(.ref b4)])) := fun tt hq => k10 tt (by
    refine XS.aload X10.here hx rfl (hb hby d_jdk_65_method_133_code_30) rfl rfl ?_
    exact hq)
  have hE := e10
  refine retRef X10 hx hret hlk rfl rfl (hb hby d_jdk_65_method_133_code_32) k11 ?_ (by decide) (by decide)
  try rw [hE]
  exact ⟨_, _, rfl, N10, (by omega), (((Keep.refl h0 []).ext E4).trans Kq10 (allS (Or.inr (by omega)) all0)), V10⟩
theorem pd_23 : parseMethodDescriptor "([BII)[B" = some ⟨[(.array .byte), .int, .int], some (.array .byte)⟩ := by decide +kernel
set_option maxRecDepth 65536 in
set_option maxHeartbeats 40000000 in
theorem rm_cro0_1 (l : Launch) (Z : State) (a0 : Array Value) (hw : ∀ d ∈ tables_1, d.before a0 Z = true) (t : Addr) (kt : ClassId) (c0 : Int32) (c1 : Int32) (c2 : Int32) (h0 : Heap) (n0 : Nat) (hn0 : n0 ≤ h0.size) (P0 : Arv Z h0 t kt .byte (3 : Int32) [(.int c0), (.int c1), (.int c2)] (.int (0 : Int32))) (yt : @LT.lt Nat instLTNat t h0.size) :
    Con l Z (⟨"java/util/Arrays", "copyOfRange", "([BII)[B"⟩ : MethodName) jdk_65_method_132_code 3 (some (.array .byte)) [] ({ frames := 2, cells := 1, slots := 1, locals := 34 } : Room) #[(.ref t), (.int (0 : Int32)), (.int (1 : Int32))] h0 (fun v h L => ∃ (b : Addr) (kb : ClassId), v = some (.ref b) ∧ Fr n0 L ∧ h0.size ≤ b ∧ Keep h0 h [] ∧ Arv Z h b kb .byte (1 : Int32) [(.int c0)] (.int (0 : Int32))) := by
  refine enter (Ls := #[.val (.ref t), .val (.int (0 : Int32)), .val (.int (1 : Int32))]) (plainFor_of_name pn_8) (fun m => by exact entry_eq rfl) ?_
  intro p e s m below meth cd_ s₁ S0 hx hby hml hret hlk hnm hown hZ X0 e0 k0
  have N0 := Fr.nil n0
  have k1 : To p.tables e below S0 (s₁.setTop (mkF m 6 #[.val (.ref t), .val (.int (0 : Int32)), .val (.int (1 : Int32))] [(.ref t), (.int (1 : Int32))])) := fun tt hq => k0 tt (by
    refine XS.iloadN X0.here hx rfl (hb hby d_jdk_65_method_132_code_0) rfl ?_
    refine XS.ifNo X0.here hx rfl (hb hby d_jdk_65_method_132_code_1) rfl ((if0 _ _).trans (teq (by decide)).2) ?_
    refine XS.iloadN X0.here hx rfl (hb hby d_jdk_65_method_132_code_4) rfl ?_
    refine XS.aloadN X0.here hx rfl (hb hby d_jdk_65_method_132_code_5) rfl rfl ?_
    exact hq)
  obtain ⟨cl2, Ar2, -, S2, M2, -, -⟩ := id P0
  have st2 := fun tt => X0.arraylength hx (by rw [e0]; exact Ar2.1) (State.isArrayOf_alike hZ.alike Ar2.2.1) (g := (mkF m 6 #[.val (.ref t), .val (.int (0 : Int32)), .val (.int (1 : Int32))] [(.ref t), (.int (1 : Int32))])) rfl rfl (hb hby d_jdk_65_method_132_code_6) tt
  rw [len_of S2 M2] at st2
  have k2 : To p.tables e below S0 (s₁.setTop (mkF m 7 #[.val (.ref t), .val (.int (0 : Int32)), .val (.int (1 : Int32))] [(.int (3 : Int32)), (.int (1 : Int32))])) := fun tt hq => k1 tt (st2 tt hq)
  have k3 : To p.tables e below S0 (s₁.setTop (mkF m 13 #[.val (.ref t), .val (.int (0 : Int32)), .val (.int (1 : Int32))] [(.int (1 : Int32)), (.int (0 : Int32)), (.ref t)])) := fun tt hq => k2 tt (by
    refine XS.icmpNo X0.here hx rfl (hb hby d_jdk_65_method_132_code_7) rfl (feq (by decide)).1 ?_
    refine XS.aloadN X0.here hx rfl (hb hby d_jdk_65_method_132_code_10) rfl rfl ?_
    refine XS.iloadN X0.here hx rfl (hb hby d_jdk_65_method_132_code_11) rfl ?_
    refine XS.iloadN X0.here hx rfl (hb hby d_jdk_65_method_132_code_12) rfl ?_
    exact hq)
  obtain ⟨_, T4, L4, X4, ⟨t4, kt4, rfl, Nq4, gt4, Kq4, V4⟩, k4a⟩ := callS' X0 hx hZ (y := (⟨"java/util/Arrays", "copyOfRangeByte", "([BII)[B"⟩ : MethodName)) hown (wq hw 154 rfl) (wq hw 155 rfl) (wq hw 152 rfl) (wq hw 156 rfl) (by decide) (backC (W := 0) (rm_crb0_1 l Z a0 hw t kt c0 c1 c2 h0 n0 (by omega) P0 (by omega)) hZ (wq hw 156 rfl) (wq hw 152 rfl) (by decide) (by decide)) e0 (argsL := [(.ref t), (.int (0 : Int32)), (.int (1 : Int32))]) (rest := []) rfl rfl pd_23 rfl (by rw [hml]; rfl) (hb hby d_jdk_65_method_132_code_13) (Nat.le_of_eq rfl) (by decide) (by decide) k3
  have k4 : To p.tables e below S0 (T4.setTop (mkF m 16 #[.val (.ref t), .val (.int (0 : Int32)), .val (.int (1 : Int32))] [(.ref t4)])) := k4a
  have N4 := N0.app Nq4
  obtain ⟨h4, e4⟩ : ∃ z, T4.heap = z := ⟨_, rfl⟩
  rw [e4] at Kq4 V4
  have z4 : h0.size ≤ h4.size := Kq4.1
  have y4 : @LT.lt Nat instLTNat t4 h4.size := V4.lt
  have hE := e4
  refine retRef X4 hx hret hlk rfl rfl (hb hby d_jdk_65_method_132_code_16) k4 ?_ (by decide) (by decide)
  try rw [hE]
  exact ⟨_, _, rfl, N4, (by omega), ((Keep.refl h0 []).trans Kq4 all0), V4⟩
theorem pd_24 : parseMethodDescriptor "([BB)V" = some ⟨[(.array .byte), .byte], none⟩ := by decide +kernel
set_option maxRecDepth 65536 in
set_option maxHeartbeats 40000000 in
theorem rm_ns0_1 (l : Launch) (Z : State) (a0 : Array Value) (hw : ∀ d ∈ tables_1, d.before a0 Z = true) (t : Addr) (kt : ClassId) (c0 : Int32) (c1 : Int32) (c2 : Int32) (h0 : Heap) (n0 : Nat) (hn0 : n0 ≤ h0.size) (P0 : Arv Z h0 t kt .byte (3 : Int32) [(.int c0), (.int c1), (.int c2)] (.int (0 : Int32))) (yt : @LT.lt Nat instLTNat t h0.size) :
    Con l Z (⟨"java/lang/StringLatin1", "newString", "([BII)Ljava/lang/String;"⟩ : MethodName) jdk_43_method_47_code 3 (some (.object "java/lang/String")) [] ({ frames := 3, cells := 2, slots := 5, locals := 50 } : Room) #[(.ref t), (.int (0 : Int32)), (.int (1 : Int32))] h0 (fun v h L => ∃ (b t : Addr) (k : ClassId), v = some (.ref b) ∧ Fr n0 L ∧ (@LT.lt Nat instLTNat b h.size) ∧ (@LT.lt Nat instLTNat t h.size) ∧ Keep h0 h [] ∧ Exa Z h b "java/lang/String" ∧ Fld Z h b "java/lang/String" "value" "[B" (.ref t) ∧ Fld Z h b "java/lang/String" "coder" "B" (.int (0 : Int32)) ∧ Arv Z h t k .byte (1 : Int32) [(.int c0)] (.int 0)) := by
  refine enter (Ls := #[.val (.ref t), .val (.int (0 : Int32)), .val (.int (1 : Int32))]) (plainFor_of_name pn_4) (fun m => by exact entry_eq rfl) ?_
  intro p e s m below meth cd_ s₁ S0 hx hby hml hret hlk hnm hown hZ X0 e0 k0
  have N0 := Fr.nil n0
  have k1 : To p.tables e below S0 (s₁.setTop (mkF m 7 #[.val (.ref t), .val (.int (0 : Int32)), .val (.int (1 : Int32))] [])) := fun tt hq => k0 tt (by
    refine XS.iloadN X0.here hx rfl (hb hby d_jdk_43_method_47_code_0) rfl ?_
    refine XS.ifYes X0.here hx rfl (pc0 := 1) (pc' := 7) rfl (hb hby d_jdk_43_method_47_code_1) rfl ((if0 _ _).trans (feq (by decide)).2) (by decide) (by decide) ?_
    exact hq)
  obtain ⟨T2, h2, X2, e2, E2, A2, D2, -, st2⟩ := newO X0 hx hZ hown (wq hw 149 rfl) (wq hw 2 rfl) (wq hw 3 rfl) e0 (g := (mkF m 7 #[.val (.ref t), .val (.int (0 : Int32)), .val (.int (1 : Int32))] [])) rfl (hb hby d_jdk_43_method_47_code_7) (by decide) (by decide)
  obtain ⟨b2, g2⟩ : ∃ z, z = h0.size := ⟨_, rfl⟩
  rw [← g2] at A2 D2 st2
  have k2 : To p.tables e below S0 (T2.setTop (mkF m 10 #[.val (.ref t), .val (.int (0 : Int32)), .val (.int (1 : Int32))] [(.ref b2)])) := fun tt hq => k1 tt (st2 tt hq)
  have z2 : h0.size ≤ h2.size := E2.1
  have y2 : @LT.lt Nat instLTNat b2 h2.size := A2.lt
  have F2_coder : Fld Z h2 b2 "java/lang/String" "coder" "B" (.int (0 : Int32)) := D2 (Or.inr (wq hw 27 rfl)) (ty := .byte) (by decide)
  have F2_value : Fld Z h2 b2 "java/lang/String" "value" "[B" .null := D2 (Or.inr (wq hw 29 rfl)) (ty := (.array .byte)) (by decide)
  have k3 : To p.tables e below S0 (T2.setTop (mkF m 16 #[.val (.ref t), .val (.int (0 : Int32)), .val (.int (1 : Int32))] [(.int (1 : Int32)), (.int (0 : Int32)), (.ref t), (.ref b2), (.ref b2)])) := fun tt hq => k2 tt (by
    refine XS.dup X2.here hx rfl (hb hby d_jdk_43_method_47_code_10) rfl rfl ?_
    refine XS.aloadN X2.here hx rfl (hb hby d_jdk_43_method_47_code_11) rfl rfl ?_
    refine XS.iloadN X2.here hx rfl (hb hby d_jdk_43_method_47_code_12) rfl ?_
    refine XS.iloadN X2.here hx rfl (hb hby d_jdk_43_method_47_code_13) rfl ?_
    refine XS.iloadN X2.here hx rfl (hb hby d_jdk_43_method_47_code_14) rfl ?_
    refine XS.iadd X2.here hx rfl (hb hby d_jdk_43_method_47_code_15) rfl ?_
    exact hq)
  have f4 : Arv Z h2 t kt .byte (3 : Int32) [(.int c0), (.int c1), (.int c2)] (.int (0 : Int32)) := (P0.ext E2)
  obtain ⟨_, T5, L5, X5, ⟨t5, kt5, rfl, Nq5, gt5, Kq5, V5⟩, k5a⟩ := callS' X2 hx hZ (y := (⟨"java/util/Arrays", "copyOfRange", "([BII)[B"⟩ : MethodName)) hown (wq hw 150 rfl) (wq hw 151 rfl) (wq hw 152 rfl) (wq hw 153 rfl) (by decide) (backC (W := 2) (rm_cro0_1 l Z a0 hw t kt c0 c1 c2 h2 n0 (by omega) f4 (by omega)) hZ (wq hw 153 rfl) (wq hw 152 rfl) (by decide) (by decide)) e2 (argsL := [(.ref t), (.int (0 : Int32)), (.int (1 : Int32))]) (rest := [(.ref b2), (.ref b2)]) rfl rfl pd_23 rfl (by rw [hml]; rfl) (hb hby d_jdk_43_method_47_code_16) (Nat.le_of_eq rfl) (by decide) (by decide) k3
  have k5 : To p.tables e below S0 (T5.setTop (mkF m 19 #[.val (.ref t), .val (.int (0 : Int32)), .val (.int (1 : Int32))] [(.ref t5), (.ref b2), (.ref b2)])) := k5a
  have N5 := N0.app Nq5
  obtain ⟨h5, e5⟩ : ∃ z, T5.heap = z := ⟨_, rfl⟩
  rw [e5] at Kq5 V5
  have z5 : h2.size ≤ h5.size := Kq5.1
  have y5 : @LT.lt Nat instLTNat t5 h5.size := V5.lt
  have k6 : To p.tables e below S0 (T5.setTop (mkF m 20 #[.val (.ref t), .val (.int (0 : Int32)), .val (.int (1 : Int32))] [(.int (0 : Int32)), (.ref t5), (.ref b2), (.ref b2)])) := fun tt hq => k5 tt (by
    refine XS.iconst X5.here hx rfl (hb hby d_jdk_43_method_47_code_19) ?_
    exact hq)
  have f7 : Exa Z h5 b2 "java/lang/String" := (A2.keep Kq5)
  have f8 : Fld Z h5 b2 "java/lang/String" "value" "[B" .null := (F2_value.keep Kq5 nin0)
  have f9 : Fld Z h5 b2 "java/lang/String" "coder" "B" (.int (0 : Int32)) := (F2_coder.keep Kq5 nin0)
  obtain ⟨_, T10, L10, X10, ⟨rfl, Nq10, Kq10, A10, Fv10, Fc10⟩, k10a⟩ := callC' X5 hx hZ (y := (⟨"java/lang/String", "<init>", "([BB)V"⟩ : MethodName)) rfl hown (wq hw 165 rfl) (wq hw 166 rfl) (wq hw 167 rfl) (by decide) (backC (W := 1) (rm_sbb l Z a0 hw b2 t5 .null (.int (0 : Int32)) h5 n0 (by omega) f7 f8 f9 (by omega)) hZ (wq hw 167 rfl) (wq hw 3 rfl) (by decide) (by decide)) e5 (argsL := [(.ref t5), (.int (0 : Int32))]) (rest := [(.ref b2)]) rfl rfl pd_24 rfl (by rw [hml]; rfl) (hb hby d_jdk_43_method_47_code_20) (Nat.le_of_eq rfl) (by decide) (by decide) k6
  have k10 : To p.tables e below S0 (T10.setTop (mkF m 23 #[.val (.ref t), .val (.int (0 : Int32)), .val (.int (1 : Int32))] [(.ref b2)])) := k10a
  have N10 := N5.app Nq10
  obtain ⟨h10, e10⟩ : ∃ z, T10.heap = z := ⟨_, rfl⟩
  rw [e10] at Kq10 A10 Fv10 Fc10
  have z10 : h5.size ≤ h10.size := Kq10.1
  have f11 : Arv Z h10 t5 kt5 .byte (1 : Int32) [(.int c0)] (.int (0 : Int32)) := (V5.keep Kq10 (nin1 (by omega)))
  have hE := e10
  refine retRef X10 hx hret hlk rfl rfl (hb hby d_jdk_43_method_47_code_23) k10 ?_ (by decide) (by decide)
  try rw [hE]
  exact ⟨_, _, _, rfl, N10, A10.lt, f11.lt, ((((Keep.refl h0 []).ext E2).trans Kq5 all0).trans Kq10 (allS (Or.inr (by omega)) all0)), A10, Fv10, Fc10, f11⟩
set_option maxRecDepth 65536 in
set_option maxHeartbeats 40000000 in
theorem rm_sub0_1 (l : Launch) (Z : State) (a0 : Array Value) (hw : ∀ d ∈ tables_1, d.before a0 Z = true) (zc : Int32) (fm : Value) (a : Addr) (t : Addr) (kt : ClassId) (c0 : Int32) (c1 : Int32) (c2 : Int32) (h0 : Heap) (n0 : Nat) (hn0 : n0 ≤ h0.size) (S_c : Sta Z Z.heap "java/lang/String" "COMPACT_STRINGS" "Z" (.int zc)) (hzc : ¬ zc = (0 : Int32)) (S_f : Sta Z Z.heap "jdk/internal/util/Preconditions" "SIOOBE_FORMATTER" "Ljava/util/function/BiFunction;" fm) (hfm : fm.isRef = true) (O0 : Old Z n0 h0) (P0 : Exa Z h0 a "java/lang/String") (P1 : Fld Z h0 a "java/lang/String" "value" "[B" (.ref t)) (P2 : Fld Z h0 a "java/lang/String" "coder" "B" (.int (0 : Int32))) (P3 : Arv Z h0 t kt .byte (3 : Int32) [(.int c0), (.int c1), (.int c2)] (.int 0)) (yt : @LT.lt Nat instLTNat t h0.size) :
    Con l Z (⟨"java/lang/String", "substring", "(II)Ljava/lang/String;"⟩ : MethodName) jdk_42_method_92_code 5 (some (.object "java/lang/String")) [] ({ frames := 4, cells := 2, slots := 5, locals := 64 } : Room) #[(.ref a), (.int (0 : Int32)), (.int (1 : Int32))] h0 (fun v h L => ∃ (b t : Addr) (k : ClassId), v = some (.ref b) ∧ Fr n0 L ∧ (@LT.lt Nat instLTNat b h.size) ∧ (@LT.lt Nat instLTNat t h.size) ∧ Keep h0 h [] ∧ Exa Z h b "java/lang/String" ∧ Fld Z h b "java/lang/String" "value" "[B" (.ref t) ∧ Fld Z h b "java/lang/String" "coder" "B" (.int (0 : Int32)) ∧ Arv Z h t k .byte (1 : Int32) [(.int c0)] (.int 0)) := by
  refine enter (Ls := #[.val (.ref a), .val (.int (0 : Int32)), .val (.int (1 : Int32)), .unset, .unset]) (plainFor_of_name pn_1) (fun m => by exact entry_eq rfl) ?_
  intro p e s m below meth cd_ s₁ S0 hx hby hml hret hlk hnm hown hZ X0 e0 k0
  have N0 := Fr.nil n0
  have k1 : To p.tables e below S0 (s₁.setTop (mkF m 1 #[.val (.ref a), .val (.int (0 : Int32)), .val (.int (1 : Int32)), .unset, .unset] [(.ref a)])) := fun tt hq => k0 tt (by
    refine XS.aloadN X0.here hx rfl (hb hby d_jdk_42_method_92_code_0) rfl rfl ?_
    exact hq)
  obtain ⟨_, T2, L2, X2, ⟨rfl, Nq2, eq2⟩, k2a⟩ := callV' X0 hx hZ (y := (⟨"java/lang/String", "length", "()I"⟩ : MethodName)) (z := (⟨"java/lang/String", "length", "()I"⟩ : MethodName)) hown (wq hw 122 rfl) (wq hw 123 rfl) (notFace_of_selects (args := #[]) (mvT hZ (wq hw 125 rfl))) (wq hw 125 rfl) (wq hw 124 rfl) (by decide) P0 (backC (W := 0) (rm_len3 l Z a0 hw zc a t kt c0 c1 c2 h0 n0 (by omega) S_c hzc O0 P0 P1 P2 P3) hZ (wq hw 126 rfl) (wq hw 3 rfl) (by decide) (by decide)) e0 (argsL := []) (rest := []) rfl rfl pd_17 rfl (by rw [hml]; rfl) (hb hby d_jdk_42_method_92_code_1) (Nat.le_of_eq rfl) (by decide) (by decide) k1
  have k2 : To p.tables e below S0 (T2.setTop (mkF m 4 #[.val (.ref a), .val (.int (0 : Int32)), .val (.int (1 : Int32)), .unset, .unset] [(.int (3 : Int32))])) := k2a
  have N2 := N0.app Nq2
  have e2 : T2.heap = h0 := eq2
  have k3 : To p.tables e below S0 (T2.setTop (mkF m 8 #[.val (.ref a), .val (.int (0 : Int32)), .val (.int (1 : Int32)), .val (.int (3 : Int32)), .unset] [(.int (3 : Int32)), (.int (1 : Int32)), (.int (0 : Int32))])) := fun tt hq => k2 tt (by
    refine XS.istoreN X2.here hx rfl (hb hby d_jdk_42_method_92_code_4) rfl (l' := #[.val (.ref a), .val (.int (0 : Int32)), .val (.int (1 : Int32)), .val (.int (3 : Int32)), .unset]) rfl ?_
    refine XS.iloadN X2.here hx rfl (hb hby d_jdk_42_method_92_code_5) rfl ?_
    refine XS.iloadN X2.here hx rfl (hb hby d_jdk_42_method_92_code_6) rfl ?_
    refine XS.iloadN X2.here hx rfl (hb hby d_jdk_42_method_92_code_7) rfl ?_
    exact hq)
  obtain ⟨_, T4, L4, X4, ⟨rfl, Nq4, eq4⟩, k4a⟩ := callS' X2 hx hZ (y := (⟨"java/lang/String", "checkBoundsBeginEnd", "(III)V"⟩ : MethodName)) hown (wq hw 132 rfl) (wq hw 133 rfl) (wq hw 3 rfl) (wq hw 134 rfl) (by decide) (backC (W := 0) (rm_cbe l Z a0 hw fm (0 : Int32) (1 : Int32) (3 : Int32) h0 n0 (by omega) S_f hfm O0 (by decide) (by decide) (by decide)) hZ (wq hw 134 rfl) (wq hw 3 rfl) (by decide) (by decide)) e2 (argsL := [(.int (0 : Int32)), (.int (1 : Int32)), (.int (3 : Int32))]) (rest := []) rfl rfl pd_18 rfl (by rw [hml]; rfl) (hb hby d_jdk_42_method_92_code_8) (Nat.le_of_eq rfl) (by decide) (by decide) k3
  have k4 : To p.tables e below S0 (T4.setTop (mkF m 11 #[.val (.ref a), .val (.int (0 : Int32)), .val (.int (1 : Int32)), .val (.int (3 : Int32)), .unset] [])) := k4a
  have N4 := N2.app Nq4
  have e4 : T4.heap = h0 := eq4
  have k5 : To p.tables e below S0 (T4.setTop (mkF m 28 #[.val (.ref a), .val (.int (0 : Int32)), .val (.int (1 : Int32)), .val (.int (3 : Int32)), .val (.int (1 : Int32))] [(.ref a)])) := fun tt hq => k4 tt (by
    refine XS.iloadN X4.here hx rfl (hb hby d_jdk_42_method_92_code_11) rfl ?_
    refine XS.ifNo X4.here hx rfl (hb hby d_jdk_42_method_92_code_12) rfl ((if0 _ _).trans (teq (by decide)).2) ?_
    refine XS.iloadN X4.here hx rfl (hb hby d_jdk_42_method_92_code_15) rfl ?_
    refine XS.iloadN X4.here hx rfl (hb hby d_jdk_42_method_92_code_16) rfl ?_
    refine XS.icmpYes X4.here hx rfl (pc0 := 17) (pc' := 22) rfl (hb hby d_jdk_42_method_92_code_17) rfl (feq (by decide)).2 (by decide) (by decide) ?_
    refine XS.iloadN X4.here hx rfl (hb hby d_jdk_42_method_92_code_22) rfl ?_
    refine XS.iloadN X4.here hx rfl (hb hby d_jdk_42_method_92_code_23) rfl ?_
    refine XS.isub X4.here hx rfl (hb hby d_jdk_42_method_92_code_24) rfl ?_
    refine XS.istore X4.here hx rfl (hb hby d_jdk_42_method_92_code_25) rfl (l' := #[.val (.ref a), .val (.int (0 : Int32)), .val (.int (1 : Int32)), .val (.int (3 : Int32)), .val (.int (1 : Int32))]) rfl ?_
    refine XS.aloadN X4.here hx rfl (hb hby d_jdk_42_method_92_code_27) rfl rfl ?_
    exact hq)
  obtain ⟨_, T6, L6, X6, ⟨rfl, Nq6, eq6⟩, k6a⟩ := callV' X4 hx hZ (y := (⟨"java/lang/String", "isLatin1", "()Z"⟩ : MethodName)) (z := (⟨"java/lang/String", "isLatin1", "()Z"⟩ : MethodName)) hown (wq hw 89 rfl) (wq hw 90 rfl) (notFace_of_selects (args := #[]) (mvT hZ (wq hw 92 rfl))) (wq hw 92 rfl) (wq hw 91 rfl) (by decide) P0 (backC (W := 0) (rm_latin l Z a0 hw zc a h0 n0 (by omega) S_c hzc O0 P2) hZ (wq hw 93 rfl) (wq hw 3 rfl) (by decide) (by decide)) e4 (argsL := []) (rest := []) rfl rfl pd_6 rfl (by rw [hml]; rfl) (hb hby d_jdk_42_method_92_code_28) (Nat.le_of_eq rfl) (by decide) (by decide) k5
  have k6 : To p.tables e below S0 (T6.setTop (mkF m 31 #[.val (.ref a), .val (.int (0 : Int32)), .val (.int (1 : Int32)), .val (.int (3 : Int32)), .val (.int (1 : Int32))] [(.int (1 : Int32))])) := k6a
  have N6 := N4.app Nq6
  have e6 : T6.heap = h0 := eq6
  have k7 : To p.tables e below S0 (T6.setTop (mkF m 35 #[.val (.ref a), .val (.int (0 : Int32)), .val (.int (1 : Int32)), .val (.int (3 : Int32)), .val (.int (1 : Int32))] [(.ref a)])) := fun tt hq => k6 tt (by
    refine XS.ifNo X6.here hx rfl (hb hby d_jdk_42_method_92_code_31) rfl ((if0 _ _).trans (feq (by decide)).1) ?_
    refine XS.aloadN X6.here hx rfl (hb hby d_jdk_42_method_92_code_34) rfl rfl ?_
    exact hq)
  obtain ⟨T8, X8, e8, st8⟩ := getF X6 hx hZ hown (host := "") (Or.inl (wq hw 28 rfl)) Via.refl e6 P1 (g := (mkF m 35 #[.val (.ref a), .val (.int (0 : Int32)), .val (.int (1 : Int32)), .val (.int (3 : Int32)), .val (.int (1 : Int32))] [(.ref a)])) rfl rfl (hb hby d_jdk_42_method_92_code_35)
  have k8 : To p.tables e below S0 (T8.setTop (mkF m 38 #[.val (.ref a), .val (.int (0 : Int32)), .val (.int (1 : Int32)), .val (.int (3 : Int32)), .val (.int (1 : Int32))] [(.ref t)])) := fun tt hq => k7 tt (st8 tt hq)
  have k9 : To p.tables e below S0 (T8.setTop (mkF m 41 #[.val (.ref a), .val (.int (0 : Int32)), .val (.int (1 : Int32)), .val (.int (3 : Int32)), .val (.int (1 : Int32))] [(.int (1 : Int32)), (.int (0 : Int32)), (.ref t)])) := fun tt hq => k8 tt (by
    refine XS.iloadN X8.here hx rfl (hb hby d_jdk_42_method_92_code_38) rfl ?_
    refine XS.iload X8.here hx rfl (hb hby d_jdk_42_method_92_code_39) rfl ?_
    exact hq)
  obtain ⟨_, T10, L10, X10, ⟨a10, t10, k10x, rfl, Nq10, ya10, yt10, Kq10, P100, P101, P102, P103⟩, k10a⟩ := callS' X8 hx hZ (y := (⟨"java/lang/StringLatin1", "newString", "([BII)Ljava/lang/String;"⟩ : MethodName)) hown (wq hw 138 rfl) (wq hw 139 rfl) (wq hw 140 rfl) (wq hw 141 rfl) (by decide) (backC (W := 0) (rm_ns0_1 l Z a0 hw t kt c0 c1 c2 h0 n0 (by omega) P3 (by omega)) hZ (wq hw 141 rfl) (wq hw 140 rfl) (by decide) (by decide)) e8 (argsL := [(.ref t), (.int (0 : Int32)), (.int (1 : Int32))]) (rest := []) rfl rfl pd_19 rfl (by rw [hml]; rfl) (hb hby d_jdk_42_method_92_code_41) (Nat.le_of_eq rfl) (by decide) (by decide) k9
  have k10 : To p.tables e below S0 (T10.setTop (mkF m 44 #[.val (.ref a), .val (.int (0 : Int32)), .val (.int (1 : Int32)), .val (.int (3 : Int32)), .val (.int (1 : Int32))] [(.ref a10)])) := k10a
  have N10 := N6.app Nq10
  obtain ⟨h10, e10⟩ : ∃ z, T10.heap = z := ⟨_, rfl⟩
  rw [e10] at Kq10 ya10 yt10 P100 P101 P102 P103
  have z10 : h0.size ≤ h10.size := Kq10.1
  have k11 : To p.tables e below S0 (T10.setTop (mkF m 57 #[.val (.ref a), .val (.int (0 : Int32)), .val (.int (1 : Int32)), .val (.int (3 : Int32)), .val (.int (1 : Int32))] [(.ref a10)])) := fun tt hq => k10 tt (by
    refine XS.goto X10.here hx rfl (pc0 := 44) (pc' := 57) rfl (hb hby d_jdk_42_method_92_code_44) (by decide) (by decide) ?_
    exact hq)
  have hE := e10
  refine retRef X10 hx hret hlk rfl rfl (hb hby d_jdk_42_method_92_code_57) k11 ?_ (by decide) (by decide)
  try rw [hE]
  exact ⟨_, _, _, rfl, N10, P100.lt, P103.lt, ((Keep.refl h0 []).trans Kq10 all0), P100, P101, P102, P103⟩
set_option maxRecDepth 65536 in
set_option maxHeartbeats 40000000 in
theorem rm_tf0_1 (l : Launch) (Z : State) (a0 : Array Value) (hw : ∀ d ∈ tables_1, d.before a0 Z = true) (zc : Int32) (fm : Value) (r : Addr) (a : Addr) (t : Addr) (kt : ClassId) (c0 : Int32) (c1 : Int32) (c2 : Int32) (h0 : Heap) (n0 : Nat) (hn0 : n0 ≤ h0.size) (S_c : Sta Z Z.heap "java/lang/String" "COMPACT_STRINGS" "Z" (.int zc)) (hzc : ¬ zc = (0 : Int32)) (S_f : Sta Z Z.heap "jdk/internal/util/Preconditions" "SIOOBE_FORMATTER" "Ljava/util/function/BiFunction;" fm) (hfm : fm.isRef = true) (O0 : Old Z n0 h0) (Q0 : Fld Z h0 r "com/example/ceruline/ceruline/parsing/SourceReader" "text" "Ljava/lang/String;" (.ref a)) (Q1 : Fld Z h0 r "com/example/ceruline/ceruline/parsing/SourceReader" "offset" "I" (.int (1 : Int32))) (P0 : Exa Z h0 a "java/lang/String") (P1 : Fld Z h0 a "java/lang/String" "value" "[B" (.ref t)) (P2 : Fld Z h0 a "java/lang/String" "coder" "B" (.int (0 : Int32))) (P3 : Arv Z h0 t kt .byte (3 : Int32) [(.int c0), (.int c1), (.int c2)] (.int 0)) (yt : @LT.lt Nat instLTNat t h0.size) :
    Con l Z (⟨"com/example/ceruline/ceruline/parsing/SourceReader", "textFrom", "(I)Ljava/lang/String;"⟩ : MethodName) prog_66_method_8_code 2 (some (.object "java/lang/String")) [] ({ frames := 5, cells := 2, slots := 5, locals := 80 } : Room) #[(.ref r), (.int (0 : Int32))] h0 (fun v h L => ∃ (b t : Addr) (k : ClassId), v = some (.ref b) ∧ Fr n0 L ∧ (@LT.lt Nat instLTNat b h.size) ∧ (@LT.lt Nat instLTNat t h.size) ∧ Keep h0 h [] ∧ Exa Z h b "java/lang/String" ∧ Fld Z h b "java/lang/String" "value" "[B" (.ref t) ∧ Fld Z h b "java/lang/String" "coder" "B" (.int (0 : Int32)) ∧ Arv Z h t k .byte (1 : Int32) [(.int c0)] (.int 0)) := by
  refine enter (Ls := #[.val (.ref r), .val (.int (0 : Int32))]) (plainFor_of_name pn_7) (fun m => by exact entry_eq rfl) ?_
  intro p e s m below meth cd_ s₁ S0 hx hby hml hret hlk hnm hown hZ X0 e0 k0
  have N0 := Fr.nil n0
  have k1 : To p.tables e below S0 (s₁.setTop (mkF m 1 #[.val (.ref r), .val (.int (0 : Int32))] [(.ref r)])) := fun tt hq => k0 tt (by
    refine XS.aloadN X0.here hx rfl (hb hby d_prog_66_method_8_code_0) rfl rfl ?_
    exact hq)
  obtain ⟨T2, X2, e2, st2⟩ := getF X0 hx hZ hown (host := "") (Or.inl (wq hw 67 rfl)) Via.refl e0 Q0 (g := (mkF m 1 #[.val (.ref r), .val (.int (0 : Int32))] [(.ref r)])) rfl rfl (hb hby d_prog_66_method_8_code_1)
  have k2 : To p.tables e below S0 (T2.setTop (mkF m 4 #[.val (.ref r), .val (.int (0 : Int32))] [(.ref a)])) := fun tt hq => k1 tt (st2 tt hq)
  have k3 : To p.tables e below S0 (T2.setTop (mkF m 6 #[.val (.ref r), .val (.int (0 : Int32))] [(.ref r), (.int (0 : Int32)), (.ref a)])) := fun tt hq => k2 tt (by
    refine XS.iloadN X2.here hx rfl (hb hby d_prog_66_method_8_code_4) rfl ?_
    refine XS.aloadN X2.here hx rfl (hb hby d_prog_66_method_8_code_5) rfl rfl ?_
    exact hq)
  obtain ⟨T4, X4, e4, st4⟩ := getF X2 hx hZ hown (host := "") (Or.inl (wq hw 82 rfl)) Via.refl e2 Q1 (g := (mkF m 6 #[.val (.ref r), .val (.int (0 : Int32))] [(.ref r), (.int (0 : Int32)), (.ref a)])) rfl rfl (hb hby d_prog_66_method_8_code_6)
  have k4 : To p.tables e below S0 (T4.setTop (mkF m 9 #[.val (.ref r), .val (.int (0 : Int32))] [(.int (1 : Int32)), (.int (0 : Int32)), (.ref a)])) := fun tt hq => k3 tt (st4 tt hq)
  obtain ⟨_, T5, L5, X5, ⟨a5, t5, k5x, rfl, Nq5, ya5, yt5, Kq5, P50, P51, P52, P53⟩, k5a⟩ := callV' X4 hx hZ (y := (⟨"java/lang/String", "substring", "(II)Ljava/lang/String;"⟩ : MethodName)) (z := (⟨"java/lang/String", "substring", "(II)Ljava/lang/String;"⟩ : MethodName)) hown (wq hw 117 rfl) (wq hw 118 rfl) (notFace_of_selects (args := #[]) (mvT hZ (wq hw 120 rfl))) (wq hw 120 rfl) (wq hw 119 rfl) (by decide) P0 (backC (W := 0) (rm_sub0_1 l Z a0 hw zc fm a t kt c0 c1 c2 h0 n0 (by omega) S_c hzc S_f hfm O0 P0 P1 P2 P3 (by omega)) hZ (wq hw 121 rfl) (wq hw 3 rfl) (by decide) (by decide)) e4 (argsL := [(.int (0 : Int32)), (.int (1 : Int32))]) (rest := []) rfl rfl pd_20 rfl (by rw [hml]; rfl) (hb hby d_prog_66_method_8_code_9) (Nat.le_of_eq rfl) (by decide) (by decide) k4
  have k5 : To p.tables e below S0 (T5.setTop (mkF m 12 #[.val (.ref r), .val (.int (0 : Int32))] [(.ref a5)])) := k5a
  have N5 := N0.app Nq5
  obtain ⟨h5, e5⟩ : ∃ z, T5.heap = z := ⟨_, rfl⟩
  rw [e5] at Kq5 ya5 yt5 P50 P51 P52 P53
  have z5 : h0.size ≤ h5.size := Kq5.1
  have hE := e5
  refine retRef X5 hx hret hlk rfl rfl (hb hby d_prog_66_method_8_code_12) k5 ?_ (by decide) (by decide)
  try rw [hE]
  exact ⟨_, _, _, rfl, N5, P50.lt, P53.lt, ((Keep.refl h0 []).trans Kq5 all0), P50, P51, P52, P53⟩
set_option maxRecDepth 65536 in
set_option maxHeartbeats 40000000 in
theorem rm_sub1_1 (l : Launch) (Z : State) (a0 : Array Value) (hw : ∀ d ∈ tables_1, d.before a0 Z = true) (zc : Int32) (fm : Value) (a : Addr) (t : Addr) (kt : ClassId) (c0 : Int32) (c1 : Int32) (c2 : Int32) (h0 : Heap) (n0 : Nat) (hn0 : n0 ≤ h0.size) (S_c : Sta Z Z.heap "java/lang/String" "COMPACT_STRINGS" "Z" (.int zc)) (hzc : ¬ zc = (0 : Int32)) (S_f : Sta Z Z.heap "jdk/internal/util/Preconditions" "SIOOBE_FORMATTER" "Ljava/util/function/BiFunction;" fm) (hfm : fm.isRef = true) (O0 : Old Z n0 h0) (P0 : Exa Z h0 a "java/lang/String") (P1 : Fld Z h0 a "java/lang/String" "value" "[B" (.ref t)) (P2 : Fld Z h0 a "java/lang/String" "coder" "B" (.int (0 : Int32))) (P3 : Arv Z h0 t kt .byte (3 : Int32) [(.int c0), (.int c1), (.int c2)] (.int 0)) (yt : @LT.lt Nat instLTNat t h0.size) :
    ConW l Z own_EL (⟨"java/lang/String", "substring", "(II)Ljava/lang/String;"⟩ : MethodName) jdk_42_method_92_code 5 (some (.object "java/lang/String")) [] ({ frames := 2, cells := 2, slots := 4, locals := 29 } : Room) #[(.ref a), (.int (1 : Int32)), (.int (1 : Int32))] h0 [] (fun v h L => ∃ (b t : Addr) (k : ClassId), v = some (.ref b) ∧ Fr n0 L ∧ (@LT.lt Nat instLTNat b h.size) ∧ (@LT.lt Nat instLTNat t h.size) ∧ Keep h0 h [] ∧ Exa Z h b "java/lang/String" ∧ Fld Z h b "java/lang/String" "value" "[B" (.ref t) ∧ Fld Z h b "java/lang/String" "coder" "B" (.int (0 : Int32)) ∧ Arv Z h t k .byte (0 : Int32) [] (.int 0)) := by
  refine enterW (Ls := #[.val (.ref a), .val (.int (1 : Int32)), .val (.int (1 : Int32)), .unset, .unset]) (plainFor_of_name pn_1) (fun m => by exact entry_eq rfl) ?_
  intro p e s m below meth cd_ s₁ S0 vm0 hx hby hml hret hlk hnm hown hZ X0 e0 k0 C0 hsf hS0
  have N0 := Fr.nil n0
  have k1 : To p.tables e below S0 (s₁.setTop (mkF m 1 #[.val (.ref a), .val (.int (1 : Int32)), .val (.int (1 : Int32)), .unset, .unset] [(.ref a)])) := fun tt hq => k0 tt (by
    refine XS.aloadN X0.here hx rfl (hb hby d_jdk_42_method_92_code_0) rfl rfl ?_
    exact hq)
  obtain ⟨_, T2, L2, X2, ⟨rfl, Nq2, eq2⟩, k2a⟩ := callV' X0 hx hZ (y := (⟨"java/lang/String", "length", "()I"⟩ : MethodName)) (z := (⟨"java/lang/String", "length", "()I"⟩ : MethodName)) hown (wq hw 122 rfl) (wq hw 123 rfl) (notFace_of_selects (args := #[]) (mvT hZ (wq hw 125 rfl))) (wq hw 125 rfl) (wq hw 124 rfl) (by decide) P0 (backC (W := 0) (rm_len3 l Z a0 hw zc a t kt c0 c1 c2 h0 n0 (by omega) S_c hzc O0 P0 P1 P2 P3) hZ (wq hw 126 rfl) (wq hw 3 rfl) (by decide) (by decide)) e0 (argsL := []) (rest := []) rfl rfl pd_17 rfl (by rw [hml]; rfl) (hb hby d_jdk_42_method_92_code_1) (Nat.le_of_eq rfl) (by decide) (by decide) k1
  have k2 : To p.tables e below S0 (T2.setTop (mkF m 4 #[.val (.ref a), .val (.int (1 : Int32)), .val (.int (1 : Int32)), .unset, .unset] [(.int (3 : Int32))])) := k2a
  have N2 := N0.app Nq2
  have e2 : T2.heap = h0 := eq2
  have k3 : To p.tables e below S0 (T2.setTop (mkF m 8 #[.val (.ref a), .val (.int (1 : Int32)), .val (.int (1 : Int32)), .val (.int (3 : Int32)), .unset] [(.int (3 : Int32)), (.int (1 : Int32)), (.int (1 : Int32))])) := fun tt hq => k2 tt (by
    refine XS.istoreN X2.here hx rfl (hb hby d_jdk_42_method_92_code_4) rfl (l' := #[.val (.ref a), .val (.int (1 : Int32)), .val (.int (1 : Int32)), .val (.int (3 : Int32)), .unset]) rfl ?_
    refine XS.iloadN X2.here hx rfl (hb hby d_jdk_42_method_92_code_5) rfl ?_
    refine XS.iloadN X2.here hx rfl (hb hby d_jdk_42_method_92_code_6) rfl ?_
    refine XS.iloadN X2.here hx rfl (hb hby d_jdk_42_method_92_code_7) rfl ?_
    exact hq)
  obtain ⟨_, T4, L4, X4, ⟨rfl, Nq4, eq4⟩, k4a⟩ := callS' X2 hx hZ (y := (⟨"java/lang/String", "checkBoundsBeginEnd", "(III)V"⟩ : MethodName)) hown (wq hw 132 rfl) (wq hw 133 rfl) (wq hw 3 rfl) (wq hw 134 rfl) (by decide) (backC (W := 0) (rm_cbe l Z a0 hw fm (1 : Int32) (1 : Int32) (3 : Int32) h0 n0 (by omega) S_f hfm O0 (by decide) (by decide) (by decide)) hZ (wq hw 134 rfl) (wq hw 3 rfl) (by decide) (by decide)) e2 (argsL := [(.int (1 : Int32)), (.int (1 : Int32)), (.int (3 : Int32))]) (rest := []) rfl rfl pd_18 rfl (by rw [hml]; rfl) (hb hby d_jdk_42_method_92_code_8) (Nat.le_of_eq rfl) (by decide) (by decide) k3
  have k4 : To p.tables e below S0 (T4.setTop (mkF m 11 #[.val (.ref a), .val (.int (1 : Int32)), .val (.int (1 : Int32)), .val (.int (3 : Int32)), .unset] [])) := k4a
  have N4 := N2.app Nq4
  have e4 : T4.heap = h0 := eq4
  have k5 : To p.tables e below S0 (T4.setTop (mkF m 28 #[.val (.ref a), .val (.int (1 : Int32)), .val (.int (1 : Int32)), .val (.int (3 : Int32)), .val (.int (0 : Int32))] [(.ref a)])) := fun tt hq => k4 tt (by
    refine XS.iloadN X4.here hx rfl (hb hby d_jdk_42_method_92_code_11) rfl ?_
    refine XS.ifYes X4.here hx rfl (pc0 := 12) (pc' := 22) rfl (hb hby d_jdk_42_method_92_code_12) rfl ((if0 _ _).trans (feq (by decide)).2) (by decide) (by decide) ?_
    refine XS.iloadN X4.here hx rfl (hb hby d_jdk_42_method_92_code_22) rfl ?_
    refine XS.iloadN X4.here hx rfl (hb hby d_jdk_42_method_92_code_23) rfl ?_
    refine XS.isub X4.here hx rfl (hb hby d_jdk_42_method_92_code_24) rfl ?_
    refine XS.istore X4.here hx rfl (hb hby d_jdk_42_method_92_code_25) rfl (l' := #[.val (.ref a), .val (.int (1 : Int32)), .val (.int (1 : Int32)), .val (.int (3 : Int32)), .val (.int (0 : Int32))]) rfl ?_
    refine XS.aloadN X4.here hx rfl (hb hby d_jdk_42_method_92_code_27) rfl rfl ?_
    exact hq)
  obtain ⟨_, T6, L6, X6, ⟨rfl, Nq6, eq6⟩, k6a⟩ := callV' X4 hx hZ (y := (⟨"java/lang/String", "isLatin1", "()Z"⟩ : MethodName)) (z := (⟨"java/lang/String", "isLatin1", "()Z"⟩ : MethodName)) hown (wq hw 89 rfl) (wq hw 90 rfl) (notFace_of_selects (args := #[]) (mvT hZ (wq hw 92 rfl))) (wq hw 92 rfl) (wq hw 91 rfl) (by decide) P0 (backC (W := 0) (rm_latin l Z a0 hw zc a h0 n0 (by omega) S_c hzc O0 P2) hZ (wq hw 93 rfl) (wq hw 3 rfl) (by decide) (by decide)) e4 (argsL := []) (rest := []) rfl rfl pd_6 rfl (by rw [hml]; rfl) (hb hby d_jdk_42_method_92_code_28) (Nat.le_of_eq rfl) (by decide) (by decide) k5
  have k6 : To p.tables e below S0 (T6.setTop (mkF m 31 #[.val (.ref a), .val (.int (1 : Int32)), .val (.int (1 : Int32)), .val (.int (3 : Int32)), .val (.int (0 : Int32))] [(.int (1 : Int32))])) := k6a
  have N6 := N4.app Nq6
  have e6 : T6.heap = h0 := eq6
  have k7 : To p.tables e below S0 (T6.setTop (mkF m 35 #[.val (.ref a), .val (.int (1 : Int32)), .val (.int (1 : Int32)), .val (.int (3 : Int32)), .val (.int (0 : Int32))] [(.ref a)])) := fun tt hq => k6 tt (by
    refine XS.ifNo X6.here hx rfl (hb hby d_jdk_42_method_92_code_31) rfl ((if0 _ _).trans (feq (by decide)).1) ?_
    refine XS.aloadN X6.here hx rfl (hb hby d_jdk_42_method_92_code_34) rfl rfl ?_
    exact hq)
  obtain ⟨T8, X8, e8, st8⟩ := getF X6 hx hZ hown (host := "") (Or.inl (wq hw 28 rfl)) Via.refl e6 P1 (g := (mkF m 35 #[.val (.ref a), .val (.int (1 : Int32)), .val (.int (1 : Int32)), .val (.int (3 : Int32)), .val (.int (0 : Int32))] [(.ref a)])) rfl rfl (hb hby d_jdk_42_method_92_code_35)
  have k8 : To p.tables e below S0 (T8.setTop (mkF m 38 #[.val (.ref a), .val (.int (1 : Int32)), .val (.int (1 : Int32)), .val (.int (3 : Int32)), .val (.int (0 : Int32))] [(.ref t)])) := fun tt hq => k7 tt (st8 tt hq)
  have k9 : To p.tables e below S0 (T8.setTop (mkF m 41 #[.val (.ref a), .val (.int (1 : Int32)), .val (.int (1 : Int32)), .val (.int (3 : Int32)), .val (.int (0 : Int32))] [(.int (0 : Int32)), (.int (1 : Int32)), (.ref t)])) := fun tt hq => k8 tt (by
    refine XS.iloadN X8.here hx rfl (hb hby d_jdk_42_method_92_code_38) rfl ?_
    refine XS.iload X8.here hx rfl (hb hby d_jdk_42_method_92_code_39) rfl ?_
    exact hq)
  obtain ⟨_, T10, L10, X10, ⟨a10, t10, k10x, rfl, Nq10, ya10, yt10, Kq10, P100, P101, P102, P103⟩, k10a, Cq10, hS10, hZ10, hown10⟩ := callSW X8 hx hZ (y := (⟨"java/lang/StringLatin1", "newString", "([BII)Ljava/lang/String;"⟩ : MethodName)) hown hS0 (by omega) (wq hw 138 rfl) (wq hw 139 rfl) (wq hw 140 rfl) (wq hw 141 rfl) (by decide) (backOfW (W := 0) (rm_ns0 l Z a0 hw t (1 : Int32) h0 n0 (by omega)) hZ (wq hw 141 rfl) (wq hw 140 rfl) (by decide) (by decide) (own_EW hw) C0.1 all0) e8 (argsL := [(.ref t), (.int (1 : Int32)), (.int (0 : Int32))]) (rest := []) rfl rfl pd_19 rfl (by rw [hml]; rfl) (hb hby d_jdk_42_method_92_code_41) (Nat.le_of_eq rfl) (by decide) (by decide) k9
  have k10 : To p.tables e below S0 (T10.setTop (mkF m 44 #[.val (.ref a), .val (.int (1 : Int32)), .val (.int (1 : Int32)), .val (.int (3 : Int32)), .val (.int (0 : Int32))] [(.ref a10)])) := k10a
  have N10 := N6.app Nq10
  obtain ⟨h10, e10⟩ : ∃ z, T10.heap = z := ⟨_, rfl⟩
  rw [e10] at Kq10 ya10 yt10 P100 P101 P102 P103 Cq10 hS10
  have z10 : h0.size ≤ h10.size := Kq10.1
  have C10 := C0.trans Cq10
  have k11 : To p.tables e below S0 (T10.setTop (mkF m 57 #[.val (.ref a), .val (.int (1 : Int32)), .val (.int (1 : Int32)), .val (.int (3 : Int32)), .val (.int (0 : Int32))] [(.ref a10)])) := fun tt hq => k10 tt (by
    refine XS.goto X10.here hx rfl (pc0 := 44) (pc' := 57) rfl (hb hby d_jdk_42_method_92_code_44) (by decide) (by decide) ?_
    exact hq)
  refine retRefW X10 hx hZ10 (own_EW hw) hS10 (by omega) C10 e10 hret hlk rfl rfl (hb hby d_jdk_42_method_92_code_57) k11 ?_ (by decide) (by decide)
  exact ⟨_, _, _, rfl, N10, P100.lt, P103.lt, ((Keep.refl h0 []).trans Kq10 all0), P100, P101, P102, P103⟩
set_option maxRecDepth 65536 in
set_option maxHeartbeats 40000000 in
theorem rm_tf1_1 (l : Launch) (Z : State) (a0 : Array Value) (hw : ∀ d ∈ tables_1, d.before a0 Z = true) (zc : Int32) (fm : Value) (r : Addr) (a : Addr) (t : Addr) (kt : ClassId) (c0 : Int32) (c1 : Int32) (c2 : Int32) (h0 : Heap) (n0 : Nat) (hn0 : n0 ≤ h0.size) (S_c : Sta Z Z.heap "java/lang/String" "COMPACT_STRINGS" "Z" (.int zc)) (hzc : ¬ zc = (0 : Int32)) (S_f : Sta Z Z.heap "jdk/internal/util/Preconditions" "SIOOBE_FORMATTER" "Ljava/util/function/BiFunction;" fm) (hfm : fm.isRef = true) (O0 : Old Z n0 h0) (Q0 : Fld Z h0 r "com/example/ceruline/ceruline/parsing/SourceReader" "text" "Ljava/lang/String;" (.ref a)) (Q1 : Fld Z h0 r "com/example/ceruline/ceruline/parsing/SourceReader" "offset" "I" (.int (1 : Int32))) (P0 : Exa Z h0 a "java/lang/String") (P1 : Fld Z h0 a "java/lang/String" "value" "[B" (.ref t)) (P2 : Fld Z h0 a "java/lang/String" "coder" "B" (.int (0 : Int32))) (P3 : Arv Z h0 t kt .byte (3 : Int32) [(.int c0), (.int c1), (.int c2)] (.int 0)) (yt : @LT.lt Nat instLTNat t h0.size) :
    ConW l Z own_EL (⟨"com/example/ceruline/ceruline/parsing/SourceReader", "textFrom", "(I)Ljava/lang/String;"⟩ : MethodName) prog_66_method_8_code 2 (some (.object "java/lang/String")) [] ({ frames := 3, cells := 2, slots := 4, locals := 45 } : Room) #[(.ref r), (.int (1 : Int32))] h0 [] (fun v h L => ∃ (b t : Addr) (k : ClassId), v = some (.ref b) ∧ Fr n0 L ∧ (@LT.lt Nat instLTNat b h.size) ∧ (@LT.lt Nat instLTNat t h.size) ∧ Keep h0 h [] ∧ Exa Z h b "java/lang/String" ∧ Fld Z h b "java/lang/String" "value" "[B" (.ref t) ∧ Fld Z h b "java/lang/String" "coder" "B" (.int (0 : Int32)) ∧ Arv Z h t k .byte (0 : Int32) [] (.int 0)) := by
  refine enterW (Ls := #[.val (.ref r), .val (.int (1 : Int32))]) (plainFor_of_name pn_7) (fun m => by exact entry_eq rfl) ?_
  intro p e s m below meth cd_ s₁ S0 vm0 hx hby hml hret hlk hnm hown hZ X0 e0 k0 C0 hsf hS0
  have N0 := Fr.nil n0
  have k1 : To p.tables e below S0 (s₁.setTop (mkF m 1 #[.val (.ref r), .val (.int (1 : Int32))] [(.ref r)])) := fun tt hq => k0 tt (by
    refine XS.aloadN X0.here hx rfl (hb hby d_prog_66_method_8_code_0) rfl rfl ?_
    exact hq)
  obtain ⟨T2, X2, e2, st2⟩ := getF X0 hx hZ hown (host := "") (Or.inl (wq hw 67 rfl)) Via.refl e0 Q0 (g := (mkF m 1 #[.val (.ref r), .val (.int (1 : Int32))] [(.ref r)])) rfl rfl (hb hby d_prog_66_method_8_code_1)
  have k2 : To p.tables e below S0 (T2.setTop (mkF m 4 #[.val (.ref r), .val (.int (1 : Int32))] [(.ref a)])) := fun tt hq => k1 tt (st2 tt hq)
  have k3 : To p.tables e below S0 (T2.setTop (mkF m 6 #[.val (.ref r), .val (.int (1 : Int32))] [(.ref r), (.int (1 : Int32)), (.ref a)])) := fun tt hq => k2 tt (by
    refine XS.iloadN X2.here hx rfl (hb hby d_prog_66_method_8_code_4) rfl ?_
    refine XS.aloadN X2.here hx rfl (hb hby d_prog_66_method_8_code_5) rfl rfl ?_
    exact hq)
  obtain ⟨T4, X4, e4, st4⟩ := getF X2 hx hZ hown (host := "") (Or.inl (wq hw 82 rfl)) Via.refl e2 Q1 (g := (mkF m 6 #[.val (.ref r), .val (.int (1 : Int32))] [(.ref r), (.int (1 : Int32)), (.ref a)])) rfl rfl (hb hby d_prog_66_method_8_code_6)
  have k4 : To p.tables e below S0 (T4.setTop (mkF m 9 #[.val (.ref r), .val (.int (1 : Int32))] [(.int (1 : Int32)), (.int (1 : Int32)), (.ref a)])) := fun tt hq => k3 tt (st4 tt hq)
  obtain ⟨_, T5, L5, X5, ⟨a5, t5, k5x, rfl, Nq5, ya5, yt5, Kq5, P50, P51, P52, P53⟩, k5a, Cq5, hS5, hZ5, hown5⟩ := callVW X4 hx hZ (y := (⟨"java/lang/String", "substring", "(II)Ljava/lang/String;"⟩ : MethodName)) (z := (⟨"java/lang/String", "substring", "(II)Ljava/lang/String;"⟩ : MethodName)) hown hS0 (by omega) (wq hw 117 rfl) (wq hw 118 rfl) (notFace_of_selects (args := #[]) (mvT hZ (wq hw 120 rfl))) (wq hw 120 rfl) (wq hw 119 rfl) (by decide) P0 (backOfW (W := 0) (rm_sub1_1 l Z a0 hw zc fm a t kt c0 c1 c2 h0 n0 (by omega) S_c hzc S_f hfm O0 P0 P1 P2 P3 (by omega)) hZ (wq hw 121 rfl) (wq hw 3 rfl) (by decide) (by decide) (own_EW hw) C0.1 all0) e4 (argsL := [(.int (1 : Int32)), (.int (1 : Int32))]) (rest := []) rfl rfl pd_20 rfl (by rw [hml]; rfl) (hb hby d_prog_66_method_8_code_9) (Nat.le_of_eq rfl) (by decide) (by decide) k4
  have k5 : To p.tables e below S0 (T5.setTop (mkF m 12 #[.val (.ref r), .val (.int (1 : Int32))] [(.ref a5)])) := k5a
  have N5 := N0.app Nq5
  obtain ⟨h5, e5⟩ : ∃ z, T5.heap = z := ⟨_, rfl⟩
  rw [e5] at Kq5 ya5 yt5 P50 P51 P52 P53 Cq5 hS5
  have z5 : h0.size ≤ h5.size := Kq5.1
  have C5 := C0.trans Cq5
  refine retRefW X5 hx hZ5 (own_EW hw) hS5 (by omega) C5 e5 hret hlk rfl rfl (hb hby d_prog_66_method_8_code_12) k5 ?_ (by decide) (by decide)
  exact ⟨_, _, _, rfl, N5, P50.lt, P53.lt, ((Keep.refl h0 []).trans Kq5 all0), P50, P51, P52, P53⟩
theorem pd_25 : parseMethodDescriptor "(I)C" = some ⟨[.int], some .char⟩ := by decide +kernel
set_option maxRecDepth 65536 in
set_option maxHeartbeats 40000000 in
theorem rm_adv1 (l : Launch) (Z : State) (a0 : Array Value) (hw : ∀ d ∈ tables_1, d.before a0 Z = true) (zc : Int32) (fm : Value) (r : Addr) (so : Addr) (a : Addr) (t : Addr) (kt : ClassId) (c0 : Int32) (c1 : Int32) (c2 : Int32) (xl : Int32) (xc : Int32) (h0 : Heap) (n0 : Nat) (hn0 : n0 ≤ h0.size) (S_c : Sta Z Z.heap "java/lang/String" "COMPACT_STRINGS" "Z" (.int zc)) (hzc : ¬ zc = (0 : Int32)) (S_f : Sta Z Z.heap "jdk/internal/util/Preconditions" "SIOOBE_FORMATTER" "Ljava/util/function/BiFunction;" fm) (hfm : fm.isRef = true) (O0 : Old Z n0 h0) (P0 : Exa Z h0 r "com/example/ceruline/ceruline/parsing/SourceReader") (P1 : Fld Z h0 r "com/example/ceruline/ceruline/parsing/SourceReader" "source" "Lcom/example/ceruline/ceruline/source/SourceFile;" (.ref so)) (P2 : Fld Z h0 r "com/example/ceruline/ceruline/parsing/SourceReader" "text" "Ljava/lang/String;" (.ref a)) (P3 : Fld Z h0 r "com/example/ceruline/ceruline/parsing/SourceReader" "offset" "I" (.int (1 : Int32))) (P4 : Fld Z h0 r "com/example/ceruline/ceruline/parsing/SourceReader" "line" "I" (.int xl)) (P5 : Fld Z h0 r "com/example/ceruline/ceruline/parsing/SourceReader" "column" "I" (.int xc)) (R0 : Exa Z h0 a "java/lang/String") (R1 : Fld Z h0 a "java/lang/String" "value" "[B" (.ref t)) (R2 : Fld Z h0 a "java/lang/String" "coder" "B" (.int (0 : Int32))) (R3 : Arv Z h0 t kt .byte (3 : Int32) [(.int c0), (.int c1), (.int c2)] (.int 0)) (ga : n0 ≤ r) (nra : ¬ (@Eq Nat a r)) (nrt : ¬ (@Eq Nat t r)) :
    Con l Z (⟨"com/example/ceruline/ceruline/parsing/SourceReader", "advance", "()V"⟩ : MethodName) prog_66_method_4_code 2 none [] ({ frames := 3, cells := 0, slots := 0, locals := 41 } : Room) #[(.ref r)] h0 (fun v h L => ∃ (y1 y2 : Int32), v = none ∧ Fr n0 L ∧ Keep h0 h [r] ∧ Exa Z h r "com/example/ceruline/ceruline/parsing/SourceReader" ∧ Fld Z h r "com/example/ceruline/ceruline/parsing/SourceReader" "source" "Lcom/example/ceruline/ceruline/source/SourceFile;" (.ref so) ∧ Fld Z h r "com/example/ceruline/ceruline/parsing/SourceReader" "text" "Ljava/lang/String;" (.ref a) ∧ Fld Z h r "com/example/ceruline/ceruline/parsing/SourceReader" "offset" "I" (.int (2 : Int32)) ∧ Fld Z h r "com/example/ceruline/ceruline/parsing/SourceReader" "line" "I" (.int y1) ∧ Fld Z h r "com/example/ceruline/ceruline/parsing/SourceReader" "column" "I" (.int y2)) := by
  refine enter (Ls := #[.val (.ref r), .unset]) (plainFor_of_name pn_7) (fun m => by exact entry_eq rfl) ?_
  intro p e s m below meth cd_ s₁ S0 hx hby hml hret hlk hnm hown hZ X0 e0 k0
  have N0 := Fr.nil n0
  have k1 : To p.tables e below S0 (s₁.setTop (mkF m 1 #[.val (.ref r), .unset] [(.ref r)])) := fun tt hq => k0 tt (by
    refine XS.aloadN X0.here hx rfl (hb hby d_prog_66_method_4_code_0) rfl rfl ?_
    exact hq)
  obtain ⟨T2, X2, e2, st2⟩ := getF X0 hx hZ hown (host := "") (Or.inl (wq hw 67 rfl)) Via.refl e0 P2 (g := (mkF m 1 #[.val (.ref r), .unset] [(.ref r)])) rfl rfl (hb hby d_prog_66_method_4_code_1)
  have k2 : To p.tables e below S0 (T2.setTop (mkF m 4 #[.val (.ref r), .unset] [(.ref a)])) := fun tt hq => k1 tt (st2 tt hq)
  have k3 : To p.tables e below S0 (T2.setTop (mkF m 5 #[.val (.ref r), .unset] [(.ref r), (.ref a)])) := fun tt hq => k2 tt (by
    refine XS.aloadN X2.here hx rfl (hb hby d_prog_66_method_4_code_4) rfl rfl ?_
    exact hq)
  obtain ⟨T4, X4, e4, st4⟩ := getF X2 hx hZ hown (host := "") (Or.inl (wq hw 82 rfl)) Via.refl e2 P3 (g := (mkF m 5 #[.val (.ref r), .unset] [(.ref r), (.ref a)])) rfl rfl (hb hby d_prog_66_method_4_code_5)
  have k4 : To p.tables e below S0 (T4.setTop (mkF m 8 #[.val (.ref r), .unset] [(.int (1 : Int32)), (.ref a)])) := fun tt hq => k3 tt (st4 tt hq)
  obtain ⟨_, T5, L5, X5, ⟨rfl, Nq5, eq5⟩, k5a⟩ := callV' X4 hx hZ (y := (⟨"java/lang/String", "codePointAt", "(I)I"⟩ : MethodName)) (z := (⟨"java/lang/String", "codePointAt", "(I)I"⟩ : MethodName)) hown (wq hw 84 rfl) (wq hw 85 rfl) (notFace_of_selects (args := #[]) (mvT hZ (wq hw 87 rfl))) (wq hw 87 rfl) (wq hw 86 rfl) (by decide) R0 (backC (W := 0) (rm_cp3_1 l Z a0 hw zc fm a t kt c0 c1 c2 h0 n0 (by omega) S_c hzc S_f hfm O0 R0 R1 R2 R3) hZ (wq hw 88 rfl) (wq hw 3 rfl) (by decide) (by decide)) e4 (argsL := [(.int (1 : Int32))]) (rest := []) rfl rfl pd_22 rfl (by rw [hml]; rfl) (hb hby d_prog_66_method_4_code_8) (Nat.le_of_eq rfl) (by decide) (by decide) k4
  have k5 : To p.tables e below S0 (T5.setTop (mkF m 11 #[.val (.ref r), .unset] [(.int (c1 &&& (255 : Int32)))])) := k5a
  have N5 := N0.app Nq5
  have e5 : T5.heap = h0 := eq5
  have k6 : To p.tables e below S0 (T5.setTop (mkF m 14 #[.val (.ref r), .val (.int (c1 &&& (255 : Int32)))] [(.ref r), (.ref r)])) := fun tt hq => k5 tt (by
    refine XS.istoreN X5.here hx rfl (hb hby d_prog_66_method_4_code_11) rfl (l' := #[.val (.ref r), .val (.int (c1 &&& (255 : Int32)))]) rfl ?_
    refine XS.aloadN X5.here hx rfl (hb hby d_prog_66_method_4_code_12) rfl rfl ?_
    refine XS.dup X5.here hx rfl (hb hby d_prog_66_method_4_code_13) rfl rfl ?_
    exact hq)
  obtain ⟨T7, X7, e7, st7⟩ := getF X5 hx hZ hown (host := "") (Or.inl (wq hw 82 rfl)) Via.refl e5 P3 (g := (mkF m 14 #[.val (.ref r), .val (.int (c1 &&& (255 : Int32)))] [(.ref r), (.ref r)])) rfl rfl (hb hby d_prog_66_method_4_code_14)
  have k7 : To p.tables e below S0 (T7.setTop (mkF m 17 #[.val (.ref r), .val (.int (c1 &&& (255 : Int32)))] [(.int (1 : Int32)), (.ref r)])) := fun tt hq => k6 tt (st7 tt hq)
  have k8 : To p.tables e below S0 (T7.setTop (mkF m 18 #[.val (.ref r), .val (.int (c1 &&& (255 : Int32)))] [(.int (c1 &&& (255 : Int32))), (.int (1 : Int32)), (.ref r)])) := fun tt hq => k7 tt (by
    refine XS.iloadN X7.here hx rfl (hb hby d_prog_66_method_4_code_17) rfl ?_
    exact hq)
  obtain ⟨_, T9, L9, X9, ⟨rfl, Nq9, eq9⟩, k9a⟩ := callS' X7 hx hZ (y := (⟨"java/lang/Character", "charCount", "(I)I"⟩ : MethodName)) hown (wq hw 102 rfl) (wq hw 103 rfl) (wq hw 104 rfl) (wq hw 105 rfl) (by decide) (backC (W := 2) (rm_cc l Z a0 hw (c1 &&& (255 : Int32)) h0 n0 (by omega) (own_small _)) hZ (wq hw 105 rfl) (wq hw 104 rfl) (by decide) (by decide)) e7 (argsL := [(.int (c1 &&& (255 : Int32)))]) (rest := [(.int (1 : Int32)), (.ref r)]) rfl rfl pd_22 rfl (by rw [hml]; rfl) (hb hby d_prog_66_method_4_code_18) (Nat.le_of_eq rfl) (by decide) (by decide) k8
  have k9 : To p.tables e below S0 (T9.setTop (mkF m 21 #[.val (.ref r), .val (.int (c1 &&& (255 : Int32)))] [(.int (1 : Int32)), (.int (1 : Int32)), (.ref r)])) := k9a
  have N9 := N5.app Nq9
  have e9 : T9.heap = h0 := eq9
  have k10 : To p.tables e below S0 (T9.setTop (mkF m 22 #[.val (.ref r), .val (.int (c1 &&& (255 : Int32)))] [(.int (2 : Int32)), (.ref r)])) := fun tt hq => k9 tt (by
    refine XS.iadd X9.here hx rfl (hb hby d_prog_66_method_4_code_21) rfl ?_
    exact hq)
  obtain ⟨T11, h11, X11, e11, W11, st11⟩ := putF X9 hx hZ hown (host := "") (Or.inl (wq hw 82 rfl)) Via.refl e9 P3 P0 (Or.inl (wq hw 83 rfl)) (wq hw 31 rfl) (ty := .int) (by decide) rfl rfl (g := (mkF m 22 #[.val (.ref r), .val (.int (c1 &&& (255 : Int32)))] [(.int (2 : Int32)), (.ref r)])) rfl rfl (hb hby d_prog_66_method_4_code_22)
  have k11 : To p.tables e below S0 (T11.setTop (mkF m 25 #[.val (.ref r), .val (.int (c1 &&& (255 : Int32)))] [])) := fun tt hq => k10 tt (st11 tt hq)
  have z11 : h11.size = h0.size := W11.size
  have F11 := P3.same W11
  have N11 := Fr.snoc X11 N9 (by omega : n0 ≤ r)
  have k12 : To p.tables e below S0 (T11.setTop (mkF m 28 #[.val (.ref r), .val (.int (c1 &&& (255 : Int32)))] [(.int (10 : Int32)), (.int (c1 &&& (255 : Int32)))])) := fun tt hq => k11 tt (by
    refine XS.iloadN X11.here hx rfl (hb hby d_prog_66_method_4_code_25) rfl ?_
    refine XS.bipush X11.here hx rfl (hb hby d_prog_66_method_4_code_26) ?_
    exact hq)
  by_cases hc28_13 : (c1 &&& (255 : Int32)) = (10 : Int32)
  · -- pc 28, holds
    have f14 : Fld Z h11 r "com/example/ceruline/ceruline/parsing/SourceReader" "line" "I" (.int xl) := (P4.other W11 (Or.inr (slot_ne (Or.inl (wq hw 57 rfl)) (Or.inl (wq hw 83 rfl)) (by decide) (t := .int) (t' := .int) (by decide) (by decide))))
    have k15 : To p.tables e below S0 (T11.setTop (mkF m 33 #[.val (.ref r), .val (.int (c1 &&& (255 : Int32)))] [(.ref r), (.ref r)])) := fun tt hq => k12 tt (by
      refine XS.icmpNo X11.here hx rfl (hb hby d_prog_66_method_4_code_28) rfl (teq hc28_13).2 ?_
      refine XS.aloadN X11.here hx rfl (hb hby d_prog_66_method_4_code_31) rfl rfl ?_
      refine XS.dup X11.here hx rfl (hb hby d_prog_66_method_4_code_32) rfl rfl ?_
      exact hq)
    obtain ⟨T16, X16, e16, st16⟩ := getF X11 hx hZ hown (host := "") (Or.inl (wq hw 56 rfl)) Via.refl e11 f14 (g := (mkF m 33 #[.val (.ref r), .val (.int (c1 &&& (255 : Int32)))] [(.ref r), (.ref r)])) rfl rfl (hb hby d_prog_66_method_4_code_33)
    have k16 : To p.tables e below S0 (T16.setTop (mkF m 36 #[.val (.ref r), .val (.int (c1 &&& (255 : Int32)))] [(.int xl), (.ref r)])) := fun tt hq => k15 tt (st16 tt hq)
    have f17 : Exa Z h11 r "com/example/ceruline/ceruline/parsing/SourceReader" := (P0.wr W11)
    have k18 : To p.tables e below S0 (T16.setTop (mkF m 38 #[.val (.ref r), .val (.int (c1 &&& (255 : Int32)))] [(.int (xl + (1 : Int32))), (.ref r)])) := fun tt hq => k16 tt (by
      refine XS.iconst X16.here hx rfl (hb hby d_prog_66_method_4_code_36) ?_
      refine XS.iadd X16.here hx rfl (hb hby d_prog_66_method_4_code_37) rfl ?_
      exact hq)
    obtain ⟨T19, h19, X19, e19, W19, st19⟩ := putF X16 hx hZ hown (host := "") (Or.inl (wq hw 56 rfl)) Via.refl e16 f14 f17 (Or.inl (wq hw 57 rfl)) (wq hw 31 rfl) (ty := .int) (by decide) rfl rfl (g := (mkF m 38 #[.val (.ref r), .val (.int (c1 &&& (255 : Int32)))] [(.int (xl + (1 : Int32))), (.ref r)])) rfl rfl (hb hby d_prog_66_method_4_code_38)
    have k19 : To p.tables e below S0 (T19.setTop (mkF m 41 #[.val (.ref r), .val (.int (c1 &&& (255 : Int32)))] [])) := fun tt hq => k18 tt (st19 tt hq)
    have z19 : h19.size = h11.size := W19.size
    have F19 := f14.same W19
    have N19 := Fr.snoc X19 N11 (by omega : n0 ≤ r)
    have f20 : Exa Z h19 r "com/example/ceruline/ceruline/parsing/SourceReader" := (f17.wr W19)
    have f21 : Fld Z h19 r "com/example/ceruline/ceruline/parsing/SourceReader" "column" "I" (.int xc) := ((P5.other W11 (Or.inr (slot_ne (Or.inl (wq hw 59 rfl)) (Or.inl (wq hw 83 rfl)) (by decide) (t := .int) (t' := .int) (by decide) (by decide)))).other W19 (Or.inr (slot_ne (Or.inl (wq hw 59 rfl)) (Or.inl (wq hw 57 rfl)) (by decide) (t := .int) (t' := .int) (by decide) (by decide))))
    have k22 : To p.tables e below S0 (T19.setTop (mkF m 43 #[.val (.ref r), .val (.int (c1 &&& (255 : Int32)))] [(.int (1 : Int32)), (.ref r)])) := fun tt hq => k19 tt (by
      refine XS.aloadN X19.here hx rfl (hb hby d_prog_66_method_4_code_41) rfl rfl ?_
      refine XS.iconst X19.here hx rfl (hb hby d_prog_66_method_4_code_42) ?_
      exact hq)
    obtain ⟨T23, h23, X23, e23, W23, st23⟩ := putF X19 hx hZ hown (host := "") (Or.inl (wq hw 58 rfl)) Via.refl e19 f21 f20 (Or.inl (wq hw 59 rfl)) (wq hw 31 rfl) (ty := .int) (by decide) rfl rfl (g := (mkF m 43 #[.val (.ref r), .val (.int (c1 &&& (255 : Int32)))] [(.int (1 : Int32)), (.ref r)])) rfl rfl (hb hby d_prog_66_method_4_code_43)
    have k23 : To p.tables e below S0 (T23.setTop (mkF m 46 #[.val (.ref r), .val (.int (c1 &&& (255 : Int32)))] [])) := fun tt hq => k22 tt (st23 tt hq)
    have z23 : h23.size = h19.size := W23.size
    have F23 := f21.same W23
    have N23 := Fr.snoc X23 N19 (by omega : n0 ≤ r)
    have k24 : To p.tables e below S0 (T23.setTop (mkF m 59 #[.val (.ref r), .val (.int (c1 &&& (255 : Int32)))] [])) := fun tt hq => k23 tt (by
      refine XS.goto X23.here hx rfl (pc0 := 46) (pc' := 59) rfl (hb hby d_prog_66_method_4_code_46) (by decide) (by decide) ?_
      exact hq)
    have f25 : Exa Z h23 r "com/example/ceruline/ceruline/parsing/SourceReader" := (f20.wr W23)
    have f26 : Fld Z h23 r "com/example/ceruline/ceruline/parsing/SourceReader" "source" "Lcom/example/ceruline/ceruline/source/SourceFile;" (.ref so) := (((P1.other W11 (Or.inr (slot_ne (Or.inr (wq hw 61 rfl)) (Or.inl (wq hw 83 rfl)) (by decide) (t := (.object "com/example/ceruline/ceruline/source/SourceFile")) (t' := .int) (by decide) (by decide)))).other W19 (Or.inr (slot_ne (Or.inr (wq hw 61 rfl)) (Or.inl (wq hw 57 rfl)) (by decide) (t := (.object "com/example/ceruline/ceruline/source/SourceFile")) (t' := .int) (by decide) (by decide)))).other W23 (Or.inr (slot_ne (Or.inr (wq hw 61 rfl)) (Or.inl (wq hw 59 rfl)) (by decide) (t := (.object "com/example/ceruline/ceruline/source/SourceFile")) (t' := .int) (by decide) (by decide))))
    have f27 : Fld Z h23 r "com/example/ceruline/ceruline/parsing/SourceReader" "text" "Ljava/lang/String;" (.ref a) := (((P2.other W11 (Or.inr (slot_ne (Or.inr (wq hw 68 rfl)) (Or.inl (wq hw 83 rfl)) (by decide) (t := (.object "java/lang/String")) (t' := .int) (by decide) (by decide)))).other W19 (Or.inr (slot_ne (Or.inr (wq hw 68 rfl)) (Or.inl (wq hw 57 rfl)) (by decide) (t := (.object "java/lang/String")) (t' := .int) (by decide) (by decide)))).other W23 (Or.inr (slot_ne (Or.inr (wq hw 68 rfl)) (Or.inl (wq hw 59 rfl)) (by decide) (t := (.object "java/lang/String")) (t' := .int) (by decide) (by decide))))
    have f28 : Fld Z h23 r "com/example/ceruline/ceruline/parsing/SourceReader" "offset" "I" (.int (2 : Int32)) := ((F11.other W19 (Or.inr (slot_ne (Or.inl (wq hw 83 rfl)) (Or.inl (wq hw 57 rfl)) (by decide) (t := .int) (t' := .int) (by decide) (by decide)))).other W23 (Or.inr (slot_ne (Or.inl (wq hw 83 rfl)) (Or.inl (wq hw 59 rfl)) (by decide) (t := .int) (t' := .int) (by decide) (by decide))))
    have f29 : Fld Z h23 r "com/example/ceruline/ceruline/parsing/SourceReader" "line" "I" (.int (xl + (1 : Int32))) := (F19.other W23 (Or.inr (slot_ne (Or.inl (wq hw 57 rfl)) (Or.inl (wq hw 59 rfl)) (by decide) (t := .int) (t' := .int) (by decide) (by decide))))
    have hE := e23
    refine retVoid X23 hx hret hlk (hb hby d_prog_66_method_4_code_59) k24 ?_ (by decide) (by decide)
    try rw [hE]
    exact ⟨_, _, rfl, N23, ((((Keep.refl h0 [r]).wr W11 (Or.inl (by simp))).wr W19 (Or.inl (by simp))).wr W23 (Or.inl (by simp))), f25, f26, f27, f28, f29, F23⟩
  · -- pc 28, holds not
    have f30 : Fld Z h11 r "com/example/ceruline/ceruline/parsing/SourceReader" "column" "I" (.int xc) := (P5.other W11 (Or.inr (slot_ne (Or.inl (wq hw 59 rfl)) (Or.inl (wq hw 83 rfl)) (by decide) (t := .int) (t' := .int) (by decide) (by decide))))
    have k31 : To p.tables e below S0 (T11.setTop (mkF m 51 #[.val (.ref r), .val (.int (c1 &&& (255 : Int32)))] [(.ref r), (.ref r)])) := fun tt hq => k12 tt (by
      refine XS.icmpYes X11.here hx rfl (pc0 := 28) (pc' := 49) rfl (hb hby d_prog_66_method_4_code_28) rfl (feq hc28_13).2 (by decide) (by decide) ?_
      refine XS.aloadN X11.here hx rfl (hb hby d_prog_66_method_4_code_49) rfl rfl ?_
      refine XS.dup X11.here hx rfl (hb hby d_prog_66_method_4_code_50) rfl rfl ?_
      exact hq)
    obtain ⟨T32, X32, e32, st32⟩ := getF X11 hx hZ hown (host := "") (Or.inl (wq hw 58 rfl)) Via.refl e11 f30 (g := (mkF m 51 #[.val (.ref r), .val (.int (c1 &&& (255 : Int32)))] [(.ref r), (.ref r)])) rfl rfl (hb hby d_prog_66_method_4_code_51)
    have k32 : To p.tables e below S0 (T32.setTop (mkF m 54 #[.val (.ref r), .val (.int (c1 &&& (255 : Int32)))] [(.int xc), (.ref r)])) := fun tt hq => k31 tt (st32 tt hq)
    have f33 : Exa Z h11 r "com/example/ceruline/ceruline/parsing/SourceReader" := (P0.wr W11)
    have k34 : To p.tables e below S0 (T32.setTop (mkF m 56 #[.val (.ref r), .val (.int (c1 &&& (255 : Int32)))] [(.int (xc + (1 : Int32))), (.ref r)])) := fun tt hq => k32 tt (by
      refine XS.iconst X32.here hx rfl (hb hby d_prog_66_method_4_code_54) ?_
      refine XS.iadd X32.here hx rfl (hb hby d_prog_66_method_4_code_55) rfl ?_
      exact hq)
    obtain ⟨T35, h35, X35, e35, W35, st35⟩ := putF X32 hx hZ hown (host := "") (Or.inl (wq hw 58 rfl)) Via.refl e32 f30 f33 (Or.inl (wq hw 59 rfl)) (wq hw 31 rfl) (ty := .int) (by decide) rfl rfl (g := (mkF m 56 #[.val (.ref r), .val (.int (c1 &&& (255 : Int32)))] [(.int (xc + (1 : Int32))), (.ref r)])) rfl rfl (hb hby d_prog_66_method_4_code_56)
    have k35 : To p.tables e below S0 (T35.setTop (mkF m 59 #[.val (.ref r), .val (.int (c1 &&& (255 : Int32)))] [])) := fun tt hq => k34 tt (st35 tt hq)
    have z35 : h35.size = h11.size := W35.size
    have F35 := f30.same W35
    have N35 := Fr.snoc X35 N11 (by omega : n0 ≤ r)
    have f36 : Exa Z h35 r "com/example/ceruline/ceruline/parsing/SourceReader" := (f33.wr W35)
    have f37 : Fld Z h35 r "com/example/ceruline/ceruline/parsing/SourceReader" "source" "Lcom/example/ceruline/ceruline/source/SourceFile;" (.ref so) := ((P1.other W11 (Or.inr (slot_ne (Or.inr (wq hw 61 rfl)) (Or.inl (wq hw 83 rfl)) (by decide) (t := (.object "com/example/ceruline/ceruline/source/SourceFile")) (t' := .int) (by decide) (by decide)))).other W35 (Or.inr (slot_ne (Or.inr (wq hw 61 rfl)) (Or.inl (wq hw 59 rfl)) (by decide) (t := (.object "com/example/ceruline/ceruline/source/SourceFile")) (t' := .int) (by decide) (by decide))))
    have f38 : Fld Z h35 r "com/example/ceruline/ceruline/parsing/SourceReader" "text" "Ljava/lang/String;" (.ref a) := ((P2.other W11 (Or.inr (slot_ne (Or.inr (wq hw 68 rfl)) (Or.inl (wq hw 83 rfl)) (by decide) (t := (.object "java/lang/String")) (t' := .int) (by decide) (by decide)))).other W35 (Or.inr (slot_ne (Or.inr (wq hw 68 rfl)) (Or.inl (wq hw 59 rfl)) (by decide) (t := (.object "java/lang/String")) (t' := .int) (by decide) (by decide))))
    have f39 : Fld Z h35 r "com/example/ceruline/ceruline/parsing/SourceReader" "offset" "I" (.int (2 : Int32)) := (F11.other W35 (Or.inr (slot_ne (Or.inl (wq hw 83 rfl)) (Or.inl (wq hw 59 rfl)) (by decide) (t := .int) (t' := .int) (by decide) (by decide))))
    have f40 : Fld Z h35 r "com/example/ceruline/ceruline/parsing/SourceReader" "line" "I" (.int xl) := ((P4.other W11 (Or.inr (slot_ne (Or.inl (wq hw 57 rfl)) (Or.inl (wq hw 83 rfl)) (by decide) (t := .int) (t' := .int) (by decide) (by decide)))).other W35 (Or.inr (slot_ne (Or.inl (wq hw 57 rfl)) (Or.inl (wq hw 59 rfl)) (by decide) (t := .int) (t' := .int) (by decide) (by decide))))
    have hE := e35
    refine retVoid X35 hx hret hlk (hb hby d_prog_66_method_4_code_59) k35 ?_ (by decide) (by decide)
    try rw [hE]
    exact ⟨_, _, rfl, N35, (((Keep.refl h0 [r]).wr W11 (Or.inl (by simp))).wr W35 (Or.inl (by simp))), f36, f37, f38, f39, f40, F35⟩
set_option maxRecDepth 65536 in
set_option maxHeartbeats 40000000 in
theorem rm_st0_2 (l : Launch) (Z : State) (a0 : Array Value) (hw : ∀ d ∈ tables_1, d.before a0 Z = true) (zc : Int32) (fm : Value) (r : Addr) (so : Addr) (a : Addr) (t : Addr) (kt : ClassId) (c0 : Int32) (c1 : Int32) (c2 : Int32) (xl : Int32) (xc : Int32) (h0 : Heap) (n0 : Nat) (hn0 : n0 ≤ h0.size) (S_c : Sta Z Z.heap "java/lang/String" "COMPACT_STRINGS" "Z" (.int zc)) (hzc : ¬ zc = (0 : Int32)) (S_f : Sta Z Z.heap "jdk/internal/util/Preconditions" "SIOOBE_FORMATTER" "Ljava/util/function/BiFunction;" fm) (hfm : fm.isRef = true) (O0 : Old Z n0 h0) (P0 : Exa Z h0 r "com/example/ceruline/ceruline/parsing/SourceReader") (P1 : Fld Z h0 r "com/example/ceruline/ceruline/parsing/SourceReader" "source" "Lcom/example/ceruline/ceruline/source/SourceFile;" (.ref so)) (P2 : Fld Z h0 r "com/example/ceruline/ceruline/parsing/SourceReader" "text" "Ljava/lang/String;" (.ref a)) (P3 : Fld Z h0 r "com/example/ceruline/ceruline/parsing/SourceReader" "offset" "I" (.int (0 : Int32))) (P4 : Fld Z h0 r "com/example/ceruline/ceruline/parsing/SourceReader" "line" "I" (.int xl)) (P5 : Fld Z h0 r "com/example/ceruline/ceruline/parsing/SourceReader" "column" "I" (.int xc)) (R0 : Exa Z h0 a "java/lang/String") (R1 : Fld Z h0 a "java/lang/String" "value" "[B" (.ref t)) (R2 : Fld Z h0 a "java/lang/String" "coder" "B" (.int (0 : Int32))) (R3 : Arv Z h0 t kt .byte (3 : Int32) [(.int c0), (.int c1), (.int c2)] (.int 0)) (ga : n0 ≤ r) (nra : ¬ (@Eq Nat a r)) (nrt : ¬ (@Eq Nat t r)) :
    Con l Z (⟨"com/example/ceruline/ceruline/parsing/SourceReaderTextFromPinLaw", "steps", "(Lcom/example/ceruline/ceruline/parsing/SourceReader;I)V"⟩ : MethodName) method_2_code 2 none [] ({ frames := 4, cells := 0, slots := 0, locals := 54 } : Room) #[(.ref r), (.int (2 : Int32))] h0 (fun v h L => ∃ (y1 y2 : Int32), v = none ∧ Fr n0 L ∧ Keep h0 h [r] ∧ Exa Z h r "com/example/ceruline/ceruline/parsing/SourceReader" ∧ Fld Z h r "com/example/ceruline/ceruline/parsing/SourceReader" "source" "Lcom/example/ceruline/ceruline/source/SourceFile;" (.ref so) ∧ Fld Z h r "com/example/ceruline/ceruline/parsing/SourceReader" "text" "Ljava/lang/String;" (.ref a) ∧ Fld Z h r "com/example/ceruline/ceruline/parsing/SourceReader" "offset" "I" (.int (2 : Int32)) ∧ Fld Z h r "com/example/ceruline/ceruline/parsing/SourceReader" "line" "I" (.int y1) ∧ Fld Z h r "com/example/ceruline/ceruline/parsing/SourceReader" "column" "I" (.int y2)) := by
  refine enter (Ls := #[.val (.ref r), .val (.int (2 : Int32))]) (plainFor_of_name pn_9) (fun m => by exact entry_eq rfl) ?_
  intro p e s m below meth cd_ s₁ S0 hx hby hml hret hlk hnm hown hZ X0 e0 k0
  have N0 := Fr.nil n0
  have k1 : To p.tables e below S0 (s₁.setTop (mkF m 6 #[.val (.ref r), .val (.int (2 : Int32))] [(.ref r)])) := fun tt hq => k0 tt (by
    refine XS.iloadN X0.here hx rfl (hb hby d_method_2_code_0) rfl ?_
    refine XS.iconst X0.here hx rfl (hb hby d_method_2_code_1) ?_
    refine XS.icmpNo X0.here hx rfl (hb hby d_method_2_code_2) rfl (flt (by decide)).1 ?_
    refine XS.aloadN X0.here hx rfl (hb hby d_method_2_code_5) rfl rfl ?_
    exact hq)
  obtain ⟨_, T2, L2, X2, ⟨x2, y2x, rfl, Nq2, Kq2, P2_0, P2_1, P2_2, P2_3, P2_4, P2_5⟩, k2a⟩ := callV' X0 hx hZ (y := (⟨"com/example/ceruline/ceruline/parsing/SourceReader", "advance", "()V"⟩ : MethodName)) (z := (⟨"com/example/ceruline/ceruline/parsing/SourceReader", "advance", "()V"⟩ : MethodName)) hown (wq hw 77 rfl) (wq hw 78 rfl) (notFace_of_selects (args := #[]) (mvT hZ (wq hw 80 rfl))) (wq hw 80 rfl) (wq hw 79 rfl) (by decide) P0 (backC (W := 0) (rm_adv0 l Z a0 hw zc fm r so a t kt c0 c1 c2 xl xc h0 n0 (by omega) S_c hzc S_f hfm O0 P0 P1 P2 P3 P4 P5 R0 R1 R2 R3 (by omega) (by omega) (by omega)) hZ (wq hw 81 rfl) (wq hw 32 rfl) (by decide) (by decide)) e0 (argsL := []) (rest := []) rfl rfl pd_9 rfl (by rw [hml]; rfl) (hb hby d_method_2_code_6) (Nat.le_of_eq rfl) (by decide) (by decide) k1
  have k2 : To p.tables e below S0 (T2.setTop (mkF m 9 #[.val (.ref r), .val (.int (2 : Int32))] [])) := k2a
  have N2 := N0.app Nq2
  obtain ⟨h2, e2⟩ : ∃ z, T2.heap = z := ⟨_, rfl⟩
  rw [e2] at Kq2 P2_0 P2_1 P2_2 P2_3 P2_4 P2_5
  have z2 : h0.size ≤ h2.size := Kq2.1
  have k3 : To p.tables e below S0 (T2.setTop (mkF m 15 #[.val (.ref r), .val (.int (2 : Int32))] [(.ref r)])) := fun tt hq => k2 tt (by
    refine XS.iloadN X2.here hx rfl (hb hby d_method_2_code_9) rfl ?_
    refine XS.iconst X2.here hx rfl (hb hby d_method_2_code_10) ?_
    refine XS.icmpNo X2.here hx rfl (hb hby d_method_2_code_11) rfl (flt (by decide)).1 ?_
    refine XS.aloadN X2.here hx rfl (hb hby d_method_2_code_14) rfl rfl ?_
    exact hq)
  have f4 : Old Z n0 h2 := (O0.keep Kq2 (allS (by omega) all0))
  have f5 : Exa Z h2 a "java/lang/String" := (R0.keep Kq2)
  have f6 : Fld Z h2 a "java/lang/String" "value" "[B" (.ref t) := (R1.keep Kq2 (nin1 (by omega)))
  have f7 : Fld Z h2 a "java/lang/String" "coder" "B" (.int (0 : Int32)) := (R2.keep Kq2 (nin1 (by omega)))
  have f8 : Arv Z h2 t kt .byte (3 : Int32) [(.int c0), (.int c1), (.int c2)] (.int 0) := (R3.keep Kq2 (nin1 (by omega)))
  obtain ⟨_, T9, L9, X9, ⟨x9, y9x, rfl, Nq9, Kq9, P9_0, P9_1, P9_2, P9_3, P9_4, P9_5⟩, k9a⟩ := callV' X2 hx hZ (y := (⟨"com/example/ceruline/ceruline/parsing/SourceReader", "advance", "()V"⟩ : MethodName)) (z := (⟨"com/example/ceruline/ceruline/parsing/SourceReader", "advance", "()V"⟩ : MethodName)) hown (wq hw 77 rfl) (wq hw 78 rfl) (notFace_of_selects (args := #[]) (mvT hZ (wq hw 80 rfl))) (wq hw 80 rfl) (wq hw 79 rfl) (by decide) P2_0 (backC (W := 0) (rm_adv1 l Z a0 hw zc fm r so a t kt c0 c1 c2 x2 y2x h2 n0 (by omega) S_c hzc S_f hfm f4 P2_0 P2_1 P2_2 P2_3 P2_4 P2_5 f5 f6 f7 f8 (by omega) (by omega) (by omega)) hZ (wq hw 81 rfl) (wq hw 32 rfl) (by decide) (by decide)) e2 (argsL := []) (rest := []) rfl rfl pd_9 rfl (by rw [hml]; rfl) (hb hby d_method_2_code_15) (Nat.le_of_eq rfl) (by decide) (by decide) k3
  have k9 : To p.tables e below S0 (T9.setTop (mkF m 18 #[.val (.ref r), .val (.int (2 : Int32))] [])) := k9a
  have N9 := N2.app Nq9
  obtain ⟨h9, e9⟩ : ∃ z, T9.heap = z := ⟨_, rfl⟩
  rw [e9] at Kq9 P9_0 P9_1 P9_2 P9_3 P9_4 P9_5
  have z9 : h2.size ≤ h9.size := Kq9.1
  have k10 : To p.tables e below S0 (T9.setTop (mkF m 27 #[.val (.ref r), .val (.int (2 : Int32))] [])) := fun tt hq => k9 tt (by
    refine XS.iloadN X9.here hx rfl (hb hby d_method_2_code_18) rfl ?_
    refine XS.iconst X9.here hx rfl (hb hby d_method_2_code_19) ?_
    refine XS.icmpYes X9.here hx rfl (pc0 := 20) (pc' := 27) rfl (hb hby d_method_2_code_20) rfl (tlt (by decide)).1 (by decide) (by decide) ?_
    exact hq)
  have hE := e9
  refine retVoid X9 hx hret hlk (hb hby d_method_2_code_27) k10 ?_ (by decide) (by decide)
  try rw [hE]
  exact ⟨_, _, rfl, N9, (((Keep.refl h0 [r]).trans Kq2 (allS (Or.inl (by simp)) all0)).trans Kq9 (allS (Or.inl (by simp)) all0)), P9_0, P9_1, P9_2, P9_3, P9_4, P9_5⟩
set_option maxRecDepth 65536 in
set_option maxHeartbeats 40000000 in
theorem rm_crb0_2 (l : Launch) (Z : State) (a0 : Array Value) (hw : ∀ d ∈ tables_1, d.before a0 Z = true) (t : Addr) (kt : ClassId) (c0 : Int32) (c1 : Int32) (c2 : Int32) (h0 : Heap) (n0 : Nat) (hn0 : n0 ≤ h0.size) (P0 : Arv Z h0 t kt .byte (3 : Int32) [(.int c0), (.int c1), (.int c2)] (.int (0 : Int32))) (yt : @LT.lt Nat instLTNat t h0.size) :
    Con l Z (⟨"java/util/Arrays", "copyOfRangeByte", "([BII)[B"⟩ : MethodName) jdk_65_method_133_code 5 (some (.array .byte)) [] ({ frames := 1, cells := 1, slots := 2, locals := 18 } : Room) #[(.ref t), (.int (0 : Int32)), (.int (2 : Int32))] h0 (fun v h L => ∃ (b : Addr) (kb : ClassId), v = some (.ref b) ∧ Fr n0 L ∧ h0.size ≤ b ∧ Keep h0 h [] ∧ Arv Z h b kb .byte (2 : Int32) [(.int c0), (.int c1)] (.int (0 : Int32))) := by
  refine enter (Ls := #[.val (.ref t), .val (.int (0 : Int32)), .val (.int (2 : Int32)), .unset, .unset]) (plainFor_of_name pn_8) (fun m => by exact entry_eq rfl) ?_
  intro p e s m below meth cd_ s₁ S0 hx hby hml hret hlk hnm hown hZ X0 e0 k0
  have N0 := Fr.nil n0
  have k1 : To p.tables e below S0 (s₁.setTop (mkF m 2 #[.val (.ref t), .val (.int (0 : Int32)), .val (.int (2 : Int32)), .unset, .unset] [(.int (2 : Int32)), (.int (0 : Int32))])) := fun tt hq => k0 tt (by
    refine XS.iloadN X0.here hx rfl (hb hby d_jdk_65_method_133_code_0) rfl ?_
    refine XS.iloadN X0.here hx rfl (hb hby d_jdk_65_method_133_code_1) rfl ?_
    exact hq)
  obtain ⟨_, T2, L2, X2, ⟨rfl, Nq2, eq2⟩, k2a⟩ := callS' X0 hx hZ (y := (⟨"java/util/Arrays", "checkLength", "(II)V"⟩ : MethodName)) hown (wq hw 157 rfl) (wq hw 158 rfl) (wq hw 152 rfl) (wq hw 159 rfl) (by decide) (backC (W := 0) (rm_ckl l Z a0 hw (0 : Int32) (2 : Int32) h0 n0 (by omega) (by decide)) hZ (wq hw 159 rfl) (wq hw 152 rfl) (by decide) (by decide)) e0 (argsL := [(.int (0 : Int32)), (.int (2 : Int32))]) (rest := []) rfl rfl pd_7 rfl (by rw [hml]; rfl) (hb hby d_jdk_65_method_133_code_2) (Nat.le_of_eq rfl) (by decide) (by decide) k1
  have k2 : To p.tables e below S0 (T2.setTop (mkF m 5 #[.val (.ref t), .val (.int (0 : Int32)), .val (.int (2 : Int32)), .unset, .unset] [])) := k2a
  have N2 := N0.app Nq2
  have e2 : T2.heap = h0 := eq2
  have k3 : To p.tables e below S0 (T2.setTop (mkF m 10 #[.val (.ref t), .val (.int (0 : Int32)), .val (.int (2 : Int32)), .val (.int (2 : Int32)), .unset] [(.int (2 : Int32))])) := fun tt hq => k2 tt (by
    refine XS.iloadN X2.here hx rfl (hb hby d_jdk_65_method_133_code_5) rfl ?_
    refine XS.iloadN X2.here hx rfl (hb hby d_jdk_65_method_133_code_6) rfl ?_
    refine XS.isub X2.here hx rfl (hb hby d_jdk_65_method_133_code_7) rfl ?_
    refine XS.istoreN X2.here hx rfl (hb hby d_jdk_65_method_133_code_8) rfl (l' := #[.val (.ref t), .val (.int (0 : Int32)), .val (.int (2 : Int32)), .val (.int (2 : Int32)), .unset]) rfl ?_
    refine XS.iloadN X2.here hx rfl (hb hby d_jdk_65_method_133_code_9) rfl ?_
    exact hq)
  obtain ⟨T4, h4, c4, X4, e4, E4, A4, st4⟩ := newP X2 hx hZ (wq hw 19 rfl) e2 (g := (mkF m 10 #[.val (.ref t), .val (.int (0 : Int32)), .val (.int (2 : Int32)), .val (.int (2 : Int32)), .unset] [(.int (2 : Int32))])) rfl (hb hby d_jdk_65_method_133_code_10) rfl (by decide) (cap := 2) (by decide) (by decide) (by decide) (by decide)
  obtain ⟨b4, g4⟩ : ∃ z, z = h0.size := ⟨_, rfl⟩
  rw [← g4] at A4 st4
  have k4 : To p.tables e below S0 (T4.setTop (mkF m 12 #[.val (.ref t), .val (.int (0 : Int32)), .val (.int (2 : Int32)), .val (.int (2 : Int32)), .unset] [(.ref b4)])) := fun tt hq => k3 tt (st4 tt hq)
  have z4 : h0.size ≤ h4.size := E4.1
  have V4 : Arv Z h4 b4 c4 .byte (2 : Int32) [(.int (0 : Int32)), (.int (0 : Int32))] (.int (0 : Int32)) := (Arv.new A4 (by decide)).pad (pad_rep [] (.int (0 : Int32)) 2)
  have y4 : @LT.lt Nat instLTNat b4 h4.size := V4.lt
  have f5 : Arv Z h4 t kt .byte (3 : Int32) [(.int c0), (.int c1), (.int c2)] (.int (0 : Int32)) := (P0.ext E4)
  have k6 : To p.tables e below S0 (T4.setTop (mkF m 20 #[.val (.ref t), .val (.int (0 : Int32)), .val (.int (2 : Int32)), .val (.int (2 : Int32)), .val (.ref b4)] [(.ref t), (.int (0 : Int32)), (.ref b4), (.int (0 : Int32)), (.ref t)])) := fun tt hq => k4 tt (by
    refine XS.astore X4.here hx rfl (hb hby d_jdk_65_method_133_code_12) rfl rfl (l' := #[.val (.ref t), .val (.int (0 : Int32)), .val (.int (2 : Int32)), .val (.int (2 : Int32)), .val (.ref b4)]) rfl ?_
    refine XS.aloadN X4.here hx rfl (hb hby d_jdk_65_method_133_code_14) rfl rfl ?_
    refine XS.iloadN X4.here hx rfl (hb hby d_jdk_65_method_133_code_15) rfl ?_
    refine XS.aload X4.here hx rfl (hb hby d_jdk_65_method_133_code_16) rfl rfl ?_
    refine XS.iconst X4.here hx rfl (hb hby d_jdk_65_method_133_code_18) ?_
    refine XS.aloadN X4.here hx rfl (hb hby d_jdk_65_method_133_code_19) rfl rfl ?_
    exact hq)
  obtain ⟨cl7, Ar7, -, S7, M7, -, -⟩ := id f5
  have st7 := fun tt => X4.arraylength hx (by rw [e4]; exact Ar7.1) (State.isArrayOf_alike hZ.alike Ar7.2.1) (g := (mkF m 20 #[.val (.ref t), .val (.int (0 : Int32)), .val (.int (2 : Int32)), .val (.int (2 : Int32)), .val (.ref b4)] [(.ref t), (.int (0 : Int32)), (.ref b4), (.int (0 : Int32)), (.ref t)])) rfl rfl (hb hby d_jdk_65_method_133_code_20) tt
  rw [len_of S7 M7] at st7
  have k7 : To p.tables e below S0 (T4.setTop (mkF m 21 #[.val (.ref t), .val (.int (0 : Int32)), .val (.int (2 : Int32)), .val (.int (2 : Int32)), .val (.ref b4)] [(.int (3 : Int32)), (.int (0 : Int32)), (.ref b4), (.int (0 : Int32)), (.ref t)])) := fun tt hq => k6 tt (st7 tt hq)
  have k8 : To p.tables e below S0 (T4.setTop (mkF m 24 #[.val (.ref t), .val (.int (0 : Int32)), .val (.int (2 : Int32)), .val (.int (2 : Int32)), .val (.ref b4)] [(.int (2 : Int32)), (.int (3 : Int32)), (.int (0 : Int32)), (.ref b4), (.int (0 : Int32)), (.ref t)])) := fun tt hq => k7 tt (by
    refine XS.iloadN X4.here hx rfl (hb hby d_jdk_65_method_133_code_21) rfl ?_
    refine XS.isub X4.here hx rfl (hb hby d_jdk_65_method_133_code_22) rfl ?_
    refine XS.iloadN X4.here hx rfl (hb hby d_jdk_65_method_133_code_23) rfl ?_
    exact hq)
  obtain ⟨_, T9, L9, X9, ⟨rfl, Nq9, eq9⟩, k9a⟩ := callS' X4 hx hZ (y := (⟨"java/lang/Math", "min", "(II)I"⟩ : MethodName)) hown (wq hw 160 rfl) (wq hw 70 rfl) (wq hw 71 rfl) (wq hw 72 rfl) (by decide) (backC (W := 4) (rm_min l Z a0 hw (3 : Int32) (2 : Int32) (2 : Int32) h4 n0 (by omega) (by decide)) hZ (wq hw 72 rfl) (wq hw 71 rfl) (by decide) (by decide)) e4 (argsL := [(.int (3 : Int32)), (.int (2 : Int32))]) (rest := [(.int (0 : Int32)), (.ref b4), (.int (0 : Int32)), (.ref t)]) rfl rfl pd_15 rfl (by rw [hml]; rfl) (hb hby d_jdk_65_method_133_code_24) (Nat.le_of_eq rfl) (by decide) (by decide) k8
  have k9 : To p.tables e below S0 (T9.setTop (mkF m 27 #[.val (.ref t), .val (.int (0 : Int32)), .val (.int (2 : Int32)), .val (.int (2 : Int32)), .val (.ref b4)] [(.int (2 : Int32)), (.int (0 : Int32)), (.ref b4), (.int (0 : Int32)), (.ref t)])) := k9a
  have N9 := N2.app Nq9
  have e9 : T9.heap = h4 := eq9
  obtain ⟨T10, h10, L10, X10, F10, e10, Kq10, V10, st10⟩ := copyB X9 hx hZ hown (wq hw 161 rfl) (wq hw 164 rfl) (wq hw 162 rfl) (wq hw 163 rfl) e9 f5 V4 (i := (0 : Int32)) (ws := [(.int c0), (.int c1)]) (by decide) (by decide) (by intro j hj; have hj' : j < 2 := Nat.lt_of_lt_of_eq hj (by decide); rcases j with _ | _ | j <;> first | rfl | omega) (g := (mkF m 27 #[.val (.ref t), .val (.int (0 : Int32)), .val (.int (2 : Int32)), .val (.int (2 : Int32)), .val (.ref b4)] [(.int (2 : Int32)), (.int (0 : Int32)), (.ref b4), (.int (0 : Int32)), (.ref t)])) rfl (by rw [hml]; rfl) rfl (hb hby d_jdk_65_method_133_code_27) (by decide) (by show 2 * 0 + _ + _ ≤ _; decide +kernel)
  have k10 : To p.tables e below S0 (T10.setTop (mkF m 30 #[.val (.ref t), .val (.int (0 : Int32)), .val (.int (2 : Int32)), .val (.int (2 : Int32)), .val (.ref b4)] [])) := fun tt hq => k9 tt (st10 tt hq)
  have z10 : h4.size ≤ h10.size := Kq10.1
  have N10 := N9.app (F10 n0 (by omega))
  have k11 : To p.tables e below S0 (T10.setTop (mkF m 32 #[.val (.ref t), .val (.int (0 : Int32)), .val (.int (2 : Int32)), .val (.int (2 : Int32)), .val (.ref b4)] [(.ref b4)])) := fun tt hq => k10 tt (by
    refine XS.aload X10.here hx rfl (hb hby d_jdk_65_method_133_code_30) rfl rfl ?_
    exact hq)
  have hE := e10
  refine retRef X10 hx hret hlk rfl rfl (hb hby d_jdk_65_method_133_code_32) k11 ?_ (by decide) (by decide)
  try rw [hE]
  exact ⟨_, _, rfl, N10, (by omega), (((Keep.refl h0 []).ext E4).trans Kq10 (allS (Or.inr (by omega)) all0)), V10⟩
set_option maxRecDepth 65536 in
set_option maxHeartbeats 40000000 in
theorem rm_cro0_2 (l : Launch) (Z : State) (a0 : Array Value) (hw : ∀ d ∈ tables_1, d.before a0 Z = true) (t : Addr) (kt : ClassId) (c0 : Int32) (c1 : Int32) (c2 : Int32) (h0 : Heap) (n0 : Nat) (hn0 : n0 ≤ h0.size) (P0 : Arv Z h0 t kt .byte (3 : Int32) [(.int c0), (.int c1), (.int c2)] (.int (0 : Int32))) (yt : @LT.lt Nat instLTNat t h0.size) :
    Con l Z (⟨"java/util/Arrays", "copyOfRange", "([BII)[B"⟩ : MethodName) jdk_65_method_132_code 3 (some (.array .byte)) [] ({ frames := 2, cells := 1, slots := 2, locals := 34 } : Room) #[(.ref t), (.int (0 : Int32)), (.int (2 : Int32))] h0 (fun v h L => ∃ (b : Addr) (kb : ClassId), v = some (.ref b) ∧ Fr n0 L ∧ h0.size ≤ b ∧ Keep h0 h [] ∧ Arv Z h b kb .byte (2 : Int32) [(.int c0), (.int c1)] (.int (0 : Int32))) := by
  refine enter (Ls := #[.val (.ref t), .val (.int (0 : Int32)), .val (.int (2 : Int32))]) (plainFor_of_name pn_8) (fun m => by exact entry_eq rfl) ?_
  intro p e s m below meth cd_ s₁ S0 hx hby hml hret hlk hnm hown hZ X0 e0 k0
  have N0 := Fr.nil n0
  have k1 : To p.tables e below S0 (s₁.setTop (mkF m 6 #[.val (.ref t), .val (.int (0 : Int32)), .val (.int (2 : Int32))] [(.ref t), (.int (2 : Int32))])) := fun tt hq => k0 tt (by
    refine XS.iloadN X0.here hx rfl (hb hby d_jdk_65_method_132_code_0) rfl ?_
    refine XS.ifNo X0.here hx rfl (hb hby d_jdk_65_method_132_code_1) rfl ((if0 _ _).trans (teq (by decide)).2) ?_
    refine XS.iloadN X0.here hx rfl (hb hby d_jdk_65_method_132_code_4) rfl ?_
    refine XS.aloadN X0.here hx rfl (hb hby d_jdk_65_method_132_code_5) rfl rfl ?_
    exact hq)
  obtain ⟨cl2, Ar2, -, S2, M2, -, -⟩ := id P0
  have st2 := fun tt => X0.arraylength hx (by rw [e0]; exact Ar2.1) (State.isArrayOf_alike hZ.alike Ar2.2.1) (g := (mkF m 6 #[.val (.ref t), .val (.int (0 : Int32)), .val (.int (2 : Int32))] [(.ref t), (.int (2 : Int32))])) rfl rfl (hb hby d_jdk_65_method_132_code_6) tt
  rw [len_of S2 M2] at st2
  have k2 : To p.tables e below S0 (s₁.setTop (mkF m 7 #[.val (.ref t), .val (.int (0 : Int32)), .val (.int (2 : Int32))] [(.int (3 : Int32)), (.int (2 : Int32))])) := fun tt hq => k1 tt (st2 tt hq)
  have k3 : To p.tables e below S0 (s₁.setTop (mkF m 13 #[.val (.ref t), .val (.int (0 : Int32)), .val (.int (2 : Int32))] [(.int (2 : Int32)), (.int (0 : Int32)), (.ref t)])) := fun tt hq => k2 tt (by
    refine XS.icmpNo X0.here hx rfl (hb hby d_jdk_65_method_132_code_7) rfl (feq (by decide)).1 ?_
    refine XS.aloadN X0.here hx rfl (hb hby d_jdk_65_method_132_code_10) rfl rfl ?_
    refine XS.iloadN X0.here hx rfl (hb hby d_jdk_65_method_132_code_11) rfl ?_
    refine XS.iloadN X0.here hx rfl (hb hby d_jdk_65_method_132_code_12) rfl ?_
    exact hq)
  obtain ⟨_, T4, L4, X4, ⟨t4, kt4, rfl, Nq4, gt4, Kq4, V4⟩, k4a⟩ := callS' X0 hx hZ (y := (⟨"java/util/Arrays", "copyOfRangeByte", "([BII)[B"⟩ : MethodName)) hown (wq hw 154 rfl) (wq hw 155 rfl) (wq hw 152 rfl) (wq hw 156 rfl) (by decide) (backC (W := 0) (rm_crb0_2 l Z a0 hw t kt c0 c1 c2 h0 n0 (by omega) P0 (by omega)) hZ (wq hw 156 rfl) (wq hw 152 rfl) (by decide) (by decide)) e0 (argsL := [(.ref t), (.int (0 : Int32)), (.int (2 : Int32))]) (rest := []) rfl rfl pd_23 rfl (by rw [hml]; rfl) (hb hby d_jdk_65_method_132_code_13) (Nat.le_of_eq rfl) (by decide) (by decide) k3
  have k4 : To p.tables e below S0 (T4.setTop (mkF m 16 #[.val (.ref t), .val (.int (0 : Int32)), .val (.int (2 : Int32))] [(.ref t4)])) := k4a
  have N4 := N0.app Nq4
  obtain ⟨h4, e4⟩ : ∃ z, T4.heap = z := ⟨_, rfl⟩
  rw [e4] at Kq4 V4
  have z4 : h0.size ≤ h4.size := Kq4.1
  have y4 : @LT.lt Nat instLTNat t4 h4.size := V4.lt
  have hE := e4
  refine retRef X4 hx hret hlk rfl rfl (hb hby d_jdk_65_method_132_code_16) k4 ?_ (by decide) (by decide)
  try rw [hE]
  exact ⟨_, _, rfl, N4, (by omega), ((Keep.refl h0 []).trans Kq4 all0), V4⟩
set_option maxRecDepth 65536 in
set_option maxHeartbeats 40000000 in
theorem rm_ns0_2 (l : Launch) (Z : State) (a0 : Array Value) (hw : ∀ d ∈ tables_1, d.before a0 Z = true) (t : Addr) (kt : ClassId) (c0 : Int32) (c1 : Int32) (c2 : Int32) (h0 : Heap) (n0 : Nat) (hn0 : n0 ≤ h0.size) (P0 : Arv Z h0 t kt .byte (3 : Int32) [(.int c0), (.int c1), (.int c2)] (.int (0 : Int32))) (yt : @LT.lt Nat instLTNat t h0.size) :
    Con l Z (⟨"java/lang/StringLatin1", "newString", "([BII)Ljava/lang/String;"⟩ : MethodName) jdk_43_method_47_code 3 (some (.object "java/lang/String")) [] ({ frames := 3, cells := 2, slots := 6, locals := 50 } : Room) #[(.ref t), (.int (0 : Int32)), (.int (2 : Int32))] h0 (fun v h L => ∃ (b t : Addr) (k : ClassId), v = some (.ref b) ∧ Fr n0 L ∧ (@LT.lt Nat instLTNat b h.size) ∧ (@LT.lt Nat instLTNat t h.size) ∧ Keep h0 h [] ∧ Exa Z h b "java/lang/String" ∧ Fld Z h b "java/lang/String" "value" "[B" (.ref t) ∧ Fld Z h b "java/lang/String" "coder" "B" (.int (0 : Int32)) ∧ Arv Z h t k .byte (2 : Int32) [(.int c0), (.int c1)] (.int 0)) := by
  refine enter (Ls := #[.val (.ref t), .val (.int (0 : Int32)), .val (.int (2 : Int32))]) (plainFor_of_name pn_4) (fun m => by exact entry_eq rfl) ?_
  intro p e s m below meth cd_ s₁ S0 hx hby hml hret hlk hnm hown hZ X0 e0 k0
  have N0 := Fr.nil n0
  have k1 : To p.tables e below S0 (s₁.setTop (mkF m 7 #[.val (.ref t), .val (.int (0 : Int32)), .val (.int (2 : Int32))] [])) := fun tt hq => k0 tt (by
    refine XS.iloadN X0.here hx rfl (hb hby d_jdk_43_method_47_code_0) rfl ?_
    refine XS.ifYes X0.here hx rfl (pc0 := 1) (pc' := 7) rfl (hb hby d_jdk_43_method_47_code_1) rfl ((if0 _ _).trans (feq (by decide)).2) (by decide) (by decide) ?_
    exact hq)
  obtain ⟨T2, h2, X2, e2, E2, A2, D2, -, st2⟩ := newO X0 hx hZ hown (wq hw 149 rfl) (wq hw 2 rfl) (wq hw 3 rfl) e0 (g := (mkF m 7 #[.val (.ref t), .val (.int (0 : Int32)), .val (.int (2 : Int32))] [])) rfl (hb hby d_jdk_43_method_47_code_7) (by decide) (by decide)
  obtain ⟨b2, g2⟩ : ∃ z, z = h0.size := ⟨_, rfl⟩
  rw [← g2] at A2 D2 st2
  have k2 : To p.tables e below S0 (T2.setTop (mkF m 10 #[.val (.ref t), .val (.int (0 : Int32)), .val (.int (2 : Int32))] [(.ref b2)])) := fun tt hq => k1 tt (st2 tt hq)
  have z2 : h0.size ≤ h2.size := E2.1
  have y2 : @LT.lt Nat instLTNat b2 h2.size := A2.lt
  have F2_coder : Fld Z h2 b2 "java/lang/String" "coder" "B" (.int (0 : Int32)) := D2 (Or.inr (wq hw 27 rfl)) (ty := .byte) (by decide)
  have F2_value : Fld Z h2 b2 "java/lang/String" "value" "[B" .null := D2 (Or.inr (wq hw 29 rfl)) (ty := (.array .byte)) (by decide)
  have k3 : To p.tables e below S0 (T2.setTop (mkF m 16 #[.val (.ref t), .val (.int (0 : Int32)), .val (.int (2 : Int32))] [(.int (2 : Int32)), (.int (0 : Int32)), (.ref t), (.ref b2), (.ref b2)])) := fun tt hq => k2 tt (by
    refine XS.dup X2.here hx rfl (hb hby d_jdk_43_method_47_code_10) rfl rfl ?_
    refine XS.aloadN X2.here hx rfl (hb hby d_jdk_43_method_47_code_11) rfl rfl ?_
    refine XS.iloadN X2.here hx rfl (hb hby d_jdk_43_method_47_code_12) rfl ?_
    refine XS.iloadN X2.here hx rfl (hb hby d_jdk_43_method_47_code_13) rfl ?_
    refine XS.iloadN X2.here hx rfl (hb hby d_jdk_43_method_47_code_14) rfl ?_
    refine XS.iadd X2.here hx rfl (hb hby d_jdk_43_method_47_code_15) rfl ?_
    exact hq)
  have f4 : Arv Z h2 t kt .byte (3 : Int32) [(.int c0), (.int c1), (.int c2)] (.int (0 : Int32)) := (P0.ext E2)
  obtain ⟨_, T5, L5, X5, ⟨t5, kt5, rfl, Nq5, gt5, Kq5, V5⟩, k5a⟩ := callS' X2 hx hZ (y := (⟨"java/util/Arrays", "copyOfRange", "([BII)[B"⟩ : MethodName)) hown (wq hw 150 rfl) (wq hw 151 rfl) (wq hw 152 rfl) (wq hw 153 rfl) (by decide) (backC (W := 2) (rm_cro0_2 l Z a0 hw t kt c0 c1 c2 h2 n0 (by omega) f4 (by omega)) hZ (wq hw 153 rfl) (wq hw 152 rfl) (by decide) (by decide)) e2 (argsL := [(.ref t), (.int (0 : Int32)), (.int (2 : Int32))]) (rest := [(.ref b2), (.ref b2)]) rfl rfl pd_23 rfl (by rw [hml]; rfl) (hb hby d_jdk_43_method_47_code_16) (Nat.le_of_eq rfl) (by decide) (by decide) k3
  have k5 : To p.tables e below S0 (T5.setTop (mkF m 19 #[.val (.ref t), .val (.int (0 : Int32)), .val (.int (2 : Int32))] [(.ref t5), (.ref b2), (.ref b2)])) := k5a
  have N5 := N0.app Nq5
  obtain ⟨h5, e5⟩ : ∃ z, T5.heap = z := ⟨_, rfl⟩
  rw [e5] at Kq5 V5
  have z5 : h2.size ≤ h5.size := Kq5.1
  have y5 : @LT.lt Nat instLTNat t5 h5.size := V5.lt
  have k6 : To p.tables e below S0 (T5.setTop (mkF m 20 #[.val (.ref t), .val (.int (0 : Int32)), .val (.int (2 : Int32))] [(.int (0 : Int32)), (.ref t5), (.ref b2), (.ref b2)])) := fun tt hq => k5 tt (by
    refine XS.iconst X5.here hx rfl (hb hby d_jdk_43_method_47_code_19) ?_
    exact hq)
  have f7 : Exa Z h5 b2 "java/lang/String" := (A2.keep Kq5)
  have f8 : Fld Z h5 b2 "java/lang/String" "value" "[B" .null := (F2_value.keep Kq5 nin0)
  have f9 : Fld Z h5 b2 "java/lang/String" "coder" "B" (.int (0 : Int32)) := (F2_coder.keep Kq5 nin0)
  obtain ⟨_, T10, L10, X10, ⟨rfl, Nq10, Kq10, A10, Fv10, Fc10⟩, k10a⟩ := callC' X5 hx hZ (y := (⟨"java/lang/String", "<init>", "([BB)V"⟩ : MethodName)) rfl hown (wq hw 165 rfl) (wq hw 166 rfl) (wq hw 167 rfl) (by decide) (backC (W := 1) (rm_sbb l Z a0 hw b2 t5 .null (.int (0 : Int32)) h5 n0 (by omega) f7 f8 f9 (by omega)) hZ (wq hw 167 rfl) (wq hw 3 rfl) (by decide) (by decide)) e5 (argsL := [(.ref t5), (.int (0 : Int32))]) (rest := [(.ref b2)]) rfl rfl pd_24 rfl (by rw [hml]; rfl) (hb hby d_jdk_43_method_47_code_20) (Nat.le_of_eq rfl) (by decide) (by decide) k6
  have k10 : To p.tables e below S0 (T10.setTop (mkF m 23 #[.val (.ref t), .val (.int (0 : Int32)), .val (.int (2 : Int32))] [(.ref b2)])) := k10a
  have N10 := N5.app Nq10
  obtain ⟨h10, e10⟩ : ∃ z, T10.heap = z := ⟨_, rfl⟩
  rw [e10] at Kq10 A10 Fv10 Fc10
  have z10 : h5.size ≤ h10.size := Kq10.1
  have f11 : Arv Z h10 t5 kt5 .byte (2 : Int32) [(.int c0), (.int c1)] (.int (0 : Int32)) := (V5.keep Kq10 (nin1 (by omega)))
  have hE := e10
  refine retRef X10 hx hret hlk rfl rfl (hb hby d_jdk_43_method_47_code_23) k10 ?_ (by decide) (by decide)
  try rw [hE]
  exact ⟨_, _, _, rfl, N10, A10.lt, f11.lt, ((((Keep.refl h0 []).ext E2).trans Kq5 all0).trans Kq10 (allS (Or.inr (by omega)) all0)), A10, Fv10, Fc10, f11⟩
set_option maxRecDepth 65536 in
set_option maxHeartbeats 40000000 in
theorem rm_sub0_2 (l : Launch) (Z : State) (a0 : Array Value) (hw : ∀ d ∈ tables_1, d.before a0 Z = true) (zc : Int32) (fm : Value) (a : Addr) (t : Addr) (kt : ClassId) (c0 : Int32) (c1 : Int32) (c2 : Int32) (h0 : Heap) (n0 : Nat) (hn0 : n0 ≤ h0.size) (S_c : Sta Z Z.heap "java/lang/String" "COMPACT_STRINGS" "Z" (.int zc)) (hzc : ¬ zc = (0 : Int32)) (S_f : Sta Z Z.heap "jdk/internal/util/Preconditions" "SIOOBE_FORMATTER" "Ljava/util/function/BiFunction;" fm) (hfm : fm.isRef = true) (O0 : Old Z n0 h0) (P0 : Exa Z h0 a "java/lang/String") (P1 : Fld Z h0 a "java/lang/String" "value" "[B" (.ref t)) (P2 : Fld Z h0 a "java/lang/String" "coder" "B" (.int (0 : Int32))) (P3 : Arv Z h0 t kt .byte (3 : Int32) [(.int c0), (.int c1), (.int c2)] (.int 0)) (yt : @LT.lt Nat instLTNat t h0.size) :
    Con l Z (⟨"java/lang/String", "substring", "(II)Ljava/lang/String;"⟩ : MethodName) jdk_42_method_92_code 5 (some (.object "java/lang/String")) [] ({ frames := 4, cells := 2, slots := 6, locals := 64 } : Room) #[(.ref a), (.int (0 : Int32)), (.int (2 : Int32))] h0 (fun v h L => ∃ (b t : Addr) (k : ClassId), v = some (.ref b) ∧ Fr n0 L ∧ (@LT.lt Nat instLTNat b h.size) ∧ (@LT.lt Nat instLTNat t h.size) ∧ Keep h0 h [] ∧ Exa Z h b "java/lang/String" ∧ Fld Z h b "java/lang/String" "value" "[B" (.ref t) ∧ Fld Z h b "java/lang/String" "coder" "B" (.int (0 : Int32)) ∧ Arv Z h t k .byte (2 : Int32) [(.int c0), (.int c1)] (.int 0)) := by
  refine enter (Ls := #[.val (.ref a), .val (.int (0 : Int32)), .val (.int (2 : Int32)), .unset, .unset]) (plainFor_of_name pn_1) (fun m => by exact entry_eq rfl) ?_
  intro p e s m below meth cd_ s₁ S0 hx hby hml hret hlk hnm hown hZ X0 e0 k0
  have N0 := Fr.nil n0
  have k1 : To p.tables e below S0 (s₁.setTop (mkF m 1 #[.val (.ref a), .val (.int (0 : Int32)), .val (.int (2 : Int32)), .unset, .unset] [(.ref a)])) := fun tt hq => k0 tt (by
    refine XS.aloadN X0.here hx rfl (hb hby d_jdk_42_method_92_code_0) rfl rfl ?_
    exact hq)
  obtain ⟨_, T2, L2, X2, ⟨rfl, Nq2, eq2⟩, k2a⟩ := callV' X0 hx hZ (y := (⟨"java/lang/String", "length", "()I"⟩ : MethodName)) (z := (⟨"java/lang/String", "length", "()I"⟩ : MethodName)) hown (wq hw 122 rfl) (wq hw 123 rfl) (notFace_of_selects (args := #[]) (mvT hZ (wq hw 125 rfl))) (wq hw 125 rfl) (wq hw 124 rfl) (by decide) P0 (backC (W := 0) (rm_len3 l Z a0 hw zc a t kt c0 c1 c2 h0 n0 (by omega) S_c hzc O0 P0 P1 P2 P3) hZ (wq hw 126 rfl) (wq hw 3 rfl) (by decide) (by decide)) e0 (argsL := []) (rest := []) rfl rfl pd_17 rfl (by rw [hml]; rfl) (hb hby d_jdk_42_method_92_code_1) (Nat.le_of_eq rfl) (by decide) (by decide) k1
  have k2 : To p.tables e below S0 (T2.setTop (mkF m 4 #[.val (.ref a), .val (.int (0 : Int32)), .val (.int (2 : Int32)), .unset, .unset] [(.int (3 : Int32))])) := k2a
  have N2 := N0.app Nq2
  have e2 : T2.heap = h0 := eq2
  have k3 : To p.tables e below S0 (T2.setTop (mkF m 8 #[.val (.ref a), .val (.int (0 : Int32)), .val (.int (2 : Int32)), .val (.int (3 : Int32)), .unset] [(.int (3 : Int32)), (.int (2 : Int32)), (.int (0 : Int32))])) := fun tt hq => k2 tt (by
    refine XS.istoreN X2.here hx rfl (hb hby d_jdk_42_method_92_code_4) rfl (l' := #[.val (.ref a), .val (.int (0 : Int32)), .val (.int (2 : Int32)), .val (.int (3 : Int32)), .unset]) rfl ?_
    refine XS.iloadN X2.here hx rfl (hb hby d_jdk_42_method_92_code_5) rfl ?_
    refine XS.iloadN X2.here hx rfl (hb hby d_jdk_42_method_92_code_6) rfl ?_
    refine XS.iloadN X2.here hx rfl (hb hby d_jdk_42_method_92_code_7) rfl ?_
    exact hq)
  obtain ⟨_, T4, L4, X4, ⟨rfl, Nq4, eq4⟩, k4a⟩ := callS' X2 hx hZ (y := (⟨"java/lang/String", "checkBoundsBeginEnd", "(III)V"⟩ : MethodName)) hown (wq hw 132 rfl) (wq hw 133 rfl) (wq hw 3 rfl) (wq hw 134 rfl) (by decide) (backC (W := 0) (rm_cbe l Z a0 hw fm (0 : Int32) (2 : Int32) (3 : Int32) h0 n0 (by omega) S_f hfm O0 (by decide) (by decide) (by decide)) hZ (wq hw 134 rfl) (wq hw 3 rfl) (by decide) (by decide)) e2 (argsL := [(.int (0 : Int32)), (.int (2 : Int32)), (.int (3 : Int32))]) (rest := []) rfl rfl pd_18 rfl (by rw [hml]; rfl) (hb hby d_jdk_42_method_92_code_8) (Nat.le_of_eq rfl) (by decide) (by decide) k3
  have k4 : To p.tables e below S0 (T4.setTop (mkF m 11 #[.val (.ref a), .val (.int (0 : Int32)), .val (.int (2 : Int32)), .val (.int (3 : Int32)), .unset] [])) := k4a
  have N4 := N2.app Nq4
  have e4 : T4.heap = h0 := eq4
  have k5 : To p.tables e below S0 (T4.setTop (mkF m 28 #[.val (.ref a), .val (.int (0 : Int32)), .val (.int (2 : Int32)), .val (.int (3 : Int32)), .val (.int (2 : Int32))] [(.ref a)])) := fun tt hq => k4 tt (by
    refine XS.iloadN X4.here hx rfl (hb hby d_jdk_42_method_92_code_11) rfl ?_
    refine XS.ifNo X4.here hx rfl (hb hby d_jdk_42_method_92_code_12) rfl ((if0 _ _).trans (teq (by decide)).2) ?_
    refine XS.iloadN X4.here hx rfl (hb hby d_jdk_42_method_92_code_15) rfl ?_
    refine XS.iloadN X4.here hx rfl (hb hby d_jdk_42_method_92_code_16) rfl ?_
    refine XS.icmpYes X4.here hx rfl (pc0 := 17) (pc' := 22) rfl (hb hby d_jdk_42_method_92_code_17) rfl (feq (by decide)).2 (by decide) (by decide) ?_
    refine XS.iloadN X4.here hx rfl (hb hby d_jdk_42_method_92_code_22) rfl ?_
    refine XS.iloadN X4.here hx rfl (hb hby d_jdk_42_method_92_code_23) rfl ?_
    refine XS.isub X4.here hx rfl (hb hby d_jdk_42_method_92_code_24) rfl ?_
    refine XS.istore X4.here hx rfl (hb hby d_jdk_42_method_92_code_25) rfl (l' := #[.val (.ref a), .val (.int (0 : Int32)), .val (.int (2 : Int32)), .val (.int (3 : Int32)), .val (.int (2 : Int32))]) rfl ?_
    refine XS.aloadN X4.here hx rfl (hb hby d_jdk_42_method_92_code_27) rfl rfl ?_
    exact hq)
  obtain ⟨_, T6, L6, X6, ⟨rfl, Nq6, eq6⟩, k6a⟩ := callV' X4 hx hZ (y := (⟨"java/lang/String", "isLatin1", "()Z"⟩ : MethodName)) (z := (⟨"java/lang/String", "isLatin1", "()Z"⟩ : MethodName)) hown (wq hw 89 rfl) (wq hw 90 rfl) (notFace_of_selects (args := #[]) (mvT hZ (wq hw 92 rfl))) (wq hw 92 rfl) (wq hw 91 rfl) (by decide) P0 (backC (W := 0) (rm_latin l Z a0 hw zc a h0 n0 (by omega) S_c hzc O0 P2) hZ (wq hw 93 rfl) (wq hw 3 rfl) (by decide) (by decide)) e4 (argsL := []) (rest := []) rfl rfl pd_6 rfl (by rw [hml]; rfl) (hb hby d_jdk_42_method_92_code_28) (Nat.le_of_eq rfl) (by decide) (by decide) k5
  have k6 : To p.tables e below S0 (T6.setTop (mkF m 31 #[.val (.ref a), .val (.int (0 : Int32)), .val (.int (2 : Int32)), .val (.int (3 : Int32)), .val (.int (2 : Int32))] [(.int (1 : Int32))])) := k6a
  have N6 := N4.app Nq6
  have e6 : T6.heap = h0 := eq6
  have k7 : To p.tables e below S0 (T6.setTop (mkF m 35 #[.val (.ref a), .val (.int (0 : Int32)), .val (.int (2 : Int32)), .val (.int (3 : Int32)), .val (.int (2 : Int32))] [(.ref a)])) := fun tt hq => k6 tt (by
    refine XS.ifNo X6.here hx rfl (hb hby d_jdk_42_method_92_code_31) rfl ((if0 _ _).trans (feq (by decide)).1) ?_
    refine XS.aloadN X6.here hx rfl (hb hby d_jdk_42_method_92_code_34) rfl rfl ?_
    exact hq)
  obtain ⟨T8, X8, e8, st8⟩ := getF X6 hx hZ hown (host := "") (Or.inl (wq hw 28 rfl)) Via.refl e6 P1 (g := (mkF m 35 #[.val (.ref a), .val (.int (0 : Int32)), .val (.int (2 : Int32)), .val (.int (3 : Int32)), .val (.int (2 : Int32))] [(.ref a)])) rfl rfl (hb hby d_jdk_42_method_92_code_35)
  have k8 : To p.tables e below S0 (T8.setTop (mkF m 38 #[.val (.ref a), .val (.int (0 : Int32)), .val (.int (2 : Int32)), .val (.int (3 : Int32)), .val (.int (2 : Int32))] [(.ref t)])) := fun tt hq => k7 tt (st8 tt hq)
  have k9 : To p.tables e below S0 (T8.setTop (mkF m 41 #[.val (.ref a), .val (.int (0 : Int32)), .val (.int (2 : Int32)), .val (.int (3 : Int32)), .val (.int (2 : Int32))] [(.int (2 : Int32)), (.int (0 : Int32)), (.ref t)])) := fun tt hq => k8 tt (by
    refine XS.iloadN X8.here hx rfl (hb hby d_jdk_42_method_92_code_38) rfl ?_
    refine XS.iload X8.here hx rfl (hb hby d_jdk_42_method_92_code_39) rfl ?_
    exact hq)
  obtain ⟨_, T10, L10, X10, ⟨a10, t10, k10x, rfl, Nq10, ya10, yt10, Kq10, P100, P101, P102, P103⟩, k10a⟩ := callS' X8 hx hZ (y := (⟨"java/lang/StringLatin1", "newString", "([BII)Ljava/lang/String;"⟩ : MethodName)) hown (wq hw 138 rfl) (wq hw 139 rfl) (wq hw 140 rfl) (wq hw 141 rfl) (by decide) (backC (W := 0) (rm_ns0_2 l Z a0 hw t kt c0 c1 c2 h0 n0 (by omega) P3 (by omega)) hZ (wq hw 141 rfl) (wq hw 140 rfl) (by decide) (by decide)) e8 (argsL := [(.ref t), (.int (0 : Int32)), (.int (2 : Int32))]) (rest := []) rfl rfl pd_19 rfl (by rw [hml]; rfl) (hb hby d_jdk_42_method_92_code_41) (Nat.le_of_eq rfl) (by decide) (by decide) k9
  have k10 : To p.tables e below S0 (T10.setTop (mkF m 44 #[.val (.ref a), .val (.int (0 : Int32)), .val (.int (2 : Int32)), .val (.int (3 : Int32)), .val (.int (2 : Int32))] [(.ref a10)])) := k10a
  have N10 := N6.app Nq10
  obtain ⟨h10, e10⟩ : ∃ z, T10.heap = z := ⟨_, rfl⟩
  rw [e10] at Kq10 ya10 yt10 P100 P101 P102 P103
  have z10 : h0.size ≤ h10.size := Kq10.1
  have k11 : To p.tables e below S0 (T10.setTop (mkF m 57 #[.val (.ref a), .val (.int (0 : Int32)), .val (.int (2 : Int32)), .val (.int (3 : Int32)), .val (.int (2 : Int32))] [(.ref a10)])) := fun tt hq => k10 tt (by
    refine XS.goto X10.here hx rfl (pc0 := 44) (pc' := 57) rfl (hb hby d_jdk_42_method_92_code_44) (by decide) (by decide) ?_
    exact hq)
  have hE := e10
  refine retRef X10 hx hret hlk rfl rfl (hb hby d_jdk_42_method_92_code_57) k11 ?_ (by decide) (by decide)
  try rw [hE]
  exact ⟨_, _, _, rfl, N10, P100.lt, P103.lt, ((Keep.refl h0 []).trans Kq10 all0), P100, P101, P102, P103⟩
set_option maxRecDepth 65536 in
set_option maxHeartbeats 40000000 in
theorem rm_tf0_2 (l : Launch) (Z : State) (a0 : Array Value) (hw : ∀ d ∈ tables_1, d.before a0 Z = true) (zc : Int32) (fm : Value) (r : Addr) (a : Addr) (t : Addr) (kt : ClassId) (c0 : Int32) (c1 : Int32) (c2 : Int32) (h0 : Heap) (n0 : Nat) (hn0 : n0 ≤ h0.size) (S_c : Sta Z Z.heap "java/lang/String" "COMPACT_STRINGS" "Z" (.int zc)) (hzc : ¬ zc = (0 : Int32)) (S_f : Sta Z Z.heap "jdk/internal/util/Preconditions" "SIOOBE_FORMATTER" "Ljava/util/function/BiFunction;" fm) (hfm : fm.isRef = true) (O0 : Old Z n0 h0) (Q0 : Fld Z h0 r "com/example/ceruline/ceruline/parsing/SourceReader" "text" "Ljava/lang/String;" (.ref a)) (Q1 : Fld Z h0 r "com/example/ceruline/ceruline/parsing/SourceReader" "offset" "I" (.int (2 : Int32))) (P0 : Exa Z h0 a "java/lang/String") (P1 : Fld Z h0 a "java/lang/String" "value" "[B" (.ref t)) (P2 : Fld Z h0 a "java/lang/String" "coder" "B" (.int (0 : Int32))) (P3 : Arv Z h0 t kt .byte (3 : Int32) [(.int c0), (.int c1), (.int c2)] (.int 0)) (yt : @LT.lt Nat instLTNat t h0.size) :
    Con l Z (⟨"com/example/ceruline/ceruline/parsing/SourceReader", "textFrom", "(I)Ljava/lang/String;"⟩ : MethodName) prog_66_method_8_code 2 (some (.object "java/lang/String")) [] ({ frames := 5, cells := 2, slots := 6, locals := 80 } : Room) #[(.ref r), (.int (0 : Int32))] h0 (fun v h L => ∃ (b t : Addr) (k : ClassId), v = some (.ref b) ∧ Fr n0 L ∧ (@LT.lt Nat instLTNat b h.size) ∧ (@LT.lt Nat instLTNat t h.size) ∧ Keep h0 h [] ∧ Exa Z h b "java/lang/String" ∧ Fld Z h b "java/lang/String" "value" "[B" (.ref t) ∧ Fld Z h b "java/lang/String" "coder" "B" (.int (0 : Int32)) ∧ Arv Z h t k .byte (2 : Int32) [(.int c0), (.int c1)] (.int 0)) := by
  refine enter (Ls := #[.val (.ref r), .val (.int (0 : Int32))]) (plainFor_of_name pn_7) (fun m => by exact entry_eq rfl) ?_
  intro p e s m below meth cd_ s₁ S0 hx hby hml hret hlk hnm hown hZ X0 e0 k0
  have N0 := Fr.nil n0
  have k1 : To p.tables e below S0 (s₁.setTop (mkF m 1 #[.val (.ref r), .val (.int (0 : Int32))] [(.ref r)])) := fun tt hq => k0 tt (by
    refine XS.aloadN X0.here hx rfl (hb hby d_prog_66_method_8_code_0) rfl rfl ?_
    exact hq)
  obtain ⟨T2, X2, e2, st2⟩ := getF X0 hx hZ hown (host := "") (Or.inl (wq hw 67 rfl)) Via.refl e0 Q0 (g := (mkF m 1 #[.val (.ref r), .val (.int (0 : Int32))] [(.ref r)])) rfl rfl (hb hby d_prog_66_method_8_code_1)
  have k2 : To p.tables e below S0 (T2.setTop (mkF m 4 #[.val (.ref r), .val (.int (0 : Int32))] [(.ref a)])) := fun tt hq => k1 tt (st2 tt hq)
  have k3 : To p.tables e below S0 (T2.setTop (mkF m 6 #[.val (.ref r), .val (.int (0 : Int32))] [(.ref r), (.int (0 : Int32)), (.ref a)])) := fun tt hq => k2 tt (by
    refine XS.iloadN X2.here hx rfl (hb hby d_prog_66_method_8_code_4) rfl ?_
    refine XS.aloadN X2.here hx rfl (hb hby d_prog_66_method_8_code_5) rfl rfl ?_
    exact hq)
  obtain ⟨T4, X4, e4, st4⟩ := getF X2 hx hZ hown (host := "") (Or.inl (wq hw 82 rfl)) Via.refl e2 Q1 (g := (mkF m 6 #[.val (.ref r), .val (.int (0 : Int32))] [(.ref r), (.int (0 : Int32)), (.ref a)])) rfl rfl (hb hby d_prog_66_method_8_code_6)
  have k4 : To p.tables e below S0 (T4.setTop (mkF m 9 #[.val (.ref r), .val (.int (0 : Int32))] [(.int (2 : Int32)), (.int (0 : Int32)), (.ref a)])) := fun tt hq => k3 tt (st4 tt hq)
  obtain ⟨_, T5, L5, X5, ⟨a5, t5, k5x, rfl, Nq5, ya5, yt5, Kq5, P50, P51, P52, P53⟩, k5a⟩ := callV' X4 hx hZ (y := (⟨"java/lang/String", "substring", "(II)Ljava/lang/String;"⟩ : MethodName)) (z := (⟨"java/lang/String", "substring", "(II)Ljava/lang/String;"⟩ : MethodName)) hown (wq hw 117 rfl) (wq hw 118 rfl) (notFace_of_selects (args := #[]) (mvT hZ (wq hw 120 rfl))) (wq hw 120 rfl) (wq hw 119 rfl) (by decide) P0 (backC (W := 0) (rm_sub0_2 l Z a0 hw zc fm a t kt c0 c1 c2 h0 n0 (by omega) S_c hzc S_f hfm O0 P0 P1 P2 P3 (by omega)) hZ (wq hw 121 rfl) (wq hw 3 rfl) (by decide) (by decide)) e4 (argsL := [(.int (0 : Int32)), (.int (2 : Int32))]) (rest := []) rfl rfl pd_20 rfl (by rw [hml]; rfl) (hb hby d_prog_66_method_8_code_9) (Nat.le_of_eq rfl) (by decide) (by decide) k4
  have k5 : To p.tables e below S0 (T5.setTop (mkF m 12 #[.val (.ref r), .val (.int (0 : Int32))] [(.ref a5)])) := k5a
  have N5 := N0.app Nq5
  obtain ⟨h5, e5⟩ : ∃ z, T5.heap = z := ⟨_, rfl⟩
  rw [e5] at Kq5 ya5 yt5 P50 P51 P52 P53
  have z5 : h0.size ≤ h5.size := Kq5.1
  have hE := e5
  refine retRef X5 hx hret hlk rfl rfl (hb hby d_prog_66_method_8_code_12) k5 ?_ (by decide) (by decide)
  try rw [hE]
  exact ⟨_, _, _, rfl, N5, P50.lt, P53.lt, ((Keep.refl h0 []).trans Kq5 all0), P50, P51, P52, P53⟩
set_option maxRecDepth 65536 in
set_option maxHeartbeats 40000000 in
theorem rm_sub2_2 (l : Launch) (Z : State) (a0 : Array Value) (hw : ∀ d ∈ tables_1, d.before a0 Z = true) (zc : Int32) (fm : Value) (a : Addr) (t : Addr) (kt : ClassId) (c0 : Int32) (c1 : Int32) (c2 : Int32) (h0 : Heap) (n0 : Nat) (hn0 : n0 ≤ h0.size) (S_c : Sta Z Z.heap "java/lang/String" "COMPACT_STRINGS" "Z" (.int zc)) (hzc : ¬ zc = (0 : Int32)) (S_f : Sta Z Z.heap "jdk/internal/util/Preconditions" "SIOOBE_FORMATTER" "Ljava/util/function/BiFunction;" fm) (hfm : fm.isRef = true) (O0 : Old Z n0 h0) (P0 : Exa Z h0 a "java/lang/String") (P1 : Fld Z h0 a "java/lang/String" "value" "[B" (.ref t)) (P2 : Fld Z h0 a "java/lang/String" "coder" "B" (.int (0 : Int32))) (P3 : Arv Z h0 t kt .byte (3 : Int32) [(.int c0), (.int c1), (.int c2)] (.int 0)) (yt : @LT.lt Nat instLTNat t h0.size) :
    ConW l Z own_EL (⟨"java/lang/String", "substring", "(II)Ljava/lang/String;"⟩ : MethodName) jdk_42_method_92_code 5 (some (.object "java/lang/String")) [] ({ frames := 2, cells := 2, slots := 4, locals := 29 } : Room) #[(.ref a), (.int (2 : Int32)), (.int (2 : Int32))] h0 [] (fun v h L => ∃ (b t : Addr) (k : ClassId), v = some (.ref b) ∧ Fr n0 L ∧ (@LT.lt Nat instLTNat b h.size) ∧ (@LT.lt Nat instLTNat t h.size) ∧ Keep h0 h [] ∧ Exa Z h b "java/lang/String" ∧ Fld Z h b "java/lang/String" "value" "[B" (.ref t) ∧ Fld Z h b "java/lang/String" "coder" "B" (.int (0 : Int32)) ∧ Arv Z h t k .byte (0 : Int32) [] (.int 0)) := by
  refine enterW (Ls := #[.val (.ref a), .val (.int (2 : Int32)), .val (.int (2 : Int32)), .unset, .unset]) (plainFor_of_name pn_1) (fun m => by exact entry_eq rfl) ?_
  intro p e s m below meth cd_ s₁ S0 vm0 hx hby hml hret hlk hnm hown hZ X0 e0 k0 C0 hsf hS0
  have N0 := Fr.nil n0
  have k1 : To p.tables e below S0 (s₁.setTop (mkF m 1 #[.val (.ref a), .val (.int (2 : Int32)), .val (.int (2 : Int32)), .unset, .unset] [(.ref a)])) := fun tt hq => k0 tt (by
    refine XS.aloadN X0.here hx rfl (hb hby d_jdk_42_method_92_code_0) rfl rfl ?_
    exact hq)
  obtain ⟨_, T2, L2, X2, ⟨rfl, Nq2, eq2⟩, k2a⟩ := callV' X0 hx hZ (y := (⟨"java/lang/String", "length", "()I"⟩ : MethodName)) (z := (⟨"java/lang/String", "length", "()I"⟩ : MethodName)) hown (wq hw 122 rfl) (wq hw 123 rfl) (notFace_of_selects (args := #[]) (mvT hZ (wq hw 125 rfl))) (wq hw 125 rfl) (wq hw 124 rfl) (by decide) P0 (backC (W := 0) (rm_len3 l Z a0 hw zc a t kt c0 c1 c2 h0 n0 (by omega) S_c hzc O0 P0 P1 P2 P3) hZ (wq hw 126 rfl) (wq hw 3 rfl) (by decide) (by decide)) e0 (argsL := []) (rest := []) rfl rfl pd_17 rfl (by rw [hml]; rfl) (hb hby d_jdk_42_method_92_code_1) (Nat.le_of_eq rfl) (by decide) (by decide) k1
  have k2 : To p.tables e below S0 (T2.setTop (mkF m 4 #[.val (.ref a), .val (.int (2 : Int32)), .val (.int (2 : Int32)), .unset, .unset] [(.int (3 : Int32))])) := k2a
  have N2 := N0.app Nq2
  have e2 : T2.heap = h0 := eq2
  have k3 : To p.tables e below S0 (T2.setTop (mkF m 8 #[.val (.ref a), .val (.int (2 : Int32)), .val (.int (2 : Int32)), .val (.int (3 : Int32)), .unset] [(.int (3 : Int32)), (.int (2 : Int32)), (.int (2 : Int32))])) := fun tt hq => k2 tt (by
    refine XS.istoreN X2.here hx rfl (hb hby d_jdk_42_method_92_code_4) rfl (l' := #[.val (.ref a), .val (.int (2 : Int32)), .val (.int (2 : Int32)), .val (.int (3 : Int32)), .unset]) rfl ?_
    refine XS.iloadN X2.here hx rfl (hb hby d_jdk_42_method_92_code_5) rfl ?_
    refine XS.iloadN X2.here hx rfl (hb hby d_jdk_42_method_92_code_6) rfl ?_
    refine XS.iloadN X2.here hx rfl (hb hby d_jdk_42_method_92_code_7) rfl ?_
    exact hq)
  obtain ⟨_, T4, L4, X4, ⟨rfl, Nq4, eq4⟩, k4a⟩ := callS' X2 hx hZ (y := (⟨"java/lang/String", "checkBoundsBeginEnd", "(III)V"⟩ : MethodName)) hown (wq hw 132 rfl) (wq hw 133 rfl) (wq hw 3 rfl) (wq hw 134 rfl) (by decide) (backC (W := 0) (rm_cbe l Z a0 hw fm (2 : Int32) (2 : Int32) (3 : Int32) h0 n0 (by omega) S_f hfm O0 (by decide) (by decide) (by decide)) hZ (wq hw 134 rfl) (wq hw 3 rfl) (by decide) (by decide)) e2 (argsL := [(.int (2 : Int32)), (.int (2 : Int32)), (.int (3 : Int32))]) (rest := []) rfl rfl pd_18 rfl (by rw [hml]; rfl) (hb hby d_jdk_42_method_92_code_8) (Nat.le_of_eq rfl) (by decide) (by decide) k3
  have k4 : To p.tables e below S0 (T4.setTop (mkF m 11 #[.val (.ref a), .val (.int (2 : Int32)), .val (.int (2 : Int32)), .val (.int (3 : Int32)), .unset] [])) := k4a
  have N4 := N2.app Nq4
  have e4 : T4.heap = h0 := eq4
  have k5 : To p.tables e below S0 (T4.setTop (mkF m 28 #[.val (.ref a), .val (.int (2 : Int32)), .val (.int (2 : Int32)), .val (.int (3 : Int32)), .val (.int (0 : Int32))] [(.ref a)])) := fun tt hq => k4 tt (by
    refine XS.iloadN X4.here hx rfl (hb hby d_jdk_42_method_92_code_11) rfl ?_
    refine XS.ifYes X4.here hx rfl (pc0 := 12) (pc' := 22) rfl (hb hby d_jdk_42_method_92_code_12) rfl ((if0 _ _).trans (feq (by decide)).2) (by decide) (by decide) ?_
    refine XS.iloadN X4.here hx rfl (hb hby d_jdk_42_method_92_code_22) rfl ?_
    refine XS.iloadN X4.here hx rfl (hb hby d_jdk_42_method_92_code_23) rfl ?_
    refine XS.isub X4.here hx rfl (hb hby d_jdk_42_method_92_code_24) rfl ?_
    refine XS.istore X4.here hx rfl (hb hby d_jdk_42_method_92_code_25) rfl (l' := #[.val (.ref a), .val (.int (2 : Int32)), .val (.int (2 : Int32)), .val (.int (3 : Int32)), .val (.int (0 : Int32))]) rfl ?_
    refine XS.aloadN X4.here hx rfl (hb hby d_jdk_42_method_92_code_27) rfl rfl ?_
    exact hq)
  obtain ⟨_, T6, L6, X6, ⟨rfl, Nq6, eq6⟩, k6a⟩ := callV' X4 hx hZ (y := (⟨"java/lang/String", "isLatin1", "()Z"⟩ : MethodName)) (z := (⟨"java/lang/String", "isLatin1", "()Z"⟩ : MethodName)) hown (wq hw 89 rfl) (wq hw 90 rfl) (notFace_of_selects (args := #[]) (mvT hZ (wq hw 92 rfl))) (wq hw 92 rfl) (wq hw 91 rfl) (by decide) P0 (backC (W := 0) (rm_latin l Z a0 hw zc a h0 n0 (by omega) S_c hzc O0 P2) hZ (wq hw 93 rfl) (wq hw 3 rfl) (by decide) (by decide)) e4 (argsL := []) (rest := []) rfl rfl pd_6 rfl (by rw [hml]; rfl) (hb hby d_jdk_42_method_92_code_28) (Nat.le_of_eq rfl) (by decide) (by decide) k5
  have k6 : To p.tables e below S0 (T6.setTop (mkF m 31 #[.val (.ref a), .val (.int (2 : Int32)), .val (.int (2 : Int32)), .val (.int (3 : Int32)), .val (.int (0 : Int32))] [(.int (1 : Int32))])) := k6a
  have N6 := N4.app Nq6
  have e6 : T6.heap = h0 := eq6
  have k7 : To p.tables e below S0 (T6.setTop (mkF m 35 #[.val (.ref a), .val (.int (2 : Int32)), .val (.int (2 : Int32)), .val (.int (3 : Int32)), .val (.int (0 : Int32))] [(.ref a)])) := fun tt hq => k6 tt (by
    refine XS.ifNo X6.here hx rfl (hb hby d_jdk_42_method_92_code_31) rfl ((if0 _ _).trans (feq (by decide)).1) ?_
    refine XS.aloadN X6.here hx rfl (hb hby d_jdk_42_method_92_code_34) rfl rfl ?_
    exact hq)
  obtain ⟨T8, X8, e8, st8⟩ := getF X6 hx hZ hown (host := "") (Or.inl (wq hw 28 rfl)) Via.refl e6 P1 (g := (mkF m 35 #[.val (.ref a), .val (.int (2 : Int32)), .val (.int (2 : Int32)), .val (.int (3 : Int32)), .val (.int (0 : Int32))] [(.ref a)])) rfl rfl (hb hby d_jdk_42_method_92_code_35)
  have k8 : To p.tables e below S0 (T8.setTop (mkF m 38 #[.val (.ref a), .val (.int (2 : Int32)), .val (.int (2 : Int32)), .val (.int (3 : Int32)), .val (.int (0 : Int32))] [(.ref t)])) := fun tt hq => k7 tt (st8 tt hq)
  have k9 : To p.tables e below S0 (T8.setTop (mkF m 41 #[.val (.ref a), .val (.int (2 : Int32)), .val (.int (2 : Int32)), .val (.int (3 : Int32)), .val (.int (0 : Int32))] [(.int (0 : Int32)), (.int (2 : Int32)), (.ref t)])) := fun tt hq => k8 tt (by
    refine XS.iloadN X8.here hx rfl (hb hby d_jdk_42_method_92_code_38) rfl ?_
    refine XS.iload X8.here hx rfl (hb hby d_jdk_42_method_92_code_39) rfl ?_
    exact hq)
  obtain ⟨_, T10, L10, X10, ⟨a10, t10, k10x, rfl, Nq10, ya10, yt10, Kq10, P100, P101, P102, P103⟩, k10a, Cq10, hS10, hZ10, hown10⟩ := callSW X8 hx hZ (y := (⟨"java/lang/StringLatin1", "newString", "([BII)Ljava/lang/String;"⟩ : MethodName)) hown hS0 (by omega) (wq hw 138 rfl) (wq hw 139 rfl) (wq hw 140 rfl) (wq hw 141 rfl) (by decide) (backOfW (W := 0) (rm_ns0 l Z a0 hw t (2 : Int32) h0 n0 (by omega)) hZ (wq hw 141 rfl) (wq hw 140 rfl) (by decide) (by decide) (own_EW hw) C0.1 all0) e8 (argsL := [(.ref t), (.int (2 : Int32)), (.int (0 : Int32))]) (rest := []) rfl rfl pd_19 rfl (by rw [hml]; rfl) (hb hby d_jdk_42_method_92_code_41) (Nat.le_of_eq rfl) (by decide) (by decide) k9
  have k10 : To p.tables e below S0 (T10.setTop (mkF m 44 #[.val (.ref a), .val (.int (2 : Int32)), .val (.int (2 : Int32)), .val (.int (3 : Int32)), .val (.int (0 : Int32))] [(.ref a10)])) := k10a
  have N10 := N6.app Nq10
  obtain ⟨h10, e10⟩ : ∃ z, T10.heap = z := ⟨_, rfl⟩
  rw [e10] at Kq10 ya10 yt10 P100 P101 P102 P103 Cq10 hS10
  have z10 : h0.size ≤ h10.size := Kq10.1
  have C10 := C0.trans Cq10
  have k11 : To p.tables e below S0 (T10.setTop (mkF m 57 #[.val (.ref a), .val (.int (2 : Int32)), .val (.int (2 : Int32)), .val (.int (3 : Int32)), .val (.int (0 : Int32))] [(.ref a10)])) := fun tt hq => k10 tt (by
    refine XS.goto X10.here hx rfl (pc0 := 44) (pc' := 57) rfl (hb hby d_jdk_42_method_92_code_44) (by decide) (by decide) ?_
    exact hq)
  refine retRefW X10 hx hZ10 (own_EW hw) hS10 (by omega) C10 e10 hret hlk rfl rfl (hb hby d_jdk_42_method_92_code_57) k11 ?_ (by decide) (by decide)
  exact ⟨_, _, _, rfl, N10, P100.lt, P103.lt, ((Keep.refl h0 []).trans Kq10 all0), P100, P101, P102, P103⟩
set_option maxRecDepth 65536 in
set_option maxHeartbeats 40000000 in
theorem rm_tf2_2 (l : Launch) (Z : State) (a0 : Array Value) (hw : ∀ d ∈ tables_1, d.before a0 Z = true) (zc : Int32) (fm : Value) (r : Addr) (a : Addr) (t : Addr) (kt : ClassId) (c0 : Int32) (c1 : Int32) (c2 : Int32) (h0 : Heap) (n0 : Nat) (hn0 : n0 ≤ h0.size) (S_c : Sta Z Z.heap "java/lang/String" "COMPACT_STRINGS" "Z" (.int zc)) (hzc : ¬ zc = (0 : Int32)) (S_f : Sta Z Z.heap "jdk/internal/util/Preconditions" "SIOOBE_FORMATTER" "Ljava/util/function/BiFunction;" fm) (hfm : fm.isRef = true) (O0 : Old Z n0 h0) (Q0 : Fld Z h0 r "com/example/ceruline/ceruline/parsing/SourceReader" "text" "Ljava/lang/String;" (.ref a)) (Q1 : Fld Z h0 r "com/example/ceruline/ceruline/parsing/SourceReader" "offset" "I" (.int (2 : Int32))) (P0 : Exa Z h0 a "java/lang/String") (P1 : Fld Z h0 a "java/lang/String" "value" "[B" (.ref t)) (P2 : Fld Z h0 a "java/lang/String" "coder" "B" (.int (0 : Int32))) (P3 : Arv Z h0 t kt .byte (3 : Int32) [(.int c0), (.int c1), (.int c2)] (.int 0)) (yt : @LT.lt Nat instLTNat t h0.size) :
    ConW l Z own_EL (⟨"com/example/ceruline/ceruline/parsing/SourceReader", "textFrom", "(I)Ljava/lang/String;"⟩ : MethodName) prog_66_method_8_code 2 (some (.object "java/lang/String")) [] ({ frames := 3, cells := 2, slots := 4, locals := 45 } : Room) #[(.ref r), (.int (2 : Int32))] h0 [] (fun v h L => ∃ (b t : Addr) (k : ClassId), v = some (.ref b) ∧ Fr n0 L ∧ (@LT.lt Nat instLTNat b h.size) ∧ (@LT.lt Nat instLTNat t h.size) ∧ Keep h0 h [] ∧ Exa Z h b "java/lang/String" ∧ Fld Z h b "java/lang/String" "value" "[B" (.ref t) ∧ Fld Z h b "java/lang/String" "coder" "B" (.int (0 : Int32)) ∧ Arv Z h t k .byte (0 : Int32) [] (.int 0)) := by
  refine enterW (Ls := #[.val (.ref r), .val (.int (2 : Int32))]) (plainFor_of_name pn_7) (fun m => by exact entry_eq rfl) ?_
  intro p e s m below meth cd_ s₁ S0 vm0 hx hby hml hret hlk hnm hown hZ X0 e0 k0 C0 hsf hS0
  have N0 := Fr.nil n0
  have k1 : To p.tables e below S0 (s₁.setTop (mkF m 1 #[.val (.ref r), .val (.int (2 : Int32))] [(.ref r)])) := fun tt hq => k0 tt (by
    refine XS.aloadN X0.here hx rfl (hb hby d_prog_66_method_8_code_0) rfl rfl ?_
    exact hq)
  obtain ⟨T2, X2, e2, st2⟩ := getF X0 hx hZ hown (host := "") (Or.inl (wq hw 67 rfl)) Via.refl e0 Q0 (g := (mkF m 1 #[.val (.ref r), .val (.int (2 : Int32))] [(.ref r)])) rfl rfl (hb hby d_prog_66_method_8_code_1)
  have k2 : To p.tables e below S0 (T2.setTop (mkF m 4 #[.val (.ref r), .val (.int (2 : Int32))] [(.ref a)])) := fun tt hq => k1 tt (st2 tt hq)
  have k3 : To p.tables e below S0 (T2.setTop (mkF m 6 #[.val (.ref r), .val (.int (2 : Int32))] [(.ref r), (.int (2 : Int32)), (.ref a)])) := fun tt hq => k2 tt (by
    refine XS.iloadN X2.here hx rfl (hb hby d_prog_66_method_8_code_4) rfl ?_
    refine XS.aloadN X2.here hx rfl (hb hby d_prog_66_method_8_code_5) rfl rfl ?_
    exact hq)
  obtain ⟨T4, X4, e4, st4⟩ := getF X2 hx hZ hown (host := "") (Or.inl (wq hw 82 rfl)) Via.refl e2 Q1 (g := (mkF m 6 #[.val (.ref r), .val (.int (2 : Int32))] [(.ref r), (.int (2 : Int32)), (.ref a)])) rfl rfl (hb hby d_prog_66_method_8_code_6)
  have k4 : To p.tables e below S0 (T4.setTop (mkF m 9 #[.val (.ref r), .val (.int (2 : Int32))] [(.int (2 : Int32)), (.int (2 : Int32)), (.ref a)])) := fun tt hq => k3 tt (st4 tt hq)
  obtain ⟨_, T5, L5, X5, ⟨a5, t5, k5x, rfl, Nq5, ya5, yt5, Kq5, P50, P51, P52, P53⟩, k5a, Cq5, hS5, hZ5, hown5⟩ := callVW X4 hx hZ (y := (⟨"java/lang/String", "substring", "(II)Ljava/lang/String;"⟩ : MethodName)) (z := (⟨"java/lang/String", "substring", "(II)Ljava/lang/String;"⟩ : MethodName)) hown hS0 (by omega) (wq hw 117 rfl) (wq hw 118 rfl) (notFace_of_selects (args := #[]) (mvT hZ (wq hw 120 rfl))) (wq hw 120 rfl) (wq hw 119 rfl) (by decide) P0 (backOfW (W := 0) (rm_sub2_2 l Z a0 hw zc fm a t kt c0 c1 c2 h0 n0 (by omega) S_c hzc S_f hfm O0 P0 P1 P2 P3 (by omega)) hZ (wq hw 121 rfl) (wq hw 3 rfl) (by decide) (by decide) (own_EW hw) C0.1 all0) e4 (argsL := [(.int (2 : Int32)), (.int (2 : Int32))]) (rest := []) rfl rfl pd_20 rfl (by rw [hml]; rfl) (hb hby d_prog_66_method_8_code_9) (Nat.le_of_eq rfl) (by decide) (by decide) k4
  have k5 : To p.tables e below S0 (T5.setTop (mkF m 12 #[.val (.ref r), .val (.int (2 : Int32))] [(.ref a5)])) := k5a
  have N5 := N0.app Nq5
  obtain ⟨h5, e5⟩ : ∃ z, T5.heap = z := ⟨_, rfl⟩
  rw [e5] at Kq5 ya5 yt5 P50 P51 P52 P53 Cq5 hS5
  have z5 : h0.size ≤ h5.size := Kq5.1
  have C5 := C0.trans Cq5
  refine retRefW X5 hx hZ5 (own_EW hw) hS5 (by omega) C5 e5 hret hlk rfl rfl (hb hby d_prog_66_method_8_code_12) k5 ?_ (by decide) (by decide)
  exact ⟨_, _, _, rfl, N5, P50.lt, P53.lt, ((Keep.refl h0 []).trans Kq5 all0), P50, P51, P52, P53⟩
set_option maxRecDepth 65536 in
set_option maxHeartbeats 40000000 in
theorem rm_adv2 (l : Launch) (Z : State) (a0 : Array Value) (hw : ∀ d ∈ tables_1, d.before a0 Z = true) (zc : Int32) (fm : Value) (r : Addr) (so : Addr) (a : Addr) (t : Addr) (kt : ClassId) (c0 : Int32) (c1 : Int32) (c2 : Int32) (xl : Int32) (xc : Int32) (h0 : Heap) (n0 : Nat) (hn0 : n0 ≤ h0.size) (S_c : Sta Z Z.heap "java/lang/String" "COMPACT_STRINGS" "Z" (.int zc)) (hzc : ¬ zc = (0 : Int32)) (S_f : Sta Z Z.heap "jdk/internal/util/Preconditions" "SIOOBE_FORMATTER" "Ljava/util/function/BiFunction;" fm) (hfm : fm.isRef = true) (O0 : Old Z n0 h0) (P0 : Exa Z h0 r "com/example/ceruline/ceruline/parsing/SourceReader") (P1 : Fld Z h0 r "com/example/ceruline/ceruline/parsing/SourceReader" "source" "Lcom/example/ceruline/ceruline/source/SourceFile;" (.ref so)) (P2 : Fld Z h0 r "com/example/ceruline/ceruline/parsing/SourceReader" "text" "Ljava/lang/String;" (.ref a)) (P3 : Fld Z h0 r "com/example/ceruline/ceruline/parsing/SourceReader" "offset" "I" (.int (2 : Int32))) (P4 : Fld Z h0 r "com/example/ceruline/ceruline/parsing/SourceReader" "line" "I" (.int xl)) (P5 : Fld Z h0 r "com/example/ceruline/ceruline/parsing/SourceReader" "column" "I" (.int xc)) (R0 : Exa Z h0 a "java/lang/String") (R1 : Fld Z h0 a "java/lang/String" "value" "[B" (.ref t)) (R2 : Fld Z h0 a "java/lang/String" "coder" "B" (.int (0 : Int32))) (R3 : Arv Z h0 t kt .byte (3 : Int32) [(.int c0), (.int c1), (.int c2)] (.int 0)) (ga : n0 ≤ r) (nra : ¬ (@Eq Nat a r)) (nrt : ¬ (@Eq Nat t r)) :
    Con l Z (⟨"com/example/ceruline/ceruline/parsing/SourceReader", "advance", "()V"⟩ : MethodName) prog_66_method_4_code 2 none [] ({ frames := 3, cells := 0, slots := 0, locals := 41 } : Room) #[(.ref r)] h0 (fun v h L => ∃ (y1 y2 : Int32), v = none ∧ Fr n0 L ∧ Keep h0 h [r] ∧ Exa Z h r "com/example/ceruline/ceruline/parsing/SourceReader" ∧ Fld Z h r "com/example/ceruline/ceruline/parsing/SourceReader" "source" "Lcom/example/ceruline/ceruline/source/SourceFile;" (.ref so) ∧ Fld Z h r "com/example/ceruline/ceruline/parsing/SourceReader" "text" "Ljava/lang/String;" (.ref a) ∧ Fld Z h r "com/example/ceruline/ceruline/parsing/SourceReader" "offset" "I" (.int (3 : Int32)) ∧ Fld Z h r "com/example/ceruline/ceruline/parsing/SourceReader" "line" "I" (.int y1) ∧ Fld Z h r "com/example/ceruline/ceruline/parsing/SourceReader" "column" "I" (.int y2)) := by
  refine enter (Ls := #[.val (.ref r), .unset]) (plainFor_of_name pn_7) (fun m => by exact entry_eq rfl) ?_
  intro p e s m below meth cd_ s₁ S0 hx hby hml hret hlk hnm hown hZ X0 e0 k0
  have N0 := Fr.nil n0
  have k1 : To p.tables e below S0 (s₁.setTop (mkF m 1 #[.val (.ref r), .unset] [(.ref r)])) := fun tt hq => k0 tt (by
    refine XS.aloadN X0.here hx rfl (hb hby d_prog_66_method_4_code_0) rfl rfl ?_
    exact hq)
  obtain ⟨T2, X2, e2, st2⟩ := getF X0 hx hZ hown (host := "") (Or.inl (wq hw 67 rfl)) Via.refl e0 P2 (g := (mkF m 1 #[.val (.ref r), .unset] [(.ref r)])) rfl rfl (hb hby d_prog_66_method_4_code_1)
  have k2 : To p.tables e below S0 (T2.setTop (mkF m 4 #[.val (.ref r), .unset] [(.ref a)])) := fun tt hq => k1 tt (st2 tt hq)
  have k3 : To p.tables e below S0 (T2.setTop (mkF m 5 #[.val (.ref r), .unset] [(.ref r), (.ref a)])) := fun tt hq => k2 tt (by
    refine XS.aloadN X2.here hx rfl (hb hby d_prog_66_method_4_code_4) rfl rfl ?_
    exact hq)
  obtain ⟨T4, X4, e4, st4⟩ := getF X2 hx hZ hown (host := "") (Or.inl (wq hw 82 rfl)) Via.refl e2 P3 (g := (mkF m 5 #[.val (.ref r), .unset] [(.ref r), (.ref a)])) rfl rfl (hb hby d_prog_66_method_4_code_5)
  have k4 : To p.tables e below S0 (T4.setTop (mkF m 8 #[.val (.ref r), .unset] [(.int (2 : Int32)), (.ref a)])) := fun tt hq => k3 tt (st4 tt hq)
  obtain ⟨_, T5, L5, X5, ⟨rfl, Nq5, eq5⟩, k5a⟩ := callV' X4 hx hZ (y := (⟨"java/lang/String", "codePointAt", "(I)I"⟩ : MethodName)) (z := (⟨"java/lang/String", "codePointAt", "(I)I"⟩ : MethodName)) hown (wq hw 84 rfl) (wq hw 85 rfl) (notFace_of_selects (args := #[]) (mvT hZ (wq hw 87 rfl))) (wq hw 87 rfl) (wq hw 86 rfl) (by decide) R0 (backC (W := 0) (rm_cp3_2 l Z a0 hw zc fm a t kt c0 c1 c2 h0 n0 (by omega) S_c hzc S_f hfm O0 R0 R1 R2 R3) hZ (wq hw 88 rfl) (wq hw 3 rfl) (by decide) (by decide)) e4 (argsL := [(.int (2 : Int32))]) (rest := []) rfl rfl pd_22 rfl (by rw [hml]; rfl) (hb hby d_prog_66_method_4_code_8) (Nat.le_of_eq rfl) (by decide) (by decide) k4
  have k5 : To p.tables e below S0 (T5.setTop (mkF m 11 #[.val (.ref r), .unset] [(.int (c2 &&& (255 : Int32)))])) := k5a
  have N5 := N0.app Nq5
  have e5 : T5.heap = h0 := eq5
  have k6 : To p.tables e below S0 (T5.setTop (mkF m 14 #[.val (.ref r), .val (.int (c2 &&& (255 : Int32)))] [(.ref r), (.ref r)])) := fun tt hq => k5 tt (by
    refine XS.istoreN X5.here hx rfl (hb hby d_prog_66_method_4_code_11) rfl (l' := #[.val (.ref r), .val (.int (c2 &&& (255 : Int32)))]) rfl ?_
    refine XS.aloadN X5.here hx rfl (hb hby d_prog_66_method_4_code_12) rfl rfl ?_
    refine XS.dup X5.here hx rfl (hb hby d_prog_66_method_4_code_13) rfl rfl ?_
    exact hq)
  obtain ⟨T7, X7, e7, st7⟩ := getF X5 hx hZ hown (host := "") (Or.inl (wq hw 82 rfl)) Via.refl e5 P3 (g := (mkF m 14 #[.val (.ref r), .val (.int (c2 &&& (255 : Int32)))] [(.ref r), (.ref r)])) rfl rfl (hb hby d_prog_66_method_4_code_14)
  have k7 : To p.tables e below S0 (T7.setTop (mkF m 17 #[.val (.ref r), .val (.int (c2 &&& (255 : Int32)))] [(.int (2 : Int32)), (.ref r)])) := fun tt hq => k6 tt (st7 tt hq)
  have k8 : To p.tables e below S0 (T7.setTop (mkF m 18 #[.val (.ref r), .val (.int (c2 &&& (255 : Int32)))] [(.int (c2 &&& (255 : Int32))), (.int (2 : Int32)), (.ref r)])) := fun tt hq => k7 tt (by
    refine XS.iloadN X7.here hx rfl (hb hby d_prog_66_method_4_code_17) rfl ?_
    exact hq)
  obtain ⟨_, T9, L9, X9, ⟨rfl, Nq9, eq9⟩, k9a⟩ := callS' X7 hx hZ (y := (⟨"java/lang/Character", "charCount", "(I)I"⟩ : MethodName)) hown (wq hw 102 rfl) (wq hw 103 rfl) (wq hw 104 rfl) (wq hw 105 rfl) (by decide) (backC (W := 2) (rm_cc l Z a0 hw (c2 &&& (255 : Int32)) h0 n0 (by omega) (own_small _)) hZ (wq hw 105 rfl) (wq hw 104 rfl) (by decide) (by decide)) e7 (argsL := [(.int (c2 &&& (255 : Int32)))]) (rest := [(.int (2 : Int32)), (.ref r)]) rfl rfl pd_22 rfl (by rw [hml]; rfl) (hb hby d_prog_66_method_4_code_18) (Nat.le_of_eq rfl) (by decide) (by decide) k8
  have k9 : To p.tables e below S0 (T9.setTop (mkF m 21 #[.val (.ref r), .val (.int (c2 &&& (255 : Int32)))] [(.int (1 : Int32)), (.int (2 : Int32)), (.ref r)])) := k9a
  have N9 := N5.app Nq9
  have e9 : T9.heap = h0 := eq9
  have k10 : To p.tables e below S0 (T9.setTop (mkF m 22 #[.val (.ref r), .val (.int (c2 &&& (255 : Int32)))] [(.int (3 : Int32)), (.ref r)])) := fun tt hq => k9 tt (by
    refine XS.iadd X9.here hx rfl (hb hby d_prog_66_method_4_code_21) rfl ?_
    exact hq)
  obtain ⟨T11, h11, X11, e11, W11, st11⟩ := putF X9 hx hZ hown (host := "") (Or.inl (wq hw 82 rfl)) Via.refl e9 P3 P0 (Or.inl (wq hw 83 rfl)) (wq hw 31 rfl) (ty := .int) (by decide) rfl rfl (g := (mkF m 22 #[.val (.ref r), .val (.int (c2 &&& (255 : Int32)))] [(.int (3 : Int32)), (.ref r)])) rfl rfl (hb hby d_prog_66_method_4_code_22)
  have k11 : To p.tables e below S0 (T11.setTop (mkF m 25 #[.val (.ref r), .val (.int (c2 &&& (255 : Int32)))] [])) := fun tt hq => k10 tt (st11 tt hq)
  have z11 : h11.size = h0.size := W11.size
  have F11 := P3.same W11
  have N11 := Fr.snoc X11 N9 (by omega : n0 ≤ r)
  have k12 : To p.tables e below S0 (T11.setTop (mkF m 28 #[.val (.ref r), .val (.int (c2 &&& (255 : Int32)))] [(.int (10 : Int32)), (.int (c2 &&& (255 : Int32)))])) := fun tt hq => k11 tt (by
    refine XS.iloadN X11.here hx rfl (hb hby d_prog_66_method_4_code_25) rfl ?_
    refine XS.bipush X11.here hx rfl (hb hby d_prog_66_method_4_code_26) ?_
    exact hq)
  by_cases hc28_13 : (c2 &&& (255 : Int32)) = (10 : Int32)
  · -- pc 28, holds
    have f14 : Fld Z h11 r "com/example/ceruline/ceruline/parsing/SourceReader" "line" "I" (.int xl) := (P4.other W11 (Or.inr (slot_ne (Or.inl (wq hw 57 rfl)) (Or.inl (wq hw 83 rfl)) (by decide) (t := .int) (t' := .int) (by decide) (by decide))))
    have k15 : To p.tables e below S0 (T11.setTop (mkF m 33 #[.val (.ref r), .val (.int (c2 &&& (255 : Int32)))] [(.ref r), (.ref r)])) := fun tt hq => k12 tt (by
      refine XS.icmpNo X11.here hx rfl (hb hby d_prog_66_method_4_code_28) rfl (teq hc28_13).2 ?_
      refine XS.aloadN X11.here hx rfl (hb hby d_prog_66_method_4_code_31) rfl rfl ?_
      refine XS.dup X11.here hx rfl (hb hby d_prog_66_method_4_code_32) rfl rfl ?_
      exact hq)
    obtain ⟨T16, X16, e16, st16⟩ := getF X11 hx hZ hown (host := "") (Or.inl (wq hw 56 rfl)) Via.refl e11 f14 (g := (mkF m 33 #[.val (.ref r), .val (.int (c2 &&& (255 : Int32)))] [(.ref r), (.ref r)])) rfl rfl (hb hby d_prog_66_method_4_code_33)
    have k16 : To p.tables e below S0 (T16.setTop (mkF m 36 #[.val (.ref r), .val (.int (c2 &&& (255 : Int32)))] [(.int xl), (.ref r)])) := fun tt hq => k15 tt (st16 tt hq)
    have f17 : Exa Z h11 r "com/example/ceruline/ceruline/parsing/SourceReader" := (P0.wr W11)
    have k18 : To p.tables e below S0 (T16.setTop (mkF m 38 #[.val (.ref r), .val (.int (c2 &&& (255 : Int32)))] [(.int (xl + (1 : Int32))), (.ref r)])) := fun tt hq => k16 tt (by
      refine XS.iconst X16.here hx rfl (hb hby d_prog_66_method_4_code_36) ?_
      refine XS.iadd X16.here hx rfl (hb hby d_prog_66_method_4_code_37) rfl ?_
      exact hq)
    obtain ⟨T19, h19, X19, e19, W19, st19⟩ := putF X16 hx hZ hown (host := "") (Or.inl (wq hw 56 rfl)) Via.refl e16 f14 f17 (Or.inl (wq hw 57 rfl)) (wq hw 31 rfl) (ty := .int) (by decide) rfl rfl (g := (mkF m 38 #[.val (.ref r), .val (.int (c2 &&& (255 : Int32)))] [(.int (xl + (1 : Int32))), (.ref r)])) rfl rfl (hb hby d_prog_66_method_4_code_38)
    have k19 : To p.tables e below S0 (T19.setTop (mkF m 41 #[.val (.ref r), .val (.int (c2 &&& (255 : Int32)))] [])) := fun tt hq => k18 tt (st19 tt hq)
    have z19 : h19.size = h11.size := W19.size
    have F19 := f14.same W19
    have N19 := Fr.snoc X19 N11 (by omega : n0 ≤ r)
    have f20 : Exa Z h19 r "com/example/ceruline/ceruline/parsing/SourceReader" := (f17.wr W19)
    have f21 : Fld Z h19 r "com/example/ceruline/ceruline/parsing/SourceReader" "column" "I" (.int xc) := ((P5.other W11 (Or.inr (slot_ne (Or.inl (wq hw 59 rfl)) (Or.inl (wq hw 83 rfl)) (by decide) (t := .int) (t' := .int) (by decide) (by decide)))).other W19 (Or.inr (slot_ne (Or.inl (wq hw 59 rfl)) (Or.inl (wq hw 57 rfl)) (by decide) (t := .int) (t' := .int) (by decide) (by decide))))
    have k22 : To p.tables e below S0 (T19.setTop (mkF m 43 #[.val (.ref r), .val (.int (c2 &&& (255 : Int32)))] [(.int (1 : Int32)), (.ref r)])) := fun tt hq => k19 tt (by
      refine XS.aloadN X19.here hx rfl (hb hby d_prog_66_method_4_code_41) rfl rfl ?_
      refine XS.iconst X19.here hx rfl (hb hby d_prog_66_method_4_code_42) ?_
      exact hq)
    obtain ⟨T23, h23, X23, e23, W23, st23⟩ := putF X19 hx hZ hown (host := "") (Or.inl (wq hw 58 rfl)) Via.refl e19 f21 f20 (Or.inl (wq hw 59 rfl)) (wq hw 31 rfl) (ty := .int) (by decide) rfl rfl (g := (mkF m 43 #[.val (.ref r), .val (.int (c2 &&& (255 : Int32)))] [(.int (1 : Int32)), (.ref r)])) rfl rfl (hb hby d_prog_66_method_4_code_43)
    have k23 : To p.tables e below S0 (T23.setTop (mkF m 46 #[.val (.ref r), .val (.int (c2 &&& (255 : Int32)))] [])) := fun tt hq => k22 tt (st23 tt hq)
    have z23 : h23.size = h19.size := W23.size
    have F23 := f21.same W23
    have N23 := Fr.snoc X23 N19 (by omega : n0 ≤ r)
    have k24 : To p.tables e below S0 (T23.setTop (mkF m 59 #[.val (.ref r), .val (.int (c2 &&& (255 : Int32)))] [])) := fun tt hq => k23 tt (by
      refine XS.goto X23.here hx rfl (pc0 := 46) (pc' := 59) rfl (hb hby d_prog_66_method_4_code_46) (by decide) (by decide) ?_
      exact hq)
    have f25 : Exa Z h23 r "com/example/ceruline/ceruline/parsing/SourceReader" := (f20.wr W23)
    have f26 : Fld Z h23 r "com/example/ceruline/ceruline/parsing/SourceReader" "source" "Lcom/example/ceruline/ceruline/source/SourceFile;" (.ref so) := (((P1.other W11 (Or.inr (slot_ne (Or.inr (wq hw 61 rfl)) (Or.inl (wq hw 83 rfl)) (by decide) (t := (.object "com/example/ceruline/ceruline/source/SourceFile")) (t' := .int) (by decide) (by decide)))).other W19 (Or.inr (slot_ne (Or.inr (wq hw 61 rfl)) (Or.inl (wq hw 57 rfl)) (by decide) (t := (.object "com/example/ceruline/ceruline/source/SourceFile")) (t' := .int) (by decide) (by decide)))).other W23 (Or.inr (slot_ne (Or.inr (wq hw 61 rfl)) (Or.inl (wq hw 59 rfl)) (by decide) (t := (.object "com/example/ceruline/ceruline/source/SourceFile")) (t' := .int) (by decide) (by decide))))
    have f27 : Fld Z h23 r "com/example/ceruline/ceruline/parsing/SourceReader" "text" "Ljava/lang/String;" (.ref a) := (((P2.other W11 (Or.inr (slot_ne (Or.inr (wq hw 68 rfl)) (Or.inl (wq hw 83 rfl)) (by decide) (t := (.object "java/lang/String")) (t' := .int) (by decide) (by decide)))).other W19 (Or.inr (slot_ne (Or.inr (wq hw 68 rfl)) (Or.inl (wq hw 57 rfl)) (by decide) (t := (.object "java/lang/String")) (t' := .int) (by decide) (by decide)))).other W23 (Or.inr (slot_ne (Or.inr (wq hw 68 rfl)) (Or.inl (wq hw 59 rfl)) (by decide) (t := (.object "java/lang/String")) (t' := .int) (by decide) (by decide))))
    have f28 : Fld Z h23 r "com/example/ceruline/ceruline/parsing/SourceReader" "offset" "I" (.int (3 : Int32)) := ((F11.other W19 (Or.inr (slot_ne (Or.inl (wq hw 83 rfl)) (Or.inl (wq hw 57 rfl)) (by decide) (t := .int) (t' := .int) (by decide) (by decide)))).other W23 (Or.inr (slot_ne (Or.inl (wq hw 83 rfl)) (Or.inl (wq hw 59 rfl)) (by decide) (t := .int) (t' := .int) (by decide) (by decide))))
    have f29 : Fld Z h23 r "com/example/ceruline/ceruline/parsing/SourceReader" "line" "I" (.int (xl + (1 : Int32))) := (F19.other W23 (Or.inr (slot_ne (Or.inl (wq hw 57 rfl)) (Or.inl (wq hw 59 rfl)) (by decide) (t := .int) (t' := .int) (by decide) (by decide))))
    have hE := e23
    refine retVoid X23 hx hret hlk (hb hby d_prog_66_method_4_code_59) k24 ?_ (by decide) (by decide)
    try rw [hE]
    exact ⟨_, _, rfl, N23, ((((Keep.refl h0 [r]).wr W11 (Or.inl (by simp))).wr W19 (Or.inl (by simp))).wr W23 (Or.inl (by simp))), f25, f26, f27, f28, f29, F23⟩
  · -- pc 28, holds not
    have f30 : Fld Z h11 r "com/example/ceruline/ceruline/parsing/SourceReader" "column" "I" (.int xc) := (P5.other W11 (Or.inr (slot_ne (Or.inl (wq hw 59 rfl)) (Or.inl (wq hw 83 rfl)) (by decide) (t := .int) (t' := .int) (by decide) (by decide))))
    have k31 : To p.tables e below S0 (T11.setTop (mkF m 51 #[.val (.ref r), .val (.int (c2 &&& (255 : Int32)))] [(.ref r), (.ref r)])) := fun tt hq => k12 tt (by
      refine XS.icmpYes X11.here hx rfl (pc0 := 28) (pc' := 49) rfl (hb hby d_prog_66_method_4_code_28) rfl (feq hc28_13).2 (by decide) (by decide) ?_
      refine XS.aloadN X11.here hx rfl (hb hby d_prog_66_method_4_code_49) rfl rfl ?_
      refine XS.dup X11.here hx rfl (hb hby d_prog_66_method_4_code_50) rfl rfl ?_
      exact hq)
    obtain ⟨T32, X32, e32, st32⟩ := getF X11 hx hZ hown (host := "") (Or.inl (wq hw 58 rfl)) Via.refl e11 f30 (g := (mkF m 51 #[.val (.ref r), .val (.int (c2 &&& (255 : Int32)))] [(.ref r), (.ref r)])) rfl rfl (hb hby d_prog_66_method_4_code_51)
    have k32 : To p.tables e below S0 (T32.setTop (mkF m 54 #[.val (.ref r), .val (.int (c2 &&& (255 : Int32)))] [(.int xc), (.ref r)])) := fun tt hq => k31 tt (st32 tt hq)
    have f33 : Exa Z h11 r "com/example/ceruline/ceruline/parsing/SourceReader" := (P0.wr W11)
    have k34 : To p.tables e below S0 (T32.setTop (mkF m 56 #[.val (.ref r), .val (.int (c2 &&& (255 : Int32)))] [(.int (xc + (1 : Int32))), (.ref r)])) := fun tt hq => k32 tt (by
      refine XS.iconst X32.here hx rfl (hb hby d_prog_66_method_4_code_54) ?_
      refine XS.iadd X32.here hx rfl (hb hby d_prog_66_method_4_code_55) rfl ?_
      exact hq)
    obtain ⟨T35, h35, X35, e35, W35, st35⟩ := putF X32 hx hZ hown (host := "") (Or.inl (wq hw 58 rfl)) Via.refl e32 f30 f33 (Or.inl (wq hw 59 rfl)) (wq hw 31 rfl) (ty := .int) (by decide) rfl rfl (g := (mkF m 56 #[.val (.ref r), .val (.int (c2 &&& (255 : Int32)))] [(.int (xc + (1 : Int32))), (.ref r)])) rfl rfl (hb hby d_prog_66_method_4_code_56)
    have k35 : To p.tables e below S0 (T35.setTop (mkF m 59 #[.val (.ref r), .val (.int (c2 &&& (255 : Int32)))] [])) := fun tt hq => k34 tt (st35 tt hq)
    have z35 : h35.size = h11.size := W35.size
    have F35 := f30.same W35
    have N35 := Fr.snoc X35 N11 (by omega : n0 ≤ r)
    have f36 : Exa Z h35 r "com/example/ceruline/ceruline/parsing/SourceReader" := (f33.wr W35)
    have f37 : Fld Z h35 r "com/example/ceruline/ceruline/parsing/SourceReader" "source" "Lcom/example/ceruline/ceruline/source/SourceFile;" (.ref so) := ((P1.other W11 (Or.inr (slot_ne (Or.inr (wq hw 61 rfl)) (Or.inl (wq hw 83 rfl)) (by decide) (t := (.object "com/example/ceruline/ceruline/source/SourceFile")) (t' := .int) (by decide) (by decide)))).other W35 (Or.inr (slot_ne (Or.inr (wq hw 61 rfl)) (Or.inl (wq hw 59 rfl)) (by decide) (t := (.object "com/example/ceruline/ceruline/source/SourceFile")) (t' := .int) (by decide) (by decide))))
    have f38 : Fld Z h35 r "com/example/ceruline/ceruline/parsing/SourceReader" "text" "Ljava/lang/String;" (.ref a) := ((P2.other W11 (Or.inr (slot_ne (Or.inr (wq hw 68 rfl)) (Or.inl (wq hw 83 rfl)) (by decide) (t := (.object "java/lang/String")) (t' := .int) (by decide) (by decide)))).other W35 (Or.inr (slot_ne (Or.inr (wq hw 68 rfl)) (Or.inl (wq hw 59 rfl)) (by decide) (t := (.object "java/lang/String")) (t' := .int) (by decide) (by decide))))
    have f39 : Fld Z h35 r "com/example/ceruline/ceruline/parsing/SourceReader" "offset" "I" (.int (3 : Int32)) := (F11.other W35 (Or.inr (slot_ne (Or.inl (wq hw 83 rfl)) (Or.inl (wq hw 59 rfl)) (by decide) (t := .int) (t' := .int) (by decide) (by decide))))
    have f40 : Fld Z h35 r "com/example/ceruline/ceruline/parsing/SourceReader" "line" "I" (.int xl) := ((P4.other W11 (Or.inr (slot_ne (Or.inl (wq hw 57 rfl)) (Or.inl (wq hw 83 rfl)) (by decide) (t := .int) (t' := .int) (by decide) (by decide)))).other W35 (Or.inr (slot_ne (Or.inl (wq hw 57 rfl)) (Or.inl (wq hw 59 rfl)) (by decide) (t := .int) (t' := .int) (by decide) (by decide))))
    have hE := e35
    refine retVoid X35 hx hret hlk (hb hby d_prog_66_method_4_code_59) k35 ?_ (by decide) (by decide)
    try rw [hE]
    exact ⟨_, _, rfl, N35, (((Keep.refl h0 [r]).wr W11 (Or.inl (by simp))).wr W35 (Or.inl (by simp))), f36, f37, f38, f39, f40, F35⟩
set_option maxRecDepth 65536 in
set_option maxHeartbeats 40000000 in
theorem rm_st0_3 (l : Launch) (Z : State) (a0 : Array Value) (hw : ∀ d ∈ tables_1, d.before a0 Z = true) (zc : Int32) (fm : Value) (r : Addr) (so : Addr) (a : Addr) (t : Addr) (kt : ClassId) (c0 : Int32) (c1 : Int32) (c2 : Int32) (xl : Int32) (xc : Int32) (h0 : Heap) (n0 : Nat) (hn0 : n0 ≤ h0.size) (S_c : Sta Z Z.heap "java/lang/String" "COMPACT_STRINGS" "Z" (.int zc)) (hzc : ¬ zc = (0 : Int32)) (S_f : Sta Z Z.heap "jdk/internal/util/Preconditions" "SIOOBE_FORMATTER" "Ljava/util/function/BiFunction;" fm) (hfm : fm.isRef = true) (O0 : Old Z n0 h0) (P0 : Exa Z h0 r "com/example/ceruline/ceruline/parsing/SourceReader") (P1 : Fld Z h0 r "com/example/ceruline/ceruline/parsing/SourceReader" "source" "Lcom/example/ceruline/ceruline/source/SourceFile;" (.ref so)) (P2 : Fld Z h0 r "com/example/ceruline/ceruline/parsing/SourceReader" "text" "Ljava/lang/String;" (.ref a)) (P3 : Fld Z h0 r "com/example/ceruline/ceruline/parsing/SourceReader" "offset" "I" (.int (0 : Int32))) (P4 : Fld Z h0 r "com/example/ceruline/ceruline/parsing/SourceReader" "line" "I" (.int xl)) (P5 : Fld Z h0 r "com/example/ceruline/ceruline/parsing/SourceReader" "column" "I" (.int xc)) (R0 : Exa Z h0 a "java/lang/String") (R1 : Fld Z h0 a "java/lang/String" "value" "[B" (.ref t)) (R2 : Fld Z h0 a "java/lang/String" "coder" "B" (.int (0 : Int32))) (R3 : Arv Z h0 t kt .byte (3 : Int32) [(.int c0), (.int c1), (.int c2)] (.int 0)) (ga : n0 ≤ r) (nra : ¬ (@Eq Nat a r)) (nrt : ¬ (@Eq Nat t r)) :
    Con l Z (⟨"com/example/ceruline/ceruline/parsing/SourceReaderTextFromPinLaw", "steps", "(Lcom/example/ceruline/ceruline/parsing/SourceReader;I)V"⟩ : MethodName) method_2_code 2 none [] ({ frames := 4, cells := 0, slots := 0, locals := 54 } : Room) #[(.ref r), (.int (3 : Int32))] h0 (fun v h L => ∃ (y1 y2 : Int32), v = none ∧ Fr n0 L ∧ Keep h0 h [r] ∧ Exa Z h r "com/example/ceruline/ceruline/parsing/SourceReader" ∧ Fld Z h r "com/example/ceruline/ceruline/parsing/SourceReader" "source" "Lcom/example/ceruline/ceruline/source/SourceFile;" (.ref so) ∧ Fld Z h r "com/example/ceruline/ceruline/parsing/SourceReader" "text" "Ljava/lang/String;" (.ref a) ∧ Fld Z h r "com/example/ceruline/ceruline/parsing/SourceReader" "offset" "I" (.int (3 : Int32)) ∧ Fld Z h r "com/example/ceruline/ceruline/parsing/SourceReader" "line" "I" (.int y1) ∧ Fld Z h r "com/example/ceruline/ceruline/parsing/SourceReader" "column" "I" (.int y2)) := by
  refine enter (Ls := #[.val (.ref r), .val (.int (3 : Int32))]) (plainFor_of_name pn_9) (fun m => by exact entry_eq rfl) ?_
  intro p e s m below meth cd_ s₁ S0 hx hby hml hret hlk hnm hown hZ X0 e0 k0
  have N0 := Fr.nil n0
  have k1 : To p.tables e below S0 (s₁.setTop (mkF m 6 #[.val (.ref r), .val (.int (3 : Int32))] [(.ref r)])) := fun tt hq => k0 tt (by
    refine XS.iloadN X0.here hx rfl (hb hby d_method_2_code_0) rfl ?_
    refine XS.iconst X0.here hx rfl (hb hby d_method_2_code_1) ?_
    refine XS.icmpNo X0.here hx rfl (hb hby d_method_2_code_2) rfl (flt (by decide)).1 ?_
    refine XS.aloadN X0.here hx rfl (hb hby d_method_2_code_5) rfl rfl ?_
    exact hq)
  obtain ⟨_, T2, L2, X2, ⟨x2, y2x, rfl, Nq2, Kq2, P2_0, P2_1, P2_2, P2_3, P2_4, P2_5⟩, k2a⟩ := callV' X0 hx hZ (y := (⟨"com/example/ceruline/ceruline/parsing/SourceReader", "advance", "()V"⟩ : MethodName)) (z := (⟨"com/example/ceruline/ceruline/parsing/SourceReader", "advance", "()V"⟩ : MethodName)) hown (wq hw 77 rfl) (wq hw 78 rfl) (notFace_of_selects (args := #[]) (mvT hZ (wq hw 80 rfl))) (wq hw 80 rfl) (wq hw 79 rfl) (by decide) P0 (backC (W := 0) (rm_adv0 l Z a0 hw zc fm r so a t kt c0 c1 c2 xl xc h0 n0 (by omega) S_c hzc S_f hfm O0 P0 P1 P2 P3 P4 P5 R0 R1 R2 R3 (by omega) (by omega) (by omega)) hZ (wq hw 81 rfl) (wq hw 32 rfl) (by decide) (by decide)) e0 (argsL := []) (rest := []) rfl rfl pd_9 rfl (by rw [hml]; rfl) (hb hby d_method_2_code_6) (Nat.le_of_eq rfl) (by decide) (by decide) k1
  have k2 : To p.tables e below S0 (T2.setTop (mkF m 9 #[.val (.ref r), .val (.int (3 : Int32))] [])) := k2a
  have N2 := N0.app Nq2
  obtain ⟨h2, e2⟩ : ∃ z, T2.heap = z := ⟨_, rfl⟩
  rw [e2] at Kq2 P2_0 P2_1 P2_2 P2_3 P2_4 P2_5
  have z2 : h0.size ≤ h2.size := Kq2.1
  have k3 : To p.tables e below S0 (T2.setTop (mkF m 15 #[.val (.ref r), .val (.int (3 : Int32))] [(.ref r)])) := fun tt hq => k2 tt (by
    refine XS.iloadN X2.here hx rfl (hb hby d_method_2_code_9) rfl ?_
    refine XS.iconst X2.here hx rfl (hb hby d_method_2_code_10) ?_
    refine XS.icmpNo X2.here hx rfl (hb hby d_method_2_code_11) rfl (flt (by decide)).1 ?_
    refine XS.aloadN X2.here hx rfl (hb hby d_method_2_code_14) rfl rfl ?_
    exact hq)
  have f4 : Old Z n0 h2 := (O0.keep Kq2 (allS (by omega) all0))
  have f5 : Exa Z h2 a "java/lang/String" := (R0.keep Kq2)
  have f6 : Fld Z h2 a "java/lang/String" "value" "[B" (.ref t) := (R1.keep Kq2 (nin1 (by omega)))
  have f7 : Fld Z h2 a "java/lang/String" "coder" "B" (.int (0 : Int32)) := (R2.keep Kq2 (nin1 (by omega)))
  have f8 : Arv Z h2 t kt .byte (3 : Int32) [(.int c0), (.int c1), (.int c2)] (.int 0) := (R3.keep Kq2 (nin1 (by omega)))
  obtain ⟨_, T9, L9, X9, ⟨x9, y9x, rfl, Nq9, Kq9, P9_0, P9_1, P9_2, P9_3, P9_4, P9_5⟩, k9a⟩ := callV' X2 hx hZ (y := (⟨"com/example/ceruline/ceruline/parsing/SourceReader", "advance", "()V"⟩ : MethodName)) (z := (⟨"com/example/ceruline/ceruline/parsing/SourceReader", "advance", "()V"⟩ : MethodName)) hown (wq hw 77 rfl) (wq hw 78 rfl) (notFace_of_selects (args := #[]) (mvT hZ (wq hw 80 rfl))) (wq hw 80 rfl) (wq hw 79 rfl) (by decide) P2_0 (backC (W := 0) (rm_adv1 l Z a0 hw zc fm r so a t kt c0 c1 c2 x2 y2x h2 n0 (by omega) S_c hzc S_f hfm f4 P2_0 P2_1 P2_2 P2_3 P2_4 P2_5 f5 f6 f7 f8 (by omega) (by omega) (by omega)) hZ (wq hw 81 rfl) (wq hw 32 rfl) (by decide) (by decide)) e2 (argsL := []) (rest := []) rfl rfl pd_9 rfl (by rw [hml]; rfl) (hb hby d_method_2_code_15) (Nat.le_of_eq rfl) (by decide) (by decide) k3
  have k9 : To p.tables e below S0 (T9.setTop (mkF m 18 #[.val (.ref r), .val (.int (3 : Int32))] [])) := k9a
  have N9 := N2.app Nq9
  obtain ⟨h9, e9⟩ : ∃ z, T9.heap = z := ⟨_, rfl⟩
  rw [e9] at Kq9 P9_0 P9_1 P9_2 P9_3 P9_4 P9_5
  have z9 : h2.size ≤ h9.size := Kq9.1
  have k10 : To p.tables e below S0 (T9.setTop (mkF m 24 #[.val (.ref r), .val (.int (3 : Int32))] [(.ref r)])) := fun tt hq => k9 tt (by
    refine XS.iloadN X9.here hx rfl (hb hby d_method_2_code_18) rfl ?_
    refine XS.iconst X9.here hx rfl (hb hby d_method_2_code_19) ?_
    refine XS.icmpNo X9.here hx rfl (hb hby d_method_2_code_20) rfl (flt (by decide)).1 ?_
    refine XS.aloadN X9.here hx rfl (hb hby d_method_2_code_23) rfl rfl ?_
    exact hq)
  have f11 : Old Z n0 h9 := (f4.keep Kq9 (allS (by omega) all0))
  have f12 : Exa Z h9 a "java/lang/String" := (f5.keep Kq9)
  have f13 : Fld Z h9 a "java/lang/String" "value" "[B" (.ref t) := (f6.keep Kq9 (nin1 (by omega)))
  have f14 : Fld Z h9 a "java/lang/String" "coder" "B" (.int (0 : Int32)) := (f7.keep Kq9 (nin1 (by omega)))
  have f15 : Arv Z h9 t kt .byte (3 : Int32) [(.int c0), (.int c1), (.int c2)] (.int 0) := (f8.keep Kq9 (nin1 (by omega)))
  obtain ⟨_, T16, L16, X16, ⟨x16, y16x, rfl, Nq16, Kq16, P16_0, P16_1, P16_2, P16_3, P16_4, P16_5⟩, k16a⟩ := callV' X9 hx hZ (y := (⟨"com/example/ceruline/ceruline/parsing/SourceReader", "advance", "()V"⟩ : MethodName)) (z := (⟨"com/example/ceruline/ceruline/parsing/SourceReader", "advance", "()V"⟩ : MethodName)) hown (wq hw 77 rfl) (wq hw 78 rfl) (notFace_of_selects (args := #[]) (mvT hZ (wq hw 80 rfl))) (wq hw 80 rfl) (wq hw 79 rfl) (by decide) P9_0 (backC (W := 0) (rm_adv2 l Z a0 hw zc fm r so a t kt c0 c1 c2 x9 y9x h9 n0 (by omega) S_c hzc S_f hfm f11 P9_0 P9_1 P9_2 P9_3 P9_4 P9_5 f12 f13 f14 f15 (by omega) (by omega) (by omega)) hZ (wq hw 81 rfl) (wq hw 32 rfl) (by decide) (by decide)) e9 (argsL := []) (rest := []) rfl rfl pd_9 rfl (by rw [hml]; rfl) (hb hby d_method_2_code_24) (Nat.le_of_eq rfl) (by decide) (by decide) k10
  have k16 : To p.tables e below S0 (T16.setTop (mkF m 27 #[.val (.ref r), .val (.int (3 : Int32))] [])) := k16a
  have N16 := N9.app Nq16
  obtain ⟨h16, e16⟩ : ∃ z, T16.heap = z := ⟨_, rfl⟩
  rw [e16] at Kq16 P16_0 P16_1 P16_2 P16_3 P16_4 P16_5
  have z16 : h9.size ≤ h16.size := Kq16.1
  have hE := e16
  refine retVoid X16 hx hret hlk (hb hby d_method_2_code_27) k16 ?_ (by decide) (by decide)
  try rw [hE]
  exact ⟨_, _, rfl, N16, ((((Keep.refl h0 [r]).trans Kq2 (allS (Or.inl (by simp)) all0)).trans Kq9 (allS (Or.inl (by simp)) all0)).trans Kq16 (allS (Or.inl (by simp)) all0)), P16_0, P16_1, P16_2, P16_3, P16_4, P16_5⟩
set_option maxRecDepth 65536 in
set_option maxHeartbeats 40000000 in
theorem rm_sub0_3 (l : Launch) (Z : State) (a0 : Array Value) (hw : ∀ d ∈ tables_1, d.before a0 Z = true) (zc : Int32) (fm : Value) (a : Addr) (t : Addr) (kt : ClassId) (c0 : Int32) (c1 : Int32) (c2 : Int32) (h0 : Heap) (n0 : Nat) (hn0 : n0 ≤ h0.size) (S_c : Sta Z Z.heap "java/lang/String" "COMPACT_STRINGS" "Z" (.int zc)) (hzc : ¬ zc = (0 : Int32)) (S_f : Sta Z Z.heap "jdk/internal/util/Preconditions" "SIOOBE_FORMATTER" "Ljava/util/function/BiFunction;" fm) (hfm : fm.isRef = true) (O0 : Old Z n0 h0) (P0 : Exa Z h0 a "java/lang/String") (P1 : Fld Z h0 a "java/lang/String" "value" "[B" (.ref t)) (P2 : Fld Z h0 a "java/lang/String" "coder" "B" (.int (0 : Int32))) (P3 : Arv Z h0 t kt .byte (3 : Int32) [(.int c0), (.int c1), (.int c2)] (.int 0)) (yt : @LT.lt Nat instLTNat t h0.size) :
    Con l Z (⟨"java/lang/String", "substring", "(II)Ljava/lang/String;"⟩ : MethodName) jdk_42_method_92_code 5 (some (.object "java/lang/String")) [] ({ frames := 2, cells := 0, slots := 0, locals := 29 } : Room) #[(.ref a), (.int (0 : Int32)), (.int (3 : Int32))] h0 (fun v h L => v = some (.ref a) ∧ Fr n0 L ∧ h = h0) := by
  refine enter (Ls := #[.val (.ref a), .val (.int (0 : Int32)), .val (.int (3 : Int32)), .unset, .unset]) (plainFor_of_name pn_1) (fun m => by exact entry_eq rfl) ?_
  intro p e s m below meth cd_ s₁ S0 hx hby hml hret hlk hnm hown hZ X0 e0 k0
  have N0 := Fr.nil n0
  have k1 : To p.tables e below S0 (s₁.setTop (mkF m 1 #[.val (.ref a), .val (.int (0 : Int32)), .val (.int (3 : Int32)), .unset, .unset] [(.ref a)])) := fun tt hq => k0 tt (by
    refine XS.aloadN X0.here hx rfl (hb hby d_jdk_42_method_92_code_0) rfl rfl ?_
    exact hq)
  obtain ⟨_, T2, L2, X2, ⟨rfl, Nq2, eq2⟩, k2a⟩ := callV' X0 hx hZ (y := (⟨"java/lang/String", "length", "()I"⟩ : MethodName)) (z := (⟨"java/lang/String", "length", "()I"⟩ : MethodName)) hown (wq hw 122 rfl) (wq hw 123 rfl) (notFace_of_selects (args := #[]) (mvT hZ (wq hw 125 rfl))) (wq hw 125 rfl) (wq hw 124 rfl) (by decide) P0 (backC (W := 0) (rm_len3 l Z a0 hw zc a t kt c0 c1 c2 h0 n0 (by omega) S_c hzc O0 P0 P1 P2 P3) hZ (wq hw 126 rfl) (wq hw 3 rfl) (by decide) (by decide)) e0 (argsL := []) (rest := []) rfl rfl pd_17 rfl (by rw [hml]; rfl) (hb hby d_jdk_42_method_92_code_1) (Nat.le_of_eq rfl) (by decide) (by decide) k1
  have k2 : To p.tables e below S0 (T2.setTop (mkF m 4 #[.val (.ref a), .val (.int (0 : Int32)), .val (.int (3 : Int32)), .unset, .unset] [(.int (3 : Int32))])) := k2a
  have N2 := N0.app Nq2
  have e2 : T2.heap = h0 := eq2
  have k3 : To p.tables e below S0 (T2.setTop (mkF m 8 #[.val (.ref a), .val (.int (0 : Int32)), .val (.int (3 : Int32)), .val (.int (3 : Int32)), .unset] [(.int (3 : Int32)), (.int (3 : Int32)), (.int (0 : Int32))])) := fun tt hq => k2 tt (by
    refine XS.istoreN X2.here hx rfl (hb hby d_jdk_42_method_92_code_4) rfl (l' := #[.val (.ref a), .val (.int (0 : Int32)), .val (.int (3 : Int32)), .val (.int (3 : Int32)), .unset]) rfl ?_
    refine XS.iloadN X2.here hx rfl (hb hby d_jdk_42_method_92_code_5) rfl ?_
    refine XS.iloadN X2.here hx rfl (hb hby d_jdk_42_method_92_code_6) rfl ?_
    refine XS.iloadN X2.here hx rfl (hb hby d_jdk_42_method_92_code_7) rfl ?_
    exact hq)
  obtain ⟨_, T4, L4, X4, ⟨rfl, Nq4, eq4⟩, k4a⟩ := callS' X2 hx hZ (y := (⟨"java/lang/String", "checkBoundsBeginEnd", "(III)V"⟩ : MethodName)) hown (wq hw 132 rfl) (wq hw 133 rfl) (wq hw 3 rfl) (wq hw 134 rfl) (by decide) (backC (W := 0) (rm_cbe l Z a0 hw fm (0 : Int32) (3 : Int32) (3 : Int32) h0 n0 (by omega) S_f hfm O0 (by decide) (by decide) (by decide)) hZ (wq hw 134 rfl) (wq hw 3 rfl) (by decide) (by decide)) e2 (argsL := [(.int (0 : Int32)), (.int (3 : Int32)), (.int (3 : Int32))]) (rest := []) rfl rfl pd_18 rfl (by rw [hml]; rfl) (hb hby d_jdk_42_method_92_code_8) (Nat.le_of_eq rfl) (by decide) (by decide) k3
  have k4 : To p.tables e below S0 (T4.setTop (mkF m 11 #[.val (.ref a), .val (.int (0 : Int32)), .val (.int (3 : Int32)), .val (.int (3 : Int32)), .unset] [])) := k4a
  have N4 := N2.app Nq4
  have e4 : T4.heap = h0 := eq4
  have k5 : To p.tables e below S0 (T4.setTop (mkF m 21 #[.val (.ref a), .val (.int (0 : Int32)), .val (.int (3 : Int32)), .val (.int (3 : Int32)), .unset] [(.ref a)])) := fun tt hq => k4 tt (by
    refine XS.iloadN X4.here hx rfl (hb hby d_jdk_42_method_92_code_11) rfl ?_
    refine XS.ifNo X4.here hx rfl (hb hby d_jdk_42_method_92_code_12) rfl ((if0 _ _).trans (teq (by decide)).2) ?_
    refine XS.iloadN X4.here hx rfl (hb hby d_jdk_42_method_92_code_15) rfl ?_
    refine XS.iloadN X4.here hx rfl (hb hby d_jdk_42_method_92_code_16) rfl ?_
    refine XS.icmpNo X4.here hx rfl (hb hby d_jdk_42_method_92_code_17) rfl (teq (by decide)).2 ?_
    refine XS.aloadN X4.here hx rfl (hb hby d_jdk_42_method_92_code_20) rfl rfl ?_
    exact hq)
  have hE := e4
  refine retRef X4 hx hret hlk rfl rfl (hb hby d_jdk_42_method_92_code_21) k5 ?_ (by decide) (by decide)
  try rw [hE]
  exact ⟨rfl, N4, rfl⟩
set_option maxRecDepth 65536 in
set_option maxHeartbeats 40000000 in
theorem rm_tf0_3 (l : Launch) (Z : State) (a0 : Array Value) (hw : ∀ d ∈ tables_1, d.before a0 Z = true) (zc : Int32) (fm : Value) (r : Addr) (a : Addr) (t : Addr) (kt : ClassId) (c0 : Int32) (c1 : Int32) (c2 : Int32) (h0 : Heap) (n0 : Nat) (hn0 : n0 ≤ h0.size) (S_c : Sta Z Z.heap "java/lang/String" "COMPACT_STRINGS" "Z" (.int zc)) (hzc : ¬ zc = (0 : Int32)) (S_f : Sta Z Z.heap "jdk/internal/util/Preconditions" "SIOOBE_FORMATTER" "Ljava/util/function/BiFunction;" fm) (hfm : fm.isRef = true) (O0 : Old Z n0 h0) (Q0 : Fld Z h0 r "com/example/ceruline/ceruline/parsing/SourceReader" "text" "Ljava/lang/String;" (.ref a)) (Q1 : Fld Z h0 r "com/example/ceruline/ceruline/parsing/SourceReader" "offset" "I" (.int (3 : Int32))) (P0 : Exa Z h0 a "java/lang/String") (P1 : Fld Z h0 a "java/lang/String" "value" "[B" (.ref t)) (P2 : Fld Z h0 a "java/lang/String" "coder" "B" (.int (0 : Int32))) (P3 : Arv Z h0 t kt .byte (3 : Int32) [(.int c0), (.int c1), (.int c2)] (.int 0)) (yt : @LT.lt Nat instLTNat t h0.size) :
    Con l Z (⟨"com/example/ceruline/ceruline/parsing/SourceReader", "textFrom", "(I)Ljava/lang/String;"⟩ : MethodName) prog_66_method_8_code 2 (some (.object "java/lang/String")) [] ({ frames := 3, cells := 0, slots := 0, locals := 45 } : Room) #[(.ref r), (.int (0 : Int32))] h0 (fun v h L => v = some (.ref a) ∧ Fr n0 L ∧ h = h0) := by
  refine enter (Ls := #[.val (.ref r), .val (.int (0 : Int32))]) (plainFor_of_name pn_7) (fun m => by exact entry_eq rfl) ?_
  intro p e s m below meth cd_ s₁ S0 hx hby hml hret hlk hnm hown hZ X0 e0 k0
  have N0 := Fr.nil n0
  have k1 : To p.tables e below S0 (s₁.setTop (mkF m 1 #[.val (.ref r), .val (.int (0 : Int32))] [(.ref r)])) := fun tt hq => k0 tt (by
    refine XS.aloadN X0.here hx rfl (hb hby d_prog_66_method_8_code_0) rfl rfl ?_
    exact hq)
  obtain ⟨T2, X2, e2, st2⟩ := getF X0 hx hZ hown (host := "") (Or.inl (wq hw 67 rfl)) Via.refl e0 Q0 (g := (mkF m 1 #[.val (.ref r), .val (.int (0 : Int32))] [(.ref r)])) rfl rfl (hb hby d_prog_66_method_8_code_1)
  have k2 : To p.tables e below S0 (T2.setTop (mkF m 4 #[.val (.ref r), .val (.int (0 : Int32))] [(.ref a)])) := fun tt hq => k1 tt (st2 tt hq)
  have k3 : To p.tables e below S0 (T2.setTop (mkF m 6 #[.val (.ref r), .val (.int (0 : Int32))] [(.ref r), (.int (0 : Int32)), (.ref a)])) := fun tt hq => k2 tt (by
    refine XS.iloadN X2.here hx rfl (hb hby d_prog_66_method_8_code_4) rfl ?_
    refine XS.aloadN X2.here hx rfl (hb hby d_prog_66_method_8_code_5) rfl rfl ?_
    exact hq)
  obtain ⟨T4, X4, e4, st4⟩ := getF X2 hx hZ hown (host := "") (Or.inl (wq hw 82 rfl)) Via.refl e2 Q1 (g := (mkF m 6 #[.val (.ref r), .val (.int (0 : Int32))] [(.ref r), (.int (0 : Int32)), (.ref a)])) rfl rfl (hb hby d_prog_66_method_8_code_6)
  have k4 : To p.tables e below S0 (T4.setTop (mkF m 9 #[.val (.ref r), .val (.int (0 : Int32))] [(.int (3 : Int32)), (.int (0 : Int32)), (.ref a)])) := fun tt hq => k3 tt (st4 tt hq)
  obtain ⟨_, T5, L5, X5, ⟨rfl, Nq5, eq5⟩, k5a⟩ := callV' X4 hx hZ (y := (⟨"java/lang/String", "substring", "(II)Ljava/lang/String;"⟩ : MethodName)) (z := (⟨"java/lang/String", "substring", "(II)Ljava/lang/String;"⟩ : MethodName)) hown (wq hw 117 rfl) (wq hw 118 rfl) (notFace_of_selects (args := #[]) (mvT hZ (wq hw 120 rfl))) (wq hw 120 rfl) (wq hw 119 rfl) (by decide) P0 (backC (W := 0) (rm_sub0_3 l Z a0 hw zc fm a t kt c0 c1 c2 h0 n0 (by omega) S_c hzc S_f hfm O0 P0 P1 P2 P3 (by omega)) hZ (wq hw 121 rfl) (wq hw 3 rfl) (by decide) (by decide)) e4 (argsL := [(.int (0 : Int32)), (.int (3 : Int32))]) (rest := []) rfl rfl pd_20 rfl (by rw [hml]; rfl) (hb hby d_prog_66_method_8_code_9) (Nat.le_of_eq rfl) (by decide) (by decide) k4
  have k5 : To p.tables e below S0 (T5.setTop (mkF m 12 #[.val (.ref r), .val (.int (0 : Int32))] [(.ref a)])) := k5a
  have N5 := N0.app Nq5
  have e5 : T5.heap = h0 := eq5
  have hE := e5
  refine retRef X5 hx hret hlk rfl rfl (hb hby d_prog_66_method_8_code_12) k5 ?_ (by decide) (by decide)
  try rw [hE]
  exact ⟨rfl, N5, rfl⟩
set_option maxRecDepth 65536 in
set_option maxHeartbeats 40000000 in
theorem rm_sub3_3 (l : Launch) (Z : State) (a0 : Array Value) (hw : ∀ d ∈ tables_1, d.before a0 Z = true) (zc : Int32) (fm : Value) (a : Addr) (t : Addr) (kt : ClassId) (c0 : Int32) (c1 : Int32) (c2 : Int32) (h0 : Heap) (n0 : Nat) (hn0 : n0 ≤ h0.size) (S_c : Sta Z Z.heap "java/lang/String" "COMPACT_STRINGS" "Z" (.int zc)) (hzc : ¬ zc = (0 : Int32)) (S_f : Sta Z Z.heap "jdk/internal/util/Preconditions" "SIOOBE_FORMATTER" "Ljava/util/function/BiFunction;" fm) (hfm : fm.isRef = true) (O0 : Old Z n0 h0) (P0 : Exa Z h0 a "java/lang/String") (P1 : Fld Z h0 a "java/lang/String" "value" "[B" (.ref t)) (P2 : Fld Z h0 a "java/lang/String" "coder" "B" (.int (0 : Int32))) (P3 : Arv Z h0 t kt .byte (3 : Int32) [(.int c0), (.int c1), (.int c2)] (.int 0)) (yt : @LT.lt Nat instLTNat t h0.size) :
    ConW l Z own_EL (⟨"java/lang/String", "substring", "(II)Ljava/lang/String;"⟩ : MethodName) jdk_42_method_92_code 5 (some (.object "java/lang/String")) [] ({ frames := 2, cells := 2, slots := 4, locals := 29 } : Room) #[(.ref a), (.int (3 : Int32)), (.int (3 : Int32))] h0 [] (fun v h L => ∃ (b t : Addr) (k : ClassId), v = some (.ref b) ∧ Fr n0 L ∧ (@LT.lt Nat instLTNat b h.size) ∧ (@LT.lt Nat instLTNat t h.size) ∧ Keep h0 h [] ∧ Exa Z h b "java/lang/String" ∧ Fld Z h b "java/lang/String" "value" "[B" (.ref t) ∧ Fld Z h b "java/lang/String" "coder" "B" (.int (0 : Int32)) ∧ Arv Z h t k .byte (0 : Int32) [] (.int 0)) := by
  refine enterW (Ls := #[.val (.ref a), .val (.int (3 : Int32)), .val (.int (3 : Int32)), .unset, .unset]) (plainFor_of_name pn_1) (fun m => by exact entry_eq rfl) ?_
  intro p e s m below meth cd_ s₁ S0 vm0 hx hby hml hret hlk hnm hown hZ X0 e0 k0 C0 hsf hS0
  have N0 := Fr.nil n0
  have k1 : To p.tables e below S0 (s₁.setTop (mkF m 1 #[.val (.ref a), .val (.int (3 : Int32)), .val (.int (3 : Int32)), .unset, .unset] [(.ref a)])) := fun tt hq => k0 tt (by
    refine XS.aloadN X0.here hx rfl (hb hby d_jdk_42_method_92_code_0) rfl rfl ?_
    exact hq)
  obtain ⟨_, T2, L2, X2, ⟨rfl, Nq2, eq2⟩, k2a⟩ := callV' X0 hx hZ (y := (⟨"java/lang/String", "length", "()I"⟩ : MethodName)) (z := (⟨"java/lang/String", "length", "()I"⟩ : MethodName)) hown (wq hw 122 rfl) (wq hw 123 rfl) (notFace_of_selects (args := #[]) (mvT hZ (wq hw 125 rfl))) (wq hw 125 rfl) (wq hw 124 rfl) (by decide) P0 (backC (W := 0) (rm_len3 l Z a0 hw zc a t kt c0 c1 c2 h0 n0 (by omega) S_c hzc O0 P0 P1 P2 P3) hZ (wq hw 126 rfl) (wq hw 3 rfl) (by decide) (by decide)) e0 (argsL := []) (rest := []) rfl rfl pd_17 rfl (by rw [hml]; rfl) (hb hby d_jdk_42_method_92_code_1) (Nat.le_of_eq rfl) (by decide) (by decide) k1
  have k2 : To p.tables e below S0 (T2.setTop (mkF m 4 #[.val (.ref a), .val (.int (3 : Int32)), .val (.int (3 : Int32)), .unset, .unset] [(.int (3 : Int32))])) := k2a
  have N2 := N0.app Nq2
  have e2 : T2.heap = h0 := eq2
  have k3 : To p.tables e below S0 (T2.setTop (mkF m 8 #[.val (.ref a), .val (.int (3 : Int32)), .val (.int (3 : Int32)), .val (.int (3 : Int32)), .unset] [(.int (3 : Int32)), (.int (3 : Int32)), (.int (3 : Int32))])) := fun tt hq => k2 tt (by
    refine XS.istoreN X2.here hx rfl (hb hby d_jdk_42_method_92_code_4) rfl (l' := #[.val (.ref a), .val (.int (3 : Int32)), .val (.int (3 : Int32)), .val (.int (3 : Int32)), .unset]) rfl ?_
    refine XS.iloadN X2.here hx rfl (hb hby d_jdk_42_method_92_code_5) rfl ?_
    refine XS.iloadN X2.here hx rfl (hb hby d_jdk_42_method_92_code_6) rfl ?_
    refine XS.iloadN X2.here hx rfl (hb hby d_jdk_42_method_92_code_7) rfl ?_
    exact hq)
  obtain ⟨_, T4, L4, X4, ⟨rfl, Nq4, eq4⟩, k4a⟩ := callS' X2 hx hZ (y := (⟨"java/lang/String", "checkBoundsBeginEnd", "(III)V"⟩ : MethodName)) hown (wq hw 132 rfl) (wq hw 133 rfl) (wq hw 3 rfl) (wq hw 134 rfl) (by decide) (backC (W := 0) (rm_cbe l Z a0 hw fm (3 : Int32) (3 : Int32) (3 : Int32) h0 n0 (by omega) S_f hfm O0 (by decide) (by decide) (by decide)) hZ (wq hw 134 rfl) (wq hw 3 rfl) (by decide) (by decide)) e2 (argsL := [(.int (3 : Int32)), (.int (3 : Int32)), (.int (3 : Int32))]) (rest := []) rfl rfl pd_18 rfl (by rw [hml]; rfl) (hb hby d_jdk_42_method_92_code_8) (Nat.le_of_eq rfl) (by decide) (by decide) k3
  have k4 : To p.tables e below S0 (T4.setTop (mkF m 11 #[.val (.ref a), .val (.int (3 : Int32)), .val (.int (3 : Int32)), .val (.int (3 : Int32)), .unset] [])) := k4a
  have N4 := N2.app Nq4
  have e4 : T4.heap = h0 := eq4
  have k5 : To p.tables e below S0 (T4.setTop (mkF m 28 #[.val (.ref a), .val (.int (3 : Int32)), .val (.int (3 : Int32)), .val (.int (3 : Int32)), .val (.int (0 : Int32))] [(.ref a)])) := fun tt hq => k4 tt (by
    refine XS.iloadN X4.here hx rfl (hb hby d_jdk_42_method_92_code_11) rfl ?_
    refine XS.ifYes X4.here hx rfl (pc0 := 12) (pc' := 22) rfl (hb hby d_jdk_42_method_92_code_12) rfl ((if0 _ _).trans (feq (by decide)).2) (by decide) (by decide) ?_
    refine XS.iloadN X4.here hx rfl (hb hby d_jdk_42_method_92_code_22) rfl ?_
    refine XS.iloadN X4.here hx rfl (hb hby d_jdk_42_method_92_code_23) rfl ?_
    refine XS.isub X4.here hx rfl (hb hby d_jdk_42_method_92_code_24) rfl ?_
    refine XS.istore X4.here hx rfl (hb hby d_jdk_42_method_92_code_25) rfl (l' := #[.val (.ref a), .val (.int (3 : Int32)), .val (.int (3 : Int32)), .val (.int (3 : Int32)), .val (.int (0 : Int32))]) rfl ?_
    refine XS.aloadN X4.here hx rfl (hb hby d_jdk_42_method_92_code_27) rfl rfl ?_
    exact hq)
  obtain ⟨_, T6, L6, X6, ⟨rfl, Nq6, eq6⟩, k6a⟩ := callV' X4 hx hZ (y := (⟨"java/lang/String", "isLatin1", "()Z"⟩ : MethodName)) (z := (⟨"java/lang/String", "isLatin1", "()Z"⟩ : MethodName)) hown (wq hw 89 rfl) (wq hw 90 rfl) (notFace_of_selects (args := #[]) (mvT hZ (wq hw 92 rfl))) (wq hw 92 rfl) (wq hw 91 rfl) (by decide) P0 (backC (W := 0) (rm_latin l Z a0 hw zc a h0 n0 (by omega) S_c hzc O0 P2) hZ (wq hw 93 rfl) (wq hw 3 rfl) (by decide) (by decide)) e4 (argsL := []) (rest := []) rfl rfl pd_6 rfl (by rw [hml]; rfl) (hb hby d_jdk_42_method_92_code_28) (Nat.le_of_eq rfl) (by decide) (by decide) k5
  have k6 : To p.tables e below S0 (T6.setTop (mkF m 31 #[.val (.ref a), .val (.int (3 : Int32)), .val (.int (3 : Int32)), .val (.int (3 : Int32)), .val (.int (0 : Int32))] [(.int (1 : Int32))])) := k6a
  have N6 := N4.app Nq6
  have e6 : T6.heap = h0 := eq6
  have k7 : To p.tables e below S0 (T6.setTop (mkF m 35 #[.val (.ref a), .val (.int (3 : Int32)), .val (.int (3 : Int32)), .val (.int (3 : Int32)), .val (.int (0 : Int32))] [(.ref a)])) := fun tt hq => k6 tt (by
    refine XS.ifNo X6.here hx rfl (hb hby d_jdk_42_method_92_code_31) rfl ((if0 _ _).trans (feq (by decide)).1) ?_
    refine XS.aloadN X6.here hx rfl (hb hby d_jdk_42_method_92_code_34) rfl rfl ?_
    exact hq)
  obtain ⟨T8, X8, e8, st8⟩ := getF X6 hx hZ hown (host := "") (Or.inl (wq hw 28 rfl)) Via.refl e6 P1 (g := (mkF m 35 #[.val (.ref a), .val (.int (3 : Int32)), .val (.int (3 : Int32)), .val (.int (3 : Int32)), .val (.int (0 : Int32))] [(.ref a)])) rfl rfl (hb hby d_jdk_42_method_92_code_35)
  have k8 : To p.tables e below S0 (T8.setTop (mkF m 38 #[.val (.ref a), .val (.int (3 : Int32)), .val (.int (3 : Int32)), .val (.int (3 : Int32)), .val (.int (0 : Int32))] [(.ref t)])) := fun tt hq => k7 tt (st8 tt hq)
  have k9 : To p.tables e below S0 (T8.setTop (mkF m 41 #[.val (.ref a), .val (.int (3 : Int32)), .val (.int (3 : Int32)), .val (.int (3 : Int32)), .val (.int (0 : Int32))] [(.int (0 : Int32)), (.int (3 : Int32)), (.ref t)])) := fun tt hq => k8 tt (by
    refine XS.iloadN X8.here hx rfl (hb hby d_jdk_42_method_92_code_38) rfl ?_
    refine XS.iload X8.here hx rfl (hb hby d_jdk_42_method_92_code_39) rfl ?_
    exact hq)
  obtain ⟨_, T10, L10, X10, ⟨a10, t10, k10x, rfl, Nq10, ya10, yt10, Kq10, P100, P101, P102, P103⟩, k10a, Cq10, hS10, hZ10, hown10⟩ := callSW X8 hx hZ (y := (⟨"java/lang/StringLatin1", "newString", "([BII)Ljava/lang/String;"⟩ : MethodName)) hown hS0 (by omega) (wq hw 138 rfl) (wq hw 139 rfl) (wq hw 140 rfl) (wq hw 141 rfl) (by decide) (backOfW (W := 0) (rm_ns0 l Z a0 hw t (3 : Int32) h0 n0 (by omega)) hZ (wq hw 141 rfl) (wq hw 140 rfl) (by decide) (by decide) (own_EW hw) C0.1 all0) e8 (argsL := [(.ref t), (.int (3 : Int32)), (.int (0 : Int32))]) (rest := []) rfl rfl pd_19 rfl (by rw [hml]; rfl) (hb hby d_jdk_42_method_92_code_41) (Nat.le_of_eq rfl) (by decide) (by decide) k9
  have k10 : To p.tables e below S0 (T10.setTop (mkF m 44 #[.val (.ref a), .val (.int (3 : Int32)), .val (.int (3 : Int32)), .val (.int (3 : Int32)), .val (.int (0 : Int32))] [(.ref a10)])) := k10a
  have N10 := N6.app Nq10
  obtain ⟨h10, e10⟩ : ∃ z, T10.heap = z := ⟨_, rfl⟩
  rw [e10] at Kq10 ya10 yt10 P100 P101 P102 P103 Cq10 hS10
  have z10 : h0.size ≤ h10.size := Kq10.1
  have C10 := C0.trans Cq10
  have k11 : To p.tables e below S0 (T10.setTop (mkF m 57 #[.val (.ref a), .val (.int (3 : Int32)), .val (.int (3 : Int32)), .val (.int (3 : Int32)), .val (.int (0 : Int32))] [(.ref a10)])) := fun tt hq => k10 tt (by
    refine XS.goto X10.here hx rfl (pc0 := 44) (pc' := 57) rfl (hb hby d_jdk_42_method_92_code_44) (by decide) (by decide) ?_
    exact hq)
  refine retRefW X10 hx hZ10 (own_EW hw) hS10 (by omega) C10 e10 hret hlk rfl rfl (hb hby d_jdk_42_method_92_code_57) k11 ?_ (by decide) (by decide)
  exact ⟨_, _, _, rfl, N10, P100.lt, P103.lt, ((Keep.refl h0 []).trans Kq10 all0), P100, P101, P102, P103⟩
set_option maxRecDepth 65536 in
set_option maxHeartbeats 40000000 in
theorem rm_tf3_3 (l : Launch) (Z : State) (a0 : Array Value) (hw : ∀ d ∈ tables_1, d.before a0 Z = true) (zc : Int32) (fm : Value) (r : Addr) (a : Addr) (t : Addr) (kt : ClassId) (c0 : Int32) (c1 : Int32) (c2 : Int32) (h0 : Heap) (n0 : Nat) (hn0 : n0 ≤ h0.size) (S_c : Sta Z Z.heap "java/lang/String" "COMPACT_STRINGS" "Z" (.int zc)) (hzc : ¬ zc = (0 : Int32)) (S_f : Sta Z Z.heap "jdk/internal/util/Preconditions" "SIOOBE_FORMATTER" "Ljava/util/function/BiFunction;" fm) (hfm : fm.isRef = true) (O0 : Old Z n0 h0) (Q0 : Fld Z h0 r "com/example/ceruline/ceruline/parsing/SourceReader" "text" "Ljava/lang/String;" (.ref a)) (Q1 : Fld Z h0 r "com/example/ceruline/ceruline/parsing/SourceReader" "offset" "I" (.int (3 : Int32))) (P0 : Exa Z h0 a "java/lang/String") (P1 : Fld Z h0 a "java/lang/String" "value" "[B" (.ref t)) (P2 : Fld Z h0 a "java/lang/String" "coder" "B" (.int (0 : Int32))) (P3 : Arv Z h0 t kt .byte (3 : Int32) [(.int c0), (.int c1), (.int c2)] (.int 0)) (yt : @LT.lt Nat instLTNat t h0.size) :
    ConW l Z own_EL (⟨"com/example/ceruline/ceruline/parsing/SourceReader", "textFrom", "(I)Ljava/lang/String;"⟩ : MethodName) prog_66_method_8_code 2 (some (.object "java/lang/String")) [] ({ frames := 3, cells := 2, slots := 4, locals := 45 } : Room) #[(.ref r), (.int (3 : Int32))] h0 [] (fun v h L => ∃ (b t : Addr) (k : ClassId), v = some (.ref b) ∧ Fr n0 L ∧ (@LT.lt Nat instLTNat b h.size) ∧ (@LT.lt Nat instLTNat t h.size) ∧ Keep h0 h [] ∧ Exa Z h b "java/lang/String" ∧ Fld Z h b "java/lang/String" "value" "[B" (.ref t) ∧ Fld Z h b "java/lang/String" "coder" "B" (.int (0 : Int32)) ∧ Arv Z h t k .byte (0 : Int32) [] (.int 0)) := by
  refine enterW (Ls := #[.val (.ref r), .val (.int (3 : Int32))]) (plainFor_of_name pn_7) (fun m => by exact entry_eq rfl) ?_
  intro p e s m below meth cd_ s₁ S0 vm0 hx hby hml hret hlk hnm hown hZ X0 e0 k0 C0 hsf hS0
  have N0 := Fr.nil n0
  have k1 : To p.tables e below S0 (s₁.setTop (mkF m 1 #[.val (.ref r), .val (.int (3 : Int32))] [(.ref r)])) := fun tt hq => k0 tt (by
    refine XS.aloadN X0.here hx rfl (hb hby d_prog_66_method_8_code_0) rfl rfl ?_
    exact hq)
  obtain ⟨T2, X2, e2, st2⟩ := getF X0 hx hZ hown (host := "") (Or.inl (wq hw 67 rfl)) Via.refl e0 Q0 (g := (mkF m 1 #[.val (.ref r), .val (.int (3 : Int32))] [(.ref r)])) rfl rfl (hb hby d_prog_66_method_8_code_1)
  have k2 : To p.tables e below S0 (T2.setTop (mkF m 4 #[.val (.ref r), .val (.int (3 : Int32))] [(.ref a)])) := fun tt hq => k1 tt (st2 tt hq)
  have k3 : To p.tables e below S0 (T2.setTop (mkF m 6 #[.val (.ref r), .val (.int (3 : Int32))] [(.ref r), (.int (3 : Int32)), (.ref a)])) := fun tt hq => k2 tt (by
    refine XS.iloadN X2.here hx rfl (hb hby d_prog_66_method_8_code_4) rfl ?_
    refine XS.aloadN X2.here hx rfl (hb hby d_prog_66_method_8_code_5) rfl rfl ?_
    exact hq)
  obtain ⟨T4, X4, e4, st4⟩ := getF X2 hx hZ hown (host := "") (Or.inl (wq hw 82 rfl)) Via.refl e2 Q1 (g := (mkF m 6 #[.val (.ref r), .val (.int (3 : Int32))] [(.ref r), (.int (3 : Int32)), (.ref a)])) rfl rfl (hb hby d_prog_66_method_8_code_6)
  have k4 : To p.tables e below S0 (T4.setTop (mkF m 9 #[.val (.ref r), .val (.int (3 : Int32))] [(.int (3 : Int32)), (.int (3 : Int32)), (.ref a)])) := fun tt hq => k3 tt (st4 tt hq)
  obtain ⟨_, T5, L5, X5, ⟨a5, t5, k5x, rfl, Nq5, ya5, yt5, Kq5, P50, P51, P52, P53⟩, k5a, Cq5, hS5, hZ5, hown5⟩ := callVW X4 hx hZ (y := (⟨"java/lang/String", "substring", "(II)Ljava/lang/String;"⟩ : MethodName)) (z := (⟨"java/lang/String", "substring", "(II)Ljava/lang/String;"⟩ : MethodName)) hown hS0 (by omega) (wq hw 117 rfl) (wq hw 118 rfl) (notFace_of_selects (args := #[]) (mvT hZ (wq hw 120 rfl))) (wq hw 120 rfl) (wq hw 119 rfl) (by decide) P0 (backOfW (W := 0) (rm_sub3_3 l Z a0 hw zc fm a t kt c0 c1 c2 h0 n0 (by omega) S_c hzc S_f hfm O0 P0 P1 P2 P3 (by omega)) hZ (wq hw 121 rfl) (wq hw 3 rfl) (by decide) (by decide) (own_EW hw) C0.1 all0) e4 (argsL := [(.int (3 : Int32)), (.int (3 : Int32))]) (rest := []) rfl rfl pd_20 rfl (by rw [hml]; rfl) (hb hby d_prog_66_method_8_code_9) (Nat.le_of_eq rfl) (by decide) (by decide) k4
  have k5 : To p.tables e below S0 (T5.setTop (mkF m 12 #[.val (.ref r), .val (.int (3 : Int32))] [(.ref a5)])) := k5a
  have N5 := N0.app Nq5
  obtain ⟨h5, e5⟩ : ∃ z, T5.heap = z := ⟨_, rfl⟩
  rw [e5] at Kq5 ya5 yt5 P50 P51 P52 P53 Cq5 hS5
  have z5 : h0.size ≤ h5.size := Kq5.1
  have C5 := C0.trans Cq5
  refine retRefW X5 hx hZ5 (own_EW hw) hS5 (by omega) C5 e5 hret hlk rfl rfl (hb hby d_prog_66_method_8_code_12) k5 ?_ (by decide) (by decide)
  exact ⟨_, _, _, rfl, N5, P50.lt, P53.lt, ((Keep.refl h0 []).trans Kq5 all0), P50, P51, P52, P53⟩
set_option maxRecDepth 65536 in
set_option maxHeartbeats 40000000 in
theorem rm_st1_0 (l : Launch) (Z : State) (a0 : Array Value) (hw : ∀ d ∈ tables_1, d.before a0 Z = true) (zc : Int32) (fm : Value) (r : Addr) (so : Addr) (a : Addr) (t : Addr) (kt : ClassId) (c0 : Int32) (c1 : Int32) (c2 : Int32) (xl : Int32) (xc : Int32) (h0 : Heap) (n0 : Nat) (hn0 : n0 ≤ h0.size) (S_c : Sta Z Z.heap "java/lang/String" "COMPACT_STRINGS" "Z" (.int zc)) (hzc : ¬ zc = (0 : Int32)) (S_f : Sta Z Z.heap "jdk/internal/util/Preconditions" "SIOOBE_FORMATTER" "Ljava/util/function/BiFunction;" fm) (hfm : fm.isRef = true) (O0 : Old Z n0 h0) (P0 : Exa Z h0 r "com/example/ceruline/ceruline/parsing/SourceReader") (P1 : Fld Z h0 r "com/example/ceruline/ceruline/parsing/SourceReader" "source" "Lcom/example/ceruline/ceruline/source/SourceFile;" (.ref so)) (P2 : Fld Z h0 r "com/example/ceruline/ceruline/parsing/SourceReader" "text" "Ljava/lang/String;" (.ref a)) (P3 : Fld Z h0 r "com/example/ceruline/ceruline/parsing/SourceReader" "offset" "I" (.int (1 : Int32))) (P4 : Fld Z h0 r "com/example/ceruline/ceruline/parsing/SourceReader" "line" "I" (.int xl)) (P5 : Fld Z h0 r "com/example/ceruline/ceruline/parsing/SourceReader" "column" "I" (.int xc)) (R0 : Exa Z h0 a "java/lang/String") (R1 : Fld Z h0 a "java/lang/String" "value" "[B" (.ref t)) (R2 : Fld Z h0 a "java/lang/String" "coder" "B" (.int (0 : Int32))) (R3 : Arv Z h0 t kt .byte (3 : Int32) [(.int c0), (.int c1), (.int c2)] (.int 0)) (ga : n0 ≤ r) (nra : ¬ (@Eq Nat a r)) (nrt : ¬ (@Eq Nat t r)) :
    Con l Z (⟨"com/example/ceruline/ceruline/parsing/SourceReaderTextFromPinLaw", "steps", "(Lcom/example/ceruline/ceruline/parsing/SourceReader;I)V"⟩ : MethodName) method_2_code 2 none [] ({ frames := 0, cells := 0, slots := 0, locals := 0 } : Room) #[(.ref r), (.int (0 : Int32))] h0 (fun v h L => ∃ (y1 y2 : Int32), v = none ∧ Fr n0 L ∧ Keep h0 h [r] ∧ Exa Z h r "com/example/ceruline/ceruline/parsing/SourceReader" ∧ Fld Z h r "com/example/ceruline/ceruline/parsing/SourceReader" "source" "Lcom/example/ceruline/ceruline/source/SourceFile;" (.ref so) ∧ Fld Z h r "com/example/ceruline/ceruline/parsing/SourceReader" "text" "Ljava/lang/String;" (.ref a) ∧ Fld Z h r "com/example/ceruline/ceruline/parsing/SourceReader" "offset" "I" (.int (1 : Int32)) ∧ Fld Z h r "com/example/ceruline/ceruline/parsing/SourceReader" "line" "I" (.int y1) ∧ Fld Z h r "com/example/ceruline/ceruline/parsing/SourceReader" "column" "I" (.int y2)) := by
  refine enter (Ls := #[.val (.ref r), .val (.int (0 : Int32))]) (plainFor_of_name pn_9) (fun m => by exact entry_eq rfl) ?_
  intro p e s m below meth cd_ s₁ S0 hx hby hml hret hlk hnm hown hZ X0 e0 k0
  have N0 := Fr.nil n0
  have k1 : To p.tables e below S0 (s₁.setTop (mkF m 27 #[.val (.ref r), .val (.int (0 : Int32))] [])) := fun tt hq => k0 tt (by
    refine XS.iloadN X0.here hx rfl (hb hby d_method_2_code_0) rfl ?_
    refine XS.iconst X0.here hx rfl (hb hby d_method_2_code_1) ?_
    refine XS.icmpYes X0.here hx rfl (pc0 := 2) (pc' := 9) rfl (hb hby d_method_2_code_2) rfl (tlt (by decide)).1 (by decide) (by decide) ?_
    refine XS.iloadN X0.here hx rfl (hb hby d_method_2_code_9) rfl ?_
    refine XS.iconst X0.here hx rfl (hb hby d_method_2_code_10) ?_
    refine XS.icmpYes X0.here hx rfl (pc0 := 11) (pc' := 18) rfl (hb hby d_method_2_code_11) rfl (tlt (by decide)).1 (by decide) (by decide) ?_
    refine XS.iloadN X0.here hx rfl (hb hby d_method_2_code_18) rfl ?_
    refine XS.iconst X0.here hx rfl (hb hby d_method_2_code_19) ?_
    refine XS.icmpYes X0.here hx rfl (pc0 := 20) (pc' := 27) rfl (hb hby d_method_2_code_20) rfl (tlt (by decide)).1 (by decide) (by decide) ?_
    exact hq)
  have hE := e0
  refine retVoid X0 hx hret hlk (hb hby d_method_2_code_27) k1 ?_ (by decide) (by decide)
  try rw [hE]
  exact ⟨_, _, rfl, N0, (Keep.refl h0 [r]), P0, P1, P2, P3, P4, P5⟩
set_option maxRecDepth 65536 in
set_option maxHeartbeats 40000000 in
theorem rm_st1_1 (l : Launch) (Z : State) (a0 : Array Value) (hw : ∀ d ∈ tables_1, d.before a0 Z = true) (zc : Int32) (fm : Value) (r : Addr) (so : Addr) (a : Addr) (t : Addr) (kt : ClassId) (c0 : Int32) (c1 : Int32) (c2 : Int32) (xl : Int32) (xc : Int32) (h0 : Heap) (n0 : Nat) (hn0 : n0 ≤ h0.size) (S_c : Sta Z Z.heap "java/lang/String" "COMPACT_STRINGS" "Z" (.int zc)) (hzc : ¬ zc = (0 : Int32)) (S_f : Sta Z Z.heap "jdk/internal/util/Preconditions" "SIOOBE_FORMATTER" "Ljava/util/function/BiFunction;" fm) (hfm : fm.isRef = true) (O0 : Old Z n0 h0) (P0 : Exa Z h0 r "com/example/ceruline/ceruline/parsing/SourceReader") (P1 : Fld Z h0 r "com/example/ceruline/ceruline/parsing/SourceReader" "source" "Lcom/example/ceruline/ceruline/source/SourceFile;" (.ref so)) (P2 : Fld Z h0 r "com/example/ceruline/ceruline/parsing/SourceReader" "text" "Ljava/lang/String;" (.ref a)) (P3 : Fld Z h0 r "com/example/ceruline/ceruline/parsing/SourceReader" "offset" "I" (.int (1 : Int32))) (P4 : Fld Z h0 r "com/example/ceruline/ceruline/parsing/SourceReader" "line" "I" (.int xl)) (P5 : Fld Z h0 r "com/example/ceruline/ceruline/parsing/SourceReader" "column" "I" (.int xc)) (R0 : Exa Z h0 a "java/lang/String") (R1 : Fld Z h0 a "java/lang/String" "value" "[B" (.ref t)) (R2 : Fld Z h0 a "java/lang/String" "coder" "B" (.int (0 : Int32))) (R3 : Arv Z h0 t kt .byte (3 : Int32) [(.int c0), (.int c1), (.int c2)] (.int 0)) (ga : n0 ≤ r) (nra : ¬ (@Eq Nat a r)) (nrt : ¬ (@Eq Nat t r)) :
    Con l Z (⟨"com/example/ceruline/ceruline/parsing/SourceReaderTextFromPinLaw", "steps", "(Lcom/example/ceruline/ceruline/parsing/SourceReader;I)V"⟩ : MethodName) method_2_code 2 none [] ({ frames := 4, cells := 0, slots := 0, locals := 54 } : Room) #[(.ref r), (.int (1 : Int32))] h0 (fun v h L => ∃ (y1 y2 : Int32), v = none ∧ Fr n0 L ∧ Keep h0 h [r] ∧ Exa Z h r "com/example/ceruline/ceruline/parsing/SourceReader" ∧ Fld Z h r "com/example/ceruline/ceruline/parsing/SourceReader" "source" "Lcom/example/ceruline/ceruline/source/SourceFile;" (.ref so) ∧ Fld Z h r "com/example/ceruline/ceruline/parsing/SourceReader" "text" "Ljava/lang/String;" (.ref a) ∧ Fld Z h r "com/example/ceruline/ceruline/parsing/SourceReader" "offset" "I" (.int (2 : Int32)) ∧ Fld Z h r "com/example/ceruline/ceruline/parsing/SourceReader" "line" "I" (.int y1) ∧ Fld Z h r "com/example/ceruline/ceruline/parsing/SourceReader" "column" "I" (.int y2)) := by
  refine enter (Ls := #[.val (.ref r), .val (.int (1 : Int32))]) (plainFor_of_name pn_9) (fun m => by exact entry_eq rfl) ?_
  intro p e s m below meth cd_ s₁ S0 hx hby hml hret hlk hnm hown hZ X0 e0 k0
  have N0 := Fr.nil n0
  have k1 : To p.tables e below S0 (s₁.setTop (mkF m 6 #[.val (.ref r), .val (.int (1 : Int32))] [(.ref r)])) := fun tt hq => k0 tt (by
    refine XS.iloadN X0.here hx rfl (hb hby d_method_2_code_0) rfl ?_
    refine XS.iconst X0.here hx rfl (hb hby d_method_2_code_1) ?_
    refine XS.icmpNo X0.here hx rfl (hb hby d_method_2_code_2) rfl (flt (by decide)).1 ?_
    refine XS.aloadN X0.here hx rfl (hb hby d_method_2_code_5) rfl rfl ?_
    exact hq)
  obtain ⟨_, T2, L2, X2, ⟨x2, y2x, rfl, Nq2, Kq2, P2_0, P2_1, P2_2, P2_3, P2_4, P2_5⟩, k2a⟩ := callV' X0 hx hZ (y := (⟨"com/example/ceruline/ceruline/parsing/SourceReader", "advance", "()V"⟩ : MethodName)) (z := (⟨"com/example/ceruline/ceruline/parsing/SourceReader", "advance", "()V"⟩ : MethodName)) hown (wq hw 77 rfl) (wq hw 78 rfl) (notFace_of_selects (args := #[]) (mvT hZ (wq hw 80 rfl))) (wq hw 80 rfl) (wq hw 79 rfl) (by decide) P0 (backC (W := 0) (rm_adv1 l Z a0 hw zc fm r so a t kt c0 c1 c2 xl xc h0 n0 (by omega) S_c hzc S_f hfm O0 P0 P1 P2 P3 P4 P5 R0 R1 R2 R3 (by omega) (by omega) (by omega)) hZ (wq hw 81 rfl) (wq hw 32 rfl) (by decide) (by decide)) e0 (argsL := []) (rest := []) rfl rfl pd_9 rfl (by rw [hml]; rfl) (hb hby d_method_2_code_6) (Nat.le_of_eq rfl) (by decide) (by decide) k1
  have k2 : To p.tables e below S0 (T2.setTop (mkF m 9 #[.val (.ref r), .val (.int (1 : Int32))] [])) := k2a
  have N2 := N0.app Nq2
  obtain ⟨h2, e2⟩ : ∃ z, T2.heap = z := ⟨_, rfl⟩
  rw [e2] at Kq2 P2_0 P2_1 P2_2 P2_3 P2_4 P2_5
  have z2 : h0.size ≤ h2.size := Kq2.1
  have k3 : To p.tables e below S0 (T2.setTop (mkF m 27 #[.val (.ref r), .val (.int (1 : Int32))] [])) := fun tt hq => k2 tt (by
    refine XS.iloadN X2.here hx rfl (hb hby d_method_2_code_9) rfl ?_
    refine XS.iconst X2.here hx rfl (hb hby d_method_2_code_10) ?_
    refine XS.icmpYes X2.here hx rfl (pc0 := 11) (pc' := 18) rfl (hb hby d_method_2_code_11) rfl (tlt (by decide)).1 (by decide) (by decide) ?_
    refine XS.iloadN X2.here hx rfl (hb hby d_method_2_code_18) rfl ?_
    refine XS.iconst X2.here hx rfl (hb hby d_method_2_code_19) ?_
    refine XS.icmpYes X2.here hx rfl (pc0 := 20) (pc' := 27) rfl (hb hby d_method_2_code_20) rfl (tlt (by decide)).1 (by decide) (by decide) ?_
    exact hq)
  have hE := e2
  refine retVoid X2 hx hret hlk (hb hby d_method_2_code_27) k3 ?_ (by decide) (by decide)
  try rw [hE]
  exact ⟨_, _, rfl, N2, ((Keep.refl h0 [r]).trans Kq2 (allS (Or.inl (by simp)) all0)), P2_0, P2_1, P2_2, P2_3, P2_4, P2_5⟩
set_option maxRecDepth 65536 in
set_option maxHeartbeats 40000000 in
theorem rm_crb1_2 (l : Launch) (Z : State) (a0 : Array Value) (hw : ∀ d ∈ tables_1, d.before a0 Z = true) (t : Addr) (kt : ClassId) (c0 : Int32) (c1 : Int32) (c2 : Int32) (h0 : Heap) (n0 : Nat) (hn0 : n0 ≤ h0.size) (P0 : Arv Z h0 t kt .byte (3 : Int32) [(.int c0), (.int c1), (.int c2)] (.int (0 : Int32))) (yt : @LT.lt Nat instLTNat t h0.size) :
    Con l Z (⟨"java/util/Arrays", "copyOfRangeByte", "([BII)[B"⟩ : MethodName) jdk_65_method_133_code 5 (some (.array .byte)) [] ({ frames := 1, cells := 1, slots := 1, locals := 18 } : Room) #[(.ref t), (.int (1 : Int32)), (.int (2 : Int32))] h0 (fun v h L => ∃ (b : Addr) (kb : ClassId), v = some (.ref b) ∧ Fr n0 L ∧ h0.size ≤ b ∧ Keep h0 h [] ∧ Arv Z h b kb .byte (1 : Int32) [(.int c1)] (.int (0 : Int32))) := by
  refine enter (Ls := #[.val (.ref t), .val (.int (1 : Int32)), .val (.int (2 : Int32)), .unset, .unset]) (plainFor_of_name pn_8) (fun m => by exact entry_eq rfl) ?_
  intro p e s m below meth cd_ s₁ S0 hx hby hml hret hlk hnm hown hZ X0 e0 k0
  have N0 := Fr.nil n0
  have k1 : To p.tables e below S0 (s₁.setTop (mkF m 2 #[.val (.ref t), .val (.int (1 : Int32)), .val (.int (2 : Int32)), .unset, .unset] [(.int (2 : Int32)), (.int (1 : Int32))])) := fun tt hq => k0 tt (by
    refine XS.iloadN X0.here hx rfl (hb hby d_jdk_65_method_133_code_0) rfl ?_
    refine XS.iloadN X0.here hx rfl (hb hby d_jdk_65_method_133_code_1) rfl ?_
    exact hq)
  obtain ⟨_, T2, L2, X2, ⟨rfl, Nq2, eq2⟩, k2a⟩ := callS' X0 hx hZ (y := (⟨"java/util/Arrays", "checkLength", "(II)V"⟩ : MethodName)) hown (wq hw 157 rfl) (wq hw 158 rfl) (wq hw 152 rfl) (wq hw 159 rfl) (by decide) (backC (W := 0) (rm_ckl l Z a0 hw (1 : Int32) (2 : Int32) h0 n0 (by omega) (by decide)) hZ (wq hw 159 rfl) (wq hw 152 rfl) (by decide) (by decide)) e0 (argsL := [(.int (1 : Int32)), (.int (2 : Int32))]) (rest := []) rfl rfl pd_7 rfl (by rw [hml]; rfl) (hb hby d_jdk_65_method_133_code_2) (Nat.le_of_eq rfl) (by decide) (by decide) k1
  have k2 : To p.tables e below S0 (T2.setTop (mkF m 5 #[.val (.ref t), .val (.int (1 : Int32)), .val (.int (2 : Int32)), .unset, .unset] [])) := k2a
  have N2 := N0.app Nq2
  have e2 : T2.heap = h0 := eq2
  have k3 : To p.tables e below S0 (T2.setTop (mkF m 10 #[.val (.ref t), .val (.int (1 : Int32)), .val (.int (2 : Int32)), .val (.int (1 : Int32)), .unset] [(.int (1 : Int32))])) := fun tt hq => k2 tt (by
    refine XS.iloadN X2.here hx rfl (hb hby d_jdk_65_method_133_code_5) rfl ?_
    refine XS.iloadN X2.here hx rfl (hb hby d_jdk_65_method_133_code_6) rfl ?_
    refine XS.isub X2.here hx rfl (hb hby d_jdk_65_method_133_code_7) rfl ?_
    refine XS.istoreN X2.here hx rfl (hb hby d_jdk_65_method_133_code_8) rfl (l' := #[.val (.ref t), .val (.int (1 : Int32)), .val (.int (2 : Int32)), .val (.int (1 : Int32)), .unset]) rfl ?_
    refine XS.iloadN X2.here hx rfl (hb hby d_jdk_65_method_133_code_9) rfl ?_
    exact hq)
  obtain ⟨T4, h4, c4, X4, e4, E4, A4, st4⟩ := newP X2 hx hZ (wq hw 19 rfl) e2 (g := (mkF m 10 #[.val (.ref t), .val (.int (1 : Int32)), .val (.int (2 : Int32)), .val (.int (1 : Int32)), .unset] [(.int (1 : Int32))])) rfl (hb hby d_jdk_65_method_133_code_10) rfl (by decide) (cap := 1) (by decide) (by decide) (by decide) (by decide)
  obtain ⟨b4, g4⟩ : ∃ z, z = h0.size := ⟨_, rfl⟩
  rw [← g4] at A4 st4
  have k4 : To p.tables e below S0 (T4.setTop (mkF m 12 #[.val (.ref t), .val (.int (1 : Int32)), .val (.int (2 : Int32)), .val (.int (1 : Int32)), .unset] [(.ref b4)])) := fun tt hq => k3 tt (st4 tt hq)
  have z4 : h0.size ≤ h4.size := E4.1
  have V4 : Arv Z h4 b4 c4 .byte (1 : Int32) [(.int (0 : Int32))] (.int (0 : Int32)) := (Arv.new A4 (by decide)).pad (pad_rep [] (.int (0 : Int32)) 1)
  have y4 : @LT.lt Nat instLTNat b4 h4.size := V4.lt
  have f5 : Arv Z h4 t kt .byte (3 : Int32) [(.int c0), (.int c1), (.int c2)] (.int (0 : Int32)) := (P0.ext E4)
  have k6 : To p.tables e below S0 (T4.setTop (mkF m 20 #[.val (.ref t), .val (.int (1 : Int32)), .val (.int (2 : Int32)), .val (.int (1 : Int32)), .val (.ref b4)] [(.ref t), (.int (0 : Int32)), (.ref b4), (.int (1 : Int32)), (.ref t)])) := fun tt hq => k4 tt (by
    refine XS.astore X4.here hx rfl (hb hby d_jdk_65_method_133_code_12) rfl rfl (l' := #[.val (.ref t), .val (.int (1 : Int32)), .val (.int (2 : Int32)), .val (.int (1 : Int32)), .val (.ref b4)]) rfl ?_
    refine XS.aloadN X4.here hx rfl (hb hby d_jdk_65_method_133_code_14) rfl rfl ?_
    refine XS.iloadN X4.here hx rfl (hb hby d_jdk_65_method_133_code_15) rfl ?_
    refine XS.aload X4.here hx rfl (hb hby d_jdk_65_method_133_code_16) rfl rfl ?_
    refine XS.iconst X4.here hx rfl (hb hby d_jdk_65_method_133_code_18) ?_
    refine XS.aloadN X4.here hx rfl (hb hby d_jdk_65_method_133_code_19) rfl rfl ?_
    exact hq)
  obtain ⟨cl7, Ar7, -, S7, M7, -, -⟩ := id f5
  have st7 := fun tt => X4.arraylength hx (by rw [e4]; exact Ar7.1) (State.isArrayOf_alike hZ.alike Ar7.2.1) (g := (mkF m 20 #[.val (.ref t), .val (.int (1 : Int32)), .val (.int (2 : Int32)), .val (.int (1 : Int32)), .val (.ref b4)] [(.ref t), (.int (0 : Int32)), (.ref b4), (.int (1 : Int32)), (.ref t)])) rfl rfl (hb hby d_jdk_65_method_133_code_20) tt
  rw [len_of S7 M7] at st7
  have k7 : To p.tables e below S0 (T4.setTop (mkF m 21 #[.val (.ref t), .val (.int (1 : Int32)), .val (.int (2 : Int32)), .val (.int (1 : Int32)), .val (.ref b4)] [(.int (3 : Int32)), (.int (0 : Int32)), (.ref b4), (.int (1 : Int32)), (.ref t)])) := fun tt hq => k6 tt (st7 tt hq)
  have k8 : To p.tables e below S0 (T4.setTop (mkF m 24 #[.val (.ref t), .val (.int (1 : Int32)), .val (.int (2 : Int32)), .val (.int (1 : Int32)), .val (.ref b4)] [(.int (1 : Int32)), (.int (2 : Int32)), (.int (0 : Int32)), (.ref b4), (.int (1 : Int32)), (.ref t)])) := fun tt hq => k7 tt (by
    refine XS.iloadN X4.here hx rfl (hb hby d_jdk_65_method_133_code_21) rfl ?_
    refine XS.isub X4.here hx rfl (hb hby d_jdk_65_method_133_code_22) rfl ?_
    refine XS.iloadN X4.here hx rfl (hb hby d_jdk_65_method_133_code_23) rfl ?_
    exact hq)
  obtain ⟨_, T9, L9, X9, ⟨rfl, Nq9, eq9⟩, k9a⟩ := callS' X4 hx hZ (y := (⟨"java/lang/Math", "min", "(II)I"⟩ : MethodName)) hown (wq hw 160 rfl) (wq hw 70 rfl) (wq hw 71 rfl) (wq hw 72 rfl) (by decide) (backC (W := 4) (rm_min l Z a0 hw (2 : Int32) (1 : Int32) (1 : Int32) h4 n0 (by omega) (by decide)) hZ (wq hw 72 rfl) (wq hw 71 rfl) (by decide) (by decide)) e4 (argsL := [(.int (2 : Int32)), (.int (1 : Int32))]) (rest := [(.int (0 : Int32)), (.ref b4), (.int (1 : Int32)), (.ref t)]) rfl rfl pd_15 rfl (by rw [hml]; rfl) (hb hby d_jdk_65_method_133_code_24) (Nat.le_of_eq rfl) (by decide) (by decide) k8
  have k9 : To p.tables e below S0 (T9.setTop (mkF m 27 #[.val (.ref t), .val (.int (1 : Int32)), .val (.int (2 : Int32)), .val (.int (1 : Int32)), .val (.ref b4)] [(.int (1 : Int32)), (.int (0 : Int32)), (.ref b4), (.int (1 : Int32)), (.ref t)])) := k9a
  have N9 := N2.app Nq9
  have e9 : T9.heap = h4 := eq9
  obtain ⟨T10, h10, L10, X10, F10, e10, Kq10, V10, st10⟩ := copyB X9 hx hZ hown (wq hw 161 rfl) (wq hw 164 rfl) (wq hw 162 rfl) (wq hw 163 rfl) e9 f5 V4 (i := (1 : Int32)) (ws := [(.int c1)]) (by decide) (by decide) (by intro j hj; have hj' : j < 1 := Nat.lt_of_lt_of_eq hj (by decide); rcases j with _ | j <;> first | rfl | omega) (g := (mkF m 27 #[.val (.ref t), .val (.int (1 : Int32)), .val (.int (2 : Int32)), .val (.int (1 : Int32)), .val (.ref b4)] [(.int (1 : Int32)), (.int (0 : Int32)), (.ref b4), (.int (1 : Int32)), (.ref t)])) rfl (by rw [hml]; rfl) rfl (hb hby d_jdk_65_method_133_code_27) (by decide) (by show 2 * 0 + _ + _ ≤ _; decide +kernel)
  have k10 : To p.tables e below S0 (T10.setTop (mkF m 30 #[.val (.ref t), .val (.int (1 : Int32)), .val (.int (2 : Int32)), .val (.int (1 : Int32)), .val (.ref b4)] [])) := fun tt hq => k9 tt (st10 tt hq)
  have z10 : h4.size ≤ h10.size := Kq10.1
  have N10 := N9.app (F10 n0 (by omega))
  have k11 : To p.tables e below S0 (T10.setTop (mkF m 32 #[.val (.ref t), .val (.int (1 : Int32)), .val (.int (2 : Int32)), .val (.int (1 : Int32)), .val (.ref b4)] [(.ref b4)])) := fun tt hq => k10 tt (by
    refine XS.aload X10.here hx rfl (hb hby d_jdk_65_method_133_code_30) rfl rfl ?_
    exact hq)
  have hE := e10
  refine retRef X10 hx hret hlk rfl rfl (hb hby d_jdk_65_method_133_code_32) k11 ?_ (by decide) (by decide)
  try rw [hE]
  exact ⟨_, _, rfl, N10, (by omega), (((Keep.refl h0 []).ext E4).trans Kq10 (allS (Or.inr (by omega)) all0)), V10⟩
set_option maxRecDepth 65536 in
set_option maxHeartbeats 40000000 in
theorem rm_cro1_2 (l : Launch) (Z : State) (a0 : Array Value) (hw : ∀ d ∈ tables_1, d.before a0 Z = true) (t : Addr) (kt : ClassId) (c0 : Int32) (c1 : Int32) (c2 : Int32) (h0 : Heap) (n0 : Nat) (hn0 : n0 ≤ h0.size) (P0 : Arv Z h0 t kt .byte (3 : Int32) [(.int c0), (.int c1), (.int c2)] (.int (0 : Int32))) (yt : @LT.lt Nat instLTNat t h0.size) :
    Con l Z (⟨"java/util/Arrays", "copyOfRange", "([BII)[B"⟩ : MethodName) jdk_65_method_132_code 3 (some (.array .byte)) [] ({ frames := 2, cells := 1, slots := 1, locals := 34 } : Room) #[(.ref t), (.int (1 : Int32)), (.int (2 : Int32))] h0 (fun v h L => ∃ (b : Addr) (kb : ClassId), v = some (.ref b) ∧ Fr n0 L ∧ h0.size ≤ b ∧ Keep h0 h [] ∧ Arv Z h b kb .byte (1 : Int32) [(.int c1)] (.int (0 : Int32))) := by
  refine enter (Ls := #[.val (.ref t), .val (.int (1 : Int32)), .val (.int (2 : Int32))]) (plainFor_of_name pn_8) (fun m => by exact entry_eq rfl) ?_
  intro p e s m below meth cd_ s₁ S0 hx hby hml hret hlk hnm hown hZ X0 e0 k0
  have N0 := Fr.nil n0
  have k1 : To p.tables e below S0 (s₁.setTop (mkF m 13 #[.val (.ref t), .val (.int (1 : Int32)), .val (.int (2 : Int32))] [(.int (2 : Int32)), (.int (1 : Int32)), (.ref t)])) := fun tt hq => k0 tt (by
    refine XS.iloadN X0.here hx rfl (hb hby d_jdk_65_method_132_code_0) rfl ?_
    refine XS.ifYes X0.here hx rfl (pc0 := 1) (pc' := 10) rfl (hb hby d_jdk_65_method_132_code_1) rfl ((if0 _ _).trans (feq (by decide)).2) (by decide) (by decide) ?_
    refine XS.aloadN X0.here hx rfl (hb hby d_jdk_65_method_132_code_10) rfl rfl ?_
    refine XS.iloadN X0.here hx rfl (hb hby d_jdk_65_method_132_code_11) rfl ?_
    refine XS.iloadN X0.here hx rfl (hb hby d_jdk_65_method_132_code_12) rfl ?_
    exact hq)
  obtain ⟨_, T2, L2, X2, ⟨t2, kt2, rfl, Nq2, gt2, Kq2, V2⟩, k2a⟩ := callS' X0 hx hZ (y := (⟨"java/util/Arrays", "copyOfRangeByte", "([BII)[B"⟩ : MethodName)) hown (wq hw 154 rfl) (wq hw 155 rfl) (wq hw 152 rfl) (wq hw 156 rfl) (by decide) (backC (W := 0) (rm_crb1_2 l Z a0 hw t kt c0 c1 c2 h0 n0 (by omega) P0 (by omega)) hZ (wq hw 156 rfl) (wq hw 152 rfl) (by decide) (by decide)) e0 (argsL := [(.ref t), (.int (1 : Int32)), (.int (2 : Int32))]) (rest := []) rfl rfl pd_23 rfl (by rw [hml]; rfl) (hb hby d_jdk_65_method_132_code_13) (Nat.le_of_eq rfl) (by decide) (by decide) k1
  have k2 : To p.tables e below S0 (T2.setTop (mkF m 16 #[.val (.ref t), .val (.int (1 : Int32)), .val (.int (2 : Int32))] [(.ref t2)])) := k2a
  have N2 := N0.app Nq2
  obtain ⟨h2, e2⟩ : ∃ z, T2.heap = z := ⟨_, rfl⟩
  rw [e2] at Kq2 V2
  have z2 : h0.size ≤ h2.size := Kq2.1
  have y2 : @LT.lt Nat instLTNat t2 h2.size := V2.lt
  have hE := e2
  refine retRef X2 hx hret hlk rfl rfl (hb hby d_jdk_65_method_132_code_16) k2 ?_ (by decide) (by decide)
  try rw [hE]
  exact ⟨_, _, rfl, N2, (by omega), ((Keep.refl h0 []).trans Kq2 all0), V2⟩
set_option maxRecDepth 65536 in
set_option maxHeartbeats 40000000 in
theorem rm_ns1_2 (l : Launch) (Z : State) (a0 : Array Value) (hw : ∀ d ∈ tables_1, d.before a0 Z = true) (t : Addr) (kt : ClassId) (c0 : Int32) (c1 : Int32) (c2 : Int32) (h0 : Heap) (n0 : Nat) (hn0 : n0 ≤ h0.size) (P0 : Arv Z h0 t kt .byte (3 : Int32) [(.int c0), (.int c1), (.int c2)] (.int (0 : Int32))) (yt : @LT.lt Nat instLTNat t h0.size) :
    Con l Z (⟨"java/lang/StringLatin1", "newString", "([BII)Ljava/lang/String;"⟩ : MethodName) jdk_43_method_47_code 3 (some (.object "java/lang/String")) [] ({ frames := 3, cells := 2, slots := 5, locals := 50 } : Room) #[(.ref t), (.int (1 : Int32)), (.int (1 : Int32))] h0 (fun v h L => ∃ (b t : Addr) (k : ClassId), v = some (.ref b) ∧ Fr n0 L ∧ (@LT.lt Nat instLTNat b h.size) ∧ (@LT.lt Nat instLTNat t h.size) ∧ Keep h0 h [] ∧ Exa Z h b "java/lang/String" ∧ Fld Z h b "java/lang/String" "value" "[B" (.ref t) ∧ Fld Z h b "java/lang/String" "coder" "B" (.int (0 : Int32)) ∧ Arv Z h t k .byte (1 : Int32) [(.int c1)] (.int 0)) := by
  refine enter (Ls := #[.val (.ref t), .val (.int (1 : Int32)), .val (.int (1 : Int32))]) (plainFor_of_name pn_4) (fun m => by exact entry_eq rfl) ?_
  intro p e s m below meth cd_ s₁ S0 hx hby hml hret hlk hnm hown hZ X0 e0 k0
  have N0 := Fr.nil n0
  have k1 : To p.tables e below S0 (s₁.setTop (mkF m 7 #[.val (.ref t), .val (.int (1 : Int32)), .val (.int (1 : Int32))] [])) := fun tt hq => k0 tt (by
    refine XS.iloadN X0.here hx rfl (hb hby d_jdk_43_method_47_code_0) rfl ?_
    refine XS.ifYes X0.here hx rfl (pc0 := 1) (pc' := 7) rfl (hb hby d_jdk_43_method_47_code_1) rfl ((if0 _ _).trans (feq (by decide)).2) (by decide) (by decide) ?_
    exact hq)
  obtain ⟨T2, h2, X2, e2, E2, A2, D2, -, st2⟩ := newO X0 hx hZ hown (wq hw 149 rfl) (wq hw 2 rfl) (wq hw 3 rfl) e0 (g := (mkF m 7 #[.val (.ref t), .val (.int (1 : Int32)), .val (.int (1 : Int32))] [])) rfl (hb hby d_jdk_43_method_47_code_7) (by decide) (by decide)
  obtain ⟨b2, g2⟩ : ∃ z, z = h0.size := ⟨_, rfl⟩
  rw [← g2] at A2 D2 st2
  have k2 : To p.tables e below S0 (T2.setTop (mkF m 10 #[.val (.ref t), .val (.int (1 : Int32)), .val (.int (1 : Int32))] [(.ref b2)])) := fun tt hq => k1 tt (st2 tt hq)
  have z2 : h0.size ≤ h2.size := E2.1
  have y2 : @LT.lt Nat instLTNat b2 h2.size := A2.lt
  have F2_coder : Fld Z h2 b2 "java/lang/String" "coder" "B" (.int (0 : Int32)) := D2 (Or.inr (wq hw 27 rfl)) (ty := .byte) (by decide)
  have F2_value : Fld Z h2 b2 "java/lang/String" "value" "[B" .null := D2 (Or.inr (wq hw 29 rfl)) (ty := (.array .byte)) (by decide)
  have k3 : To p.tables e below S0 (T2.setTop (mkF m 16 #[.val (.ref t), .val (.int (1 : Int32)), .val (.int (1 : Int32))] [(.int (2 : Int32)), (.int (1 : Int32)), (.ref t), (.ref b2), (.ref b2)])) := fun tt hq => k2 tt (by
    refine XS.dup X2.here hx rfl (hb hby d_jdk_43_method_47_code_10) rfl rfl ?_
    refine XS.aloadN X2.here hx rfl (hb hby d_jdk_43_method_47_code_11) rfl rfl ?_
    refine XS.iloadN X2.here hx rfl (hb hby d_jdk_43_method_47_code_12) rfl ?_
    refine XS.iloadN X2.here hx rfl (hb hby d_jdk_43_method_47_code_13) rfl ?_
    refine XS.iloadN X2.here hx rfl (hb hby d_jdk_43_method_47_code_14) rfl ?_
    refine XS.iadd X2.here hx rfl (hb hby d_jdk_43_method_47_code_15) rfl ?_
    exact hq)
  have f4 : Arv Z h2 t kt .byte (3 : Int32) [(.int c0), (.int c1), (.int c2)] (.int (0 : Int32)) := (P0.ext E2)
  obtain ⟨_, T5, L5, X5, ⟨t5, kt5, rfl, Nq5, gt5, Kq5, V5⟩, k5a⟩ := callS' X2 hx hZ (y := (⟨"java/util/Arrays", "copyOfRange", "([BII)[B"⟩ : MethodName)) hown (wq hw 150 rfl) (wq hw 151 rfl) (wq hw 152 rfl) (wq hw 153 rfl) (by decide) (backC (W := 2) (rm_cro1_2 l Z a0 hw t kt c0 c1 c2 h2 n0 (by omega) f4 (by omega)) hZ (wq hw 153 rfl) (wq hw 152 rfl) (by decide) (by decide)) e2 (argsL := [(.ref t), (.int (1 : Int32)), (.int (2 : Int32))]) (rest := [(.ref b2), (.ref b2)]) rfl rfl pd_23 rfl (by rw [hml]; rfl) (hb hby d_jdk_43_method_47_code_16) (Nat.le_of_eq rfl) (by decide) (by decide) k3
  have k5 : To p.tables e below S0 (T5.setTop (mkF m 19 #[.val (.ref t), .val (.int (1 : Int32)), .val (.int (1 : Int32))] [(.ref t5), (.ref b2), (.ref b2)])) := k5a
  have N5 := N0.app Nq5
  obtain ⟨h5, e5⟩ : ∃ z, T5.heap = z := ⟨_, rfl⟩
  rw [e5] at Kq5 V5
  have z5 : h2.size ≤ h5.size := Kq5.1
  have y5 : @LT.lt Nat instLTNat t5 h5.size := V5.lt
  have k6 : To p.tables e below S0 (T5.setTop (mkF m 20 #[.val (.ref t), .val (.int (1 : Int32)), .val (.int (1 : Int32))] [(.int (0 : Int32)), (.ref t5), (.ref b2), (.ref b2)])) := fun tt hq => k5 tt (by
    refine XS.iconst X5.here hx rfl (hb hby d_jdk_43_method_47_code_19) ?_
    exact hq)
  have f7 : Exa Z h5 b2 "java/lang/String" := (A2.keep Kq5)
  have f8 : Fld Z h5 b2 "java/lang/String" "value" "[B" .null := (F2_value.keep Kq5 nin0)
  have f9 : Fld Z h5 b2 "java/lang/String" "coder" "B" (.int (0 : Int32)) := (F2_coder.keep Kq5 nin0)
  obtain ⟨_, T10, L10, X10, ⟨rfl, Nq10, Kq10, A10, Fv10, Fc10⟩, k10a⟩ := callC' X5 hx hZ (y := (⟨"java/lang/String", "<init>", "([BB)V"⟩ : MethodName)) rfl hown (wq hw 165 rfl) (wq hw 166 rfl) (wq hw 167 rfl) (by decide) (backC (W := 1) (rm_sbb l Z a0 hw b2 t5 .null (.int (0 : Int32)) h5 n0 (by omega) f7 f8 f9 (by omega)) hZ (wq hw 167 rfl) (wq hw 3 rfl) (by decide) (by decide)) e5 (argsL := [(.ref t5), (.int (0 : Int32))]) (rest := [(.ref b2)]) rfl rfl pd_24 rfl (by rw [hml]; rfl) (hb hby d_jdk_43_method_47_code_20) (Nat.le_of_eq rfl) (by decide) (by decide) k6
  have k10 : To p.tables e below S0 (T10.setTop (mkF m 23 #[.val (.ref t), .val (.int (1 : Int32)), .val (.int (1 : Int32))] [(.ref b2)])) := k10a
  have N10 := N5.app Nq10
  obtain ⟨h10, e10⟩ : ∃ z, T10.heap = z := ⟨_, rfl⟩
  rw [e10] at Kq10 A10 Fv10 Fc10
  have z10 : h5.size ≤ h10.size := Kq10.1
  have f11 : Arv Z h10 t5 kt5 .byte (1 : Int32) [(.int c1)] (.int (0 : Int32)) := (V5.keep Kq10 (nin1 (by omega)))
  have hE := e10
  refine retRef X10 hx hret hlk rfl rfl (hb hby d_jdk_43_method_47_code_23) k10 ?_ (by decide) (by decide)
  try rw [hE]
  exact ⟨_, _, _, rfl, N10, A10.lt, f11.lt, ((((Keep.refl h0 []).ext E2).trans Kq5 all0).trans Kq10 (allS (Or.inr (by omega)) all0)), A10, Fv10, Fc10, f11⟩
set_option maxRecDepth 65536 in
set_option maxHeartbeats 40000000 in
theorem rm_sub1_2 (l : Launch) (Z : State) (a0 : Array Value) (hw : ∀ d ∈ tables_1, d.before a0 Z = true) (zc : Int32) (fm : Value) (a : Addr) (t : Addr) (kt : ClassId) (c0 : Int32) (c1 : Int32) (c2 : Int32) (h0 : Heap) (n0 : Nat) (hn0 : n0 ≤ h0.size) (S_c : Sta Z Z.heap "java/lang/String" "COMPACT_STRINGS" "Z" (.int zc)) (hzc : ¬ zc = (0 : Int32)) (S_f : Sta Z Z.heap "jdk/internal/util/Preconditions" "SIOOBE_FORMATTER" "Ljava/util/function/BiFunction;" fm) (hfm : fm.isRef = true) (O0 : Old Z n0 h0) (P0 : Exa Z h0 a "java/lang/String") (P1 : Fld Z h0 a "java/lang/String" "value" "[B" (.ref t)) (P2 : Fld Z h0 a "java/lang/String" "coder" "B" (.int (0 : Int32))) (P3 : Arv Z h0 t kt .byte (3 : Int32) [(.int c0), (.int c1), (.int c2)] (.int 0)) (yt : @LT.lt Nat instLTNat t h0.size) :
    Con l Z (⟨"java/lang/String", "substring", "(II)Ljava/lang/String;"⟩ : MethodName) jdk_42_method_92_code 5 (some (.object "java/lang/String")) [] ({ frames := 4, cells := 2, slots := 5, locals := 64 } : Room) #[(.ref a), (.int (1 : Int32)), (.int (2 : Int32))] h0 (fun v h L => ∃ (b t : Addr) (k : ClassId), v = some (.ref b) ∧ Fr n0 L ∧ (@LT.lt Nat instLTNat b h.size) ∧ (@LT.lt Nat instLTNat t h.size) ∧ Keep h0 h [] ∧ Exa Z h b "java/lang/String" ∧ Fld Z h b "java/lang/String" "value" "[B" (.ref t) ∧ Fld Z h b "java/lang/String" "coder" "B" (.int (0 : Int32)) ∧ Arv Z h t k .byte (1 : Int32) [(.int c1)] (.int 0)) := by
  refine enter (Ls := #[.val (.ref a), .val (.int (1 : Int32)), .val (.int (2 : Int32)), .unset, .unset]) (plainFor_of_name pn_1) (fun m => by exact entry_eq rfl) ?_
  intro p e s m below meth cd_ s₁ S0 hx hby hml hret hlk hnm hown hZ X0 e0 k0
  have N0 := Fr.nil n0
  have k1 : To p.tables e below S0 (s₁.setTop (mkF m 1 #[.val (.ref a), .val (.int (1 : Int32)), .val (.int (2 : Int32)), .unset, .unset] [(.ref a)])) := fun tt hq => k0 tt (by
    refine XS.aloadN X0.here hx rfl (hb hby d_jdk_42_method_92_code_0) rfl rfl ?_
    exact hq)
  obtain ⟨_, T2, L2, X2, ⟨rfl, Nq2, eq2⟩, k2a⟩ := callV' X0 hx hZ (y := (⟨"java/lang/String", "length", "()I"⟩ : MethodName)) (z := (⟨"java/lang/String", "length", "()I"⟩ : MethodName)) hown (wq hw 122 rfl) (wq hw 123 rfl) (notFace_of_selects (args := #[]) (mvT hZ (wq hw 125 rfl))) (wq hw 125 rfl) (wq hw 124 rfl) (by decide) P0 (backC (W := 0) (rm_len3 l Z a0 hw zc a t kt c0 c1 c2 h0 n0 (by omega) S_c hzc O0 P0 P1 P2 P3) hZ (wq hw 126 rfl) (wq hw 3 rfl) (by decide) (by decide)) e0 (argsL := []) (rest := []) rfl rfl pd_17 rfl (by rw [hml]; rfl) (hb hby d_jdk_42_method_92_code_1) (Nat.le_of_eq rfl) (by decide) (by decide) k1
  have k2 : To p.tables e below S0 (T2.setTop (mkF m 4 #[.val (.ref a), .val (.int (1 : Int32)), .val (.int (2 : Int32)), .unset, .unset] [(.int (3 : Int32))])) := k2a
  have N2 := N0.app Nq2
  have e2 : T2.heap = h0 := eq2
  have k3 : To p.tables e below S0 (T2.setTop (mkF m 8 #[.val (.ref a), .val (.int (1 : Int32)), .val (.int (2 : Int32)), .val (.int (3 : Int32)), .unset] [(.int (3 : Int32)), (.int (2 : Int32)), (.int (1 : Int32))])) := fun tt hq => k2 tt (by
    refine XS.istoreN X2.here hx rfl (hb hby d_jdk_42_method_92_code_4) rfl (l' := #[.val (.ref a), .val (.int (1 : Int32)), .val (.int (2 : Int32)), .val (.int (3 : Int32)), .unset]) rfl ?_
    refine XS.iloadN X2.here hx rfl (hb hby d_jdk_42_method_92_code_5) rfl ?_
    refine XS.iloadN X2.here hx rfl (hb hby d_jdk_42_method_92_code_6) rfl ?_
    refine XS.iloadN X2.here hx rfl (hb hby d_jdk_42_method_92_code_7) rfl ?_
    exact hq)
  obtain ⟨_, T4, L4, X4, ⟨rfl, Nq4, eq4⟩, k4a⟩ := callS' X2 hx hZ (y := (⟨"java/lang/String", "checkBoundsBeginEnd", "(III)V"⟩ : MethodName)) hown (wq hw 132 rfl) (wq hw 133 rfl) (wq hw 3 rfl) (wq hw 134 rfl) (by decide) (backC (W := 0) (rm_cbe l Z a0 hw fm (1 : Int32) (2 : Int32) (3 : Int32) h0 n0 (by omega) S_f hfm O0 (by decide) (by decide) (by decide)) hZ (wq hw 134 rfl) (wq hw 3 rfl) (by decide) (by decide)) e2 (argsL := [(.int (1 : Int32)), (.int (2 : Int32)), (.int (3 : Int32))]) (rest := []) rfl rfl pd_18 rfl (by rw [hml]; rfl) (hb hby d_jdk_42_method_92_code_8) (Nat.le_of_eq rfl) (by decide) (by decide) k3
  have k4 : To p.tables e below S0 (T4.setTop (mkF m 11 #[.val (.ref a), .val (.int (1 : Int32)), .val (.int (2 : Int32)), .val (.int (3 : Int32)), .unset] [])) := k4a
  have N4 := N2.app Nq4
  have e4 : T4.heap = h0 := eq4
  have k5 : To p.tables e below S0 (T4.setTop (mkF m 28 #[.val (.ref a), .val (.int (1 : Int32)), .val (.int (2 : Int32)), .val (.int (3 : Int32)), .val (.int (1 : Int32))] [(.ref a)])) := fun tt hq => k4 tt (by
    refine XS.iloadN X4.here hx rfl (hb hby d_jdk_42_method_92_code_11) rfl ?_
    refine XS.ifYes X4.here hx rfl (pc0 := 12) (pc' := 22) rfl (hb hby d_jdk_42_method_92_code_12) rfl ((if0 _ _).trans (feq (by decide)).2) (by decide) (by decide) ?_
    refine XS.iloadN X4.here hx rfl (hb hby d_jdk_42_method_92_code_22) rfl ?_
    refine XS.iloadN X4.here hx rfl (hb hby d_jdk_42_method_92_code_23) rfl ?_
    refine XS.isub X4.here hx rfl (hb hby d_jdk_42_method_92_code_24) rfl ?_
    refine XS.istore X4.here hx rfl (hb hby d_jdk_42_method_92_code_25) rfl (l' := #[.val (.ref a), .val (.int (1 : Int32)), .val (.int (2 : Int32)), .val (.int (3 : Int32)), .val (.int (1 : Int32))]) rfl ?_
    refine XS.aloadN X4.here hx rfl (hb hby d_jdk_42_method_92_code_27) rfl rfl ?_
    exact hq)
  obtain ⟨_, T6, L6, X6, ⟨rfl, Nq6, eq6⟩, k6a⟩ := callV' X4 hx hZ (y := (⟨"java/lang/String", "isLatin1", "()Z"⟩ : MethodName)) (z := (⟨"java/lang/String", "isLatin1", "()Z"⟩ : MethodName)) hown (wq hw 89 rfl) (wq hw 90 rfl) (notFace_of_selects (args := #[]) (mvT hZ (wq hw 92 rfl))) (wq hw 92 rfl) (wq hw 91 rfl) (by decide) P0 (backC (W := 0) (rm_latin l Z a0 hw zc a h0 n0 (by omega) S_c hzc O0 P2) hZ (wq hw 93 rfl) (wq hw 3 rfl) (by decide) (by decide)) e4 (argsL := []) (rest := []) rfl rfl pd_6 rfl (by rw [hml]; rfl) (hb hby d_jdk_42_method_92_code_28) (Nat.le_of_eq rfl) (by decide) (by decide) k5
  have k6 : To p.tables e below S0 (T6.setTop (mkF m 31 #[.val (.ref a), .val (.int (1 : Int32)), .val (.int (2 : Int32)), .val (.int (3 : Int32)), .val (.int (1 : Int32))] [(.int (1 : Int32))])) := k6a
  have N6 := N4.app Nq6
  have e6 : T6.heap = h0 := eq6
  have k7 : To p.tables e below S0 (T6.setTop (mkF m 35 #[.val (.ref a), .val (.int (1 : Int32)), .val (.int (2 : Int32)), .val (.int (3 : Int32)), .val (.int (1 : Int32))] [(.ref a)])) := fun tt hq => k6 tt (by
    refine XS.ifNo X6.here hx rfl (hb hby d_jdk_42_method_92_code_31) rfl ((if0 _ _).trans (feq (by decide)).1) ?_
    refine XS.aloadN X6.here hx rfl (hb hby d_jdk_42_method_92_code_34) rfl rfl ?_
    exact hq)
  obtain ⟨T8, X8, e8, st8⟩ := getF X6 hx hZ hown (host := "") (Or.inl (wq hw 28 rfl)) Via.refl e6 P1 (g := (mkF m 35 #[.val (.ref a), .val (.int (1 : Int32)), .val (.int (2 : Int32)), .val (.int (3 : Int32)), .val (.int (1 : Int32))] [(.ref a)])) rfl rfl (hb hby d_jdk_42_method_92_code_35)
  have k8 : To p.tables e below S0 (T8.setTop (mkF m 38 #[.val (.ref a), .val (.int (1 : Int32)), .val (.int (2 : Int32)), .val (.int (3 : Int32)), .val (.int (1 : Int32))] [(.ref t)])) := fun tt hq => k7 tt (st8 tt hq)
  have k9 : To p.tables e below S0 (T8.setTop (mkF m 41 #[.val (.ref a), .val (.int (1 : Int32)), .val (.int (2 : Int32)), .val (.int (3 : Int32)), .val (.int (1 : Int32))] [(.int (1 : Int32)), (.int (1 : Int32)), (.ref t)])) := fun tt hq => k8 tt (by
    refine XS.iloadN X8.here hx rfl (hb hby d_jdk_42_method_92_code_38) rfl ?_
    refine XS.iload X8.here hx rfl (hb hby d_jdk_42_method_92_code_39) rfl ?_
    exact hq)
  obtain ⟨_, T10, L10, X10, ⟨a10, t10, k10x, rfl, Nq10, ya10, yt10, Kq10, P100, P101, P102, P103⟩, k10a⟩ := callS' X8 hx hZ (y := (⟨"java/lang/StringLatin1", "newString", "([BII)Ljava/lang/String;"⟩ : MethodName)) hown (wq hw 138 rfl) (wq hw 139 rfl) (wq hw 140 rfl) (wq hw 141 rfl) (by decide) (backC (W := 0) (rm_ns1_2 l Z a0 hw t kt c0 c1 c2 h0 n0 (by omega) P3 (by omega)) hZ (wq hw 141 rfl) (wq hw 140 rfl) (by decide) (by decide)) e8 (argsL := [(.ref t), (.int (1 : Int32)), (.int (1 : Int32))]) (rest := []) rfl rfl pd_19 rfl (by rw [hml]; rfl) (hb hby d_jdk_42_method_92_code_41) (Nat.le_of_eq rfl) (by decide) (by decide) k9
  have k10 : To p.tables e below S0 (T10.setTop (mkF m 44 #[.val (.ref a), .val (.int (1 : Int32)), .val (.int (2 : Int32)), .val (.int (3 : Int32)), .val (.int (1 : Int32))] [(.ref a10)])) := k10a
  have N10 := N6.app Nq10
  obtain ⟨h10, e10⟩ : ∃ z, T10.heap = z := ⟨_, rfl⟩
  rw [e10] at Kq10 ya10 yt10 P100 P101 P102 P103
  have z10 : h0.size ≤ h10.size := Kq10.1
  have k11 : To p.tables e below S0 (T10.setTop (mkF m 57 #[.val (.ref a), .val (.int (1 : Int32)), .val (.int (2 : Int32)), .val (.int (3 : Int32)), .val (.int (1 : Int32))] [(.ref a10)])) := fun tt hq => k10 tt (by
    refine XS.goto X10.here hx rfl (pc0 := 44) (pc' := 57) rfl (hb hby d_jdk_42_method_92_code_44) (by decide) (by decide) ?_
    exact hq)
  have hE := e10
  refine retRef X10 hx hret hlk rfl rfl (hb hby d_jdk_42_method_92_code_57) k11 ?_ (by decide) (by decide)
  try rw [hE]
  exact ⟨_, _, _, rfl, N10, P100.lt, P103.lt, ((Keep.refl h0 []).trans Kq10 all0), P100, P101, P102, P103⟩
set_option maxRecDepth 65536 in
set_option maxHeartbeats 40000000 in
theorem rm_tf1_2 (l : Launch) (Z : State) (a0 : Array Value) (hw : ∀ d ∈ tables_1, d.before a0 Z = true) (zc : Int32) (fm : Value) (r : Addr) (a : Addr) (t : Addr) (kt : ClassId) (c0 : Int32) (c1 : Int32) (c2 : Int32) (h0 : Heap) (n0 : Nat) (hn0 : n0 ≤ h0.size) (S_c : Sta Z Z.heap "java/lang/String" "COMPACT_STRINGS" "Z" (.int zc)) (hzc : ¬ zc = (0 : Int32)) (S_f : Sta Z Z.heap "jdk/internal/util/Preconditions" "SIOOBE_FORMATTER" "Ljava/util/function/BiFunction;" fm) (hfm : fm.isRef = true) (O0 : Old Z n0 h0) (Q0 : Fld Z h0 r "com/example/ceruline/ceruline/parsing/SourceReader" "text" "Ljava/lang/String;" (.ref a)) (Q1 : Fld Z h0 r "com/example/ceruline/ceruline/parsing/SourceReader" "offset" "I" (.int (2 : Int32))) (P0 : Exa Z h0 a "java/lang/String") (P1 : Fld Z h0 a "java/lang/String" "value" "[B" (.ref t)) (P2 : Fld Z h0 a "java/lang/String" "coder" "B" (.int (0 : Int32))) (P3 : Arv Z h0 t kt .byte (3 : Int32) [(.int c0), (.int c1), (.int c2)] (.int 0)) (yt : @LT.lt Nat instLTNat t h0.size) :
    Con l Z (⟨"com/example/ceruline/ceruline/parsing/SourceReader", "textFrom", "(I)Ljava/lang/String;"⟩ : MethodName) prog_66_method_8_code 2 (some (.object "java/lang/String")) [] ({ frames := 5, cells := 2, slots := 5, locals := 80 } : Room) #[(.ref r), (.int (1 : Int32))] h0 (fun v h L => ∃ (b t : Addr) (k : ClassId), v = some (.ref b) ∧ Fr n0 L ∧ (@LT.lt Nat instLTNat b h.size) ∧ (@LT.lt Nat instLTNat t h.size) ∧ Keep h0 h [] ∧ Exa Z h b "java/lang/String" ∧ Fld Z h b "java/lang/String" "value" "[B" (.ref t) ∧ Fld Z h b "java/lang/String" "coder" "B" (.int (0 : Int32)) ∧ Arv Z h t k .byte (1 : Int32) [(.int c1)] (.int 0)) := by
  refine enter (Ls := #[.val (.ref r), .val (.int (1 : Int32))]) (plainFor_of_name pn_7) (fun m => by exact entry_eq rfl) ?_
  intro p e s m below meth cd_ s₁ S0 hx hby hml hret hlk hnm hown hZ X0 e0 k0
  have N0 := Fr.nil n0
  have k1 : To p.tables e below S0 (s₁.setTop (mkF m 1 #[.val (.ref r), .val (.int (1 : Int32))] [(.ref r)])) := fun tt hq => k0 tt (by
    refine XS.aloadN X0.here hx rfl (hb hby d_prog_66_method_8_code_0) rfl rfl ?_
    exact hq)
  obtain ⟨T2, X2, e2, st2⟩ := getF X0 hx hZ hown (host := "") (Or.inl (wq hw 67 rfl)) Via.refl e0 Q0 (g := (mkF m 1 #[.val (.ref r), .val (.int (1 : Int32))] [(.ref r)])) rfl rfl (hb hby d_prog_66_method_8_code_1)
  have k2 : To p.tables e below S0 (T2.setTop (mkF m 4 #[.val (.ref r), .val (.int (1 : Int32))] [(.ref a)])) := fun tt hq => k1 tt (st2 tt hq)
  have k3 : To p.tables e below S0 (T2.setTop (mkF m 6 #[.val (.ref r), .val (.int (1 : Int32))] [(.ref r), (.int (1 : Int32)), (.ref a)])) := fun tt hq => k2 tt (by
    refine XS.iloadN X2.here hx rfl (hb hby d_prog_66_method_8_code_4) rfl ?_
    refine XS.aloadN X2.here hx rfl (hb hby d_prog_66_method_8_code_5) rfl rfl ?_
    exact hq)
  obtain ⟨T4, X4, e4, st4⟩ := getF X2 hx hZ hown (host := "") (Or.inl (wq hw 82 rfl)) Via.refl e2 Q1 (g := (mkF m 6 #[.val (.ref r), .val (.int (1 : Int32))] [(.ref r), (.int (1 : Int32)), (.ref a)])) rfl rfl (hb hby d_prog_66_method_8_code_6)
  have k4 : To p.tables e below S0 (T4.setTop (mkF m 9 #[.val (.ref r), .val (.int (1 : Int32))] [(.int (2 : Int32)), (.int (1 : Int32)), (.ref a)])) := fun tt hq => k3 tt (st4 tt hq)
  obtain ⟨_, T5, L5, X5, ⟨a5, t5, k5x, rfl, Nq5, ya5, yt5, Kq5, P50, P51, P52, P53⟩, k5a⟩ := callV' X4 hx hZ (y := (⟨"java/lang/String", "substring", "(II)Ljava/lang/String;"⟩ : MethodName)) (z := (⟨"java/lang/String", "substring", "(II)Ljava/lang/String;"⟩ : MethodName)) hown (wq hw 117 rfl) (wq hw 118 rfl) (notFace_of_selects (args := #[]) (mvT hZ (wq hw 120 rfl))) (wq hw 120 rfl) (wq hw 119 rfl) (by decide) P0 (backC (W := 0) (rm_sub1_2 l Z a0 hw zc fm a t kt c0 c1 c2 h0 n0 (by omega) S_c hzc S_f hfm O0 P0 P1 P2 P3 (by omega)) hZ (wq hw 121 rfl) (wq hw 3 rfl) (by decide) (by decide)) e4 (argsL := [(.int (1 : Int32)), (.int (2 : Int32))]) (rest := []) rfl rfl pd_20 rfl (by rw [hml]; rfl) (hb hby d_prog_66_method_8_code_9) (Nat.le_of_eq rfl) (by decide) (by decide) k4
  have k5 : To p.tables e below S0 (T5.setTop (mkF m 12 #[.val (.ref r), .val (.int (1 : Int32))] [(.ref a5)])) := k5a
  have N5 := N0.app Nq5
  obtain ⟨h5, e5⟩ : ∃ z, T5.heap = z := ⟨_, rfl⟩
  rw [e5] at Kq5 ya5 yt5 P50 P51 P52 P53
  have z5 : h0.size ≤ h5.size := Kq5.1
  have hE := e5
  refine retRef X5 hx hret hlk rfl rfl (hb hby d_prog_66_method_8_code_12) k5 ?_ (by decide) (by decide)
  try rw [hE]
  exact ⟨_, _, _, rfl, N5, P50.lt, P53.lt, ((Keep.refl h0 []).trans Kq5 all0), P50, P51, P52, P53⟩
set_option maxRecDepth 65536 in
set_option maxHeartbeats 40000000 in
theorem rm_st1_2 (l : Launch) (Z : State) (a0 : Array Value) (hw : ∀ d ∈ tables_1, d.before a0 Z = true) (zc : Int32) (fm : Value) (r : Addr) (so : Addr) (a : Addr) (t : Addr) (kt : ClassId) (c0 : Int32) (c1 : Int32) (c2 : Int32) (xl : Int32) (xc : Int32) (h0 : Heap) (n0 : Nat) (hn0 : n0 ≤ h0.size) (S_c : Sta Z Z.heap "java/lang/String" "COMPACT_STRINGS" "Z" (.int zc)) (hzc : ¬ zc = (0 : Int32)) (S_f : Sta Z Z.heap "jdk/internal/util/Preconditions" "SIOOBE_FORMATTER" "Ljava/util/function/BiFunction;" fm) (hfm : fm.isRef = true) (O0 : Old Z n0 h0) (P0 : Exa Z h0 r "com/example/ceruline/ceruline/parsing/SourceReader") (P1 : Fld Z h0 r "com/example/ceruline/ceruline/parsing/SourceReader" "source" "Lcom/example/ceruline/ceruline/source/SourceFile;" (.ref so)) (P2 : Fld Z h0 r "com/example/ceruline/ceruline/parsing/SourceReader" "text" "Ljava/lang/String;" (.ref a)) (P3 : Fld Z h0 r "com/example/ceruline/ceruline/parsing/SourceReader" "offset" "I" (.int (1 : Int32))) (P4 : Fld Z h0 r "com/example/ceruline/ceruline/parsing/SourceReader" "line" "I" (.int xl)) (P5 : Fld Z h0 r "com/example/ceruline/ceruline/parsing/SourceReader" "column" "I" (.int xc)) (R0 : Exa Z h0 a "java/lang/String") (R1 : Fld Z h0 a "java/lang/String" "value" "[B" (.ref t)) (R2 : Fld Z h0 a "java/lang/String" "coder" "B" (.int (0 : Int32))) (R3 : Arv Z h0 t kt .byte (3 : Int32) [(.int c0), (.int c1), (.int c2)] (.int 0)) (ga : n0 ≤ r) (nra : ¬ (@Eq Nat a r)) (nrt : ¬ (@Eq Nat t r)) :
    Con l Z (⟨"com/example/ceruline/ceruline/parsing/SourceReaderTextFromPinLaw", "steps", "(Lcom/example/ceruline/ceruline/parsing/SourceReader;I)V"⟩ : MethodName) method_2_code 2 none [] ({ frames := 4, cells := 0, slots := 0, locals := 54 } : Room) #[(.ref r), (.int (2 : Int32))] h0 (fun v h L => ∃ (y1 y2 : Int32), v = none ∧ Fr n0 L ∧ Keep h0 h [r] ∧ Exa Z h r "com/example/ceruline/ceruline/parsing/SourceReader" ∧ Fld Z h r "com/example/ceruline/ceruline/parsing/SourceReader" "source" "Lcom/example/ceruline/ceruline/source/SourceFile;" (.ref so) ∧ Fld Z h r "com/example/ceruline/ceruline/parsing/SourceReader" "text" "Ljava/lang/String;" (.ref a) ∧ Fld Z h r "com/example/ceruline/ceruline/parsing/SourceReader" "offset" "I" (.int (3 : Int32)) ∧ Fld Z h r "com/example/ceruline/ceruline/parsing/SourceReader" "line" "I" (.int y1) ∧ Fld Z h r "com/example/ceruline/ceruline/parsing/SourceReader" "column" "I" (.int y2)) := by
  refine enter (Ls := #[.val (.ref r), .val (.int (2 : Int32))]) (plainFor_of_name pn_9) (fun m => by exact entry_eq rfl) ?_
  intro p e s m below meth cd_ s₁ S0 hx hby hml hret hlk hnm hown hZ X0 e0 k0
  have N0 := Fr.nil n0
  have k1 : To p.tables e below S0 (s₁.setTop (mkF m 6 #[.val (.ref r), .val (.int (2 : Int32))] [(.ref r)])) := fun tt hq => k0 tt (by
    refine XS.iloadN X0.here hx rfl (hb hby d_method_2_code_0) rfl ?_
    refine XS.iconst X0.here hx rfl (hb hby d_method_2_code_1) ?_
    refine XS.icmpNo X0.here hx rfl (hb hby d_method_2_code_2) rfl (flt (by decide)).1 ?_
    refine XS.aloadN X0.here hx rfl (hb hby d_method_2_code_5) rfl rfl ?_
    exact hq)
  obtain ⟨_, T2, L2, X2, ⟨x2, y2x, rfl, Nq2, Kq2, P2_0, P2_1, P2_2, P2_3, P2_4, P2_5⟩, k2a⟩ := callV' X0 hx hZ (y := (⟨"com/example/ceruline/ceruline/parsing/SourceReader", "advance", "()V"⟩ : MethodName)) (z := (⟨"com/example/ceruline/ceruline/parsing/SourceReader", "advance", "()V"⟩ : MethodName)) hown (wq hw 77 rfl) (wq hw 78 rfl) (notFace_of_selects (args := #[]) (mvT hZ (wq hw 80 rfl))) (wq hw 80 rfl) (wq hw 79 rfl) (by decide) P0 (backC (W := 0) (rm_adv1 l Z a0 hw zc fm r so a t kt c0 c1 c2 xl xc h0 n0 (by omega) S_c hzc S_f hfm O0 P0 P1 P2 P3 P4 P5 R0 R1 R2 R3 (by omega) (by omega) (by omega)) hZ (wq hw 81 rfl) (wq hw 32 rfl) (by decide) (by decide)) e0 (argsL := []) (rest := []) rfl rfl pd_9 rfl (by rw [hml]; rfl) (hb hby d_method_2_code_6) (Nat.le_of_eq rfl) (by decide) (by decide) k1
  have k2 : To p.tables e below S0 (T2.setTop (mkF m 9 #[.val (.ref r), .val (.int (2 : Int32))] [])) := k2a
  have N2 := N0.app Nq2
  obtain ⟨h2, e2⟩ : ∃ z, T2.heap = z := ⟨_, rfl⟩
  rw [e2] at Kq2 P2_0 P2_1 P2_2 P2_3 P2_4 P2_5
  have z2 : h0.size ≤ h2.size := Kq2.1
  have k3 : To p.tables e below S0 (T2.setTop (mkF m 15 #[.val (.ref r), .val (.int (2 : Int32))] [(.ref r)])) := fun tt hq => k2 tt (by
    refine XS.iloadN X2.here hx rfl (hb hby d_method_2_code_9) rfl ?_
    refine XS.iconst X2.here hx rfl (hb hby d_method_2_code_10) ?_
    refine XS.icmpNo X2.here hx rfl (hb hby d_method_2_code_11) rfl (flt (by decide)).1 ?_
    refine XS.aloadN X2.here hx rfl (hb hby d_method_2_code_14) rfl rfl ?_
    exact hq)
  have f4 : Old Z n0 h2 := (O0.keep Kq2 (allS (by omega) all0))
  have f5 : Exa Z h2 a "java/lang/String" := (R0.keep Kq2)
  have f6 : Fld Z h2 a "java/lang/String" "value" "[B" (.ref t) := (R1.keep Kq2 (nin1 (by omega)))
  have f7 : Fld Z h2 a "java/lang/String" "coder" "B" (.int (0 : Int32)) := (R2.keep Kq2 (nin1 (by omega)))
  have f8 : Arv Z h2 t kt .byte (3 : Int32) [(.int c0), (.int c1), (.int c2)] (.int 0) := (R3.keep Kq2 (nin1 (by omega)))
  obtain ⟨_, T9, L9, X9, ⟨x9, y9x, rfl, Nq9, Kq9, P9_0, P9_1, P9_2, P9_3, P9_4, P9_5⟩, k9a⟩ := callV' X2 hx hZ (y := (⟨"com/example/ceruline/ceruline/parsing/SourceReader", "advance", "()V"⟩ : MethodName)) (z := (⟨"com/example/ceruline/ceruline/parsing/SourceReader", "advance", "()V"⟩ : MethodName)) hown (wq hw 77 rfl) (wq hw 78 rfl) (notFace_of_selects (args := #[]) (mvT hZ (wq hw 80 rfl))) (wq hw 80 rfl) (wq hw 79 rfl) (by decide) P2_0 (backC (W := 0) (rm_adv2 l Z a0 hw zc fm r so a t kt c0 c1 c2 x2 y2x h2 n0 (by omega) S_c hzc S_f hfm f4 P2_0 P2_1 P2_2 P2_3 P2_4 P2_5 f5 f6 f7 f8 (by omega) (by omega) (by omega)) hZ (wq hw 81 rfl) (wq hw 32 rfl) (by decide) (by decide)) e2 (argsL := []) (rest := []) rfl rfl pd_9 rfl (by rw [hml]; rfl) (hb hby d_method_2_code_15) (Nat.le_of_eq rfl) (by decide) (by decide) k3
  have k9 : To p.tables e below S0 (T9.setTop (mkF m 18 #[.val (.ref r), .val (.int (2 : Int32))] [])) := k9a
  have N9 := N2.app Nq9
  obtain ⟨h9, e9⟩ : ∃ z, T9.heap = z := ⟨_, rfl⟩
  rw [e9] at Kq9 P9_0 P9_1 P9_2 P9_3 P9_4 P9_5
  have z9 : h2.size ≤ h9.size := Kq9.1
  have k10 : To p.tables e below S0 (T9.setTop (mkF m 27 #[.val (.ref r), .val (.int (2 : Int32))] [])) := fun tt hq => k9 tt (by
    refine XS.iloadN X9.here hx rfl (hb hby d_method_2_code_18) rfl ?_
    refine XS.iconst X9.here hx rfl (hb hby d_method_2_code_19) ?_
    refine XS.icmpYes X9.here hx rfl (pc0 := 20) (pc' := 27) rfl (hb hby d_method_2_code_20) rfl (tlt (by decide)).1 (by decide) (by decide) ?_
    exact hq)
  have hE := e9
  refine retVoid X9 hx hret hlk (hb hby d_method_2_code_27) k10 ?_ (by decide) (by decide)
  try rw [hE]
  exact ⟨_, _, rfl, N9, (((Keep.refl h0 [r]).trans Kq2 (allS (Or.inl (by simp)) all0)).trans Kq9 (allS (Or.inl (by simp)) all0)), P9_0, P9_1, P9_2, P9_3, P9_4, P9_5⟩
set_option maxRecDepth 65536 in
set_option maxHeartbeats 40000000 in
theorem rm_crb1_3 (l : Launch) (Z : State) (a0 : Array Value) (hw : ∀ d ∈ tables_1, d.before a0 Z = true) (t : Addr) (kt : ClassId) (c0 : Int32) (c1 : Int32) (c2 : Int32) (h0 : Heap) (n0 : Nat) (hn0 : n0 ≤ h0.size) (P0 : Arv Z h0 t kt .byte (3 : Int32) [(.int c0), (.int c1), (.int c2)] (.int (0 : Int32))) (yt : @LT.lt Nat instLTNat t h0.size) :
    Con l Z (⟨"java/util/Arrays", "copyOfRangeByte", "([BII)[B"⟩ : MethodName) jdk_65_method_133_code 5 (some (.array .byte)) [] ({ frames := 1, cells := 1, slots := 2, locals := 18 } : Room) #[(.ref t), (.int (1 : Int32)), (.int (3 : Int32))] h0 (fun v h L => ∃ (b : Addr) (kb : ClassId), v = some (.ref b) ∧ Fr n0 L ∧ h0.size ≤ b ∧ Keep h0 h [] ∧ Arv Z h b kb .byte (2 : Int32) [(.int c1), (.int c2)] (.int (0 : Int32))) := by
  refine enter (Ls := #[.val (.ref t), .val (.int (1 : Int32)), .val (.int (3 : Int32)), .unset, .unset]) (plainFor_of_name pn_8) (fun m => by exact entry_eq rfl) ?_
  intro p e s m below meth cd_ s₁ S0 hx hby hml hret hlk hnm hown hZ X0 e0 k0
  have N0 := Fr.nil n0
  have k1 : To p.tables e below S0 (s₁.setTop (mkF m 2 #[.val (.ref t), .val (.int (1 : Int32)), .val (.int (3 : Int32)), .unset, .unset] [(.int (3 : Int32)), (.int (1 : Int32))])) := fun tt hq => k0 tt (by
    refine XS.iloadN X0.here hx rfl (hb hby d_jdk_65_method_133_code_0) rfl ?_
    refine XS.iloadN X0.here hx rfl (hb hby d_jdk_65_method_133_code_1) rfl ?_
    exact hq)
  obtain ⟨_, T2, L2, X2, ⟨rfl, Nq2, eq2⟩, k2a⟩ := callS' X0 hx hZ (y := (⟨"java/util/Arrays", "checkLength", "(II)V"⟩ : MethodName)) hown (wq hw 157 rfl) (wq hw 158 rfl) (wq hw 152 rfl) (wq hw 159 rfl) (by decide) (backC (W := 0) (rm_ckl l Z a0 hw (1 : Int32) (3 : Int32) h0 n0 (by omega) (by decide)) hZ (wq hw 159 rfl) (wq hw 152 rfl) (by decide) (by decide)) e0 (argsL := [(.int (1 : Int32)), (.int (3 : Int32))]) (rest := []) rfl rfl pd_7 rfl (by rw [hml]; rfl) (hb hby d_jdk_65_method_133_code_2) (Nat.le_of_eq rfl) (by decide) (by decide) k1
  have k2 : To p.tables e below S0 (T2.setTop (mkF m 5 #[.val (.ref t), .val (.int (1 : Int32)), .val (.int (3 : Int32)), .unset, .unset] [])) := k2a
  have N2 := N0.app Nq2
  have e2 : T2.heap = h0 := eq2
  have k3 : To p.tables e below S0 (T2.setTop (mkF m 10 #[.val (.ref t), .val (.int (1 : Int32)), .val (.int (3 : Int32)), .val (.int (2 : Int32)), .unset] [(.int (2 : Int32))])) := fun tt hq => k2 tt (by
    refine XS.iloadN X2.here hx rfl (hb hby d_jdk_65_method_133_code_5) rfl ?_
    refine XS.iloadN X2.here hx rfl (hb hby d_jdk_65_method_133_code_6) rfl ?_
    refine XS.isub X2.here hx rfl (hb hby d_jdk_65_method_133_code_7) rfl ?_
    refine XS.istoreN X2.here hx rfl (hb hby d_jdk_65_method_133_code_8) rfl (l' := #[.val (.ref t), .val (.int (1 : Int32)), .val (.int (3 : Int32)), .val (.int (2 : Int32)), .unset]) rfl ?_
    refine XS.iloadN X2.here hx rfl (hb hby d_jdk_65_method_133_code_9) rfl ?_
    exact hq)
  obtain ⟨T4, h4, c4, X4, e4, E4, A4, st4⟩ := newP X2 hx hZ (wq hw 19 rfl) e2 (g := (mkF m 10 #[.val (.ref t), .val (.int (1 : Int32)), .val (.int (3 : Int32)), .val (.int (2 : Int32)), .unset] [(.int (2 : Int32))])) rfl (hb hby d_jdk_65_method_133_code_10) rfl (by decide) (cap := 2) (by decide) (by decide) (by decide) (by decide)
  obtain ⟨b4, g4⟩ : ∃ z, z = h0.size := ⟨_, rfl⟩
  rw [← g4] at A4 st4
  have k4 : To p.tables e below S0 (T4.setTop (mkF m 12 #[.val (.ref t), .val (.int (1 : Int32)), .val (.int (3 : Int32)), .val (.int (2 : Int32)), .unset] [(.ref b4)])) := fun tt hq => k3 tt (st4 tt hq)
  have z4 : h0.size ≤ h4.size := E4.1
  have V4 : Arv Z h4 b4 c4 .byte (2 : Int32) [(.int (0 : Int32)), (.int (0 : Int32))] (.int (0 : Int32)) := (Arv.new A4 (by decide)).pad (pad_rep [] (.int (0 : Int32)) 2)
  have y4 : @LT.lt Nat instLTNat b4 h4.size := V4.lt
  have f5 : Arv Z h4 t kt .byte (3 : Int32) [(.int c0), (.int c1), (.int c2)] (.int (0 : Int32)) := (P0.ext E4)
  have k6 : To p.tables e below S0 (T4.setTop (mkF m 20 #[.val (.ref t), .val (.int (1 : Int32)), .val (.int (3 : Int32)), .val (.int (2 : Int32)), .val (.ref b4)] [(.ref t), (.int (0 : Int32)), (.ref b4), (.int (1 : Int32)), (.ref t)])) := fun tt hq => k4 tt (by
    refine XS.astore X4.here hx rfl (hb hby d_jdk_65_method_133_code_12) rfl rfl (l' := #[.val (.ref t), .val (.int (1 : Int32)), .val (.int (3 : Int32)), .val (.int (2 : Int32)), .val (.ref b4)]) rfl ?_
    refine XS.aloadN X4.here hx rfl (hb hby d_jdk_65_method_133_code_14) rfl rfl ?_
    refine XS.iloadN X4.here hx rfl (hb hby d_jdk_65_method_133_code_15) rfl ?_
    refine XS.aload X4.here hx rfl (hb hby d_jdk_65_method_133_code_16) rfl rfl ?_
    refine XS.iconst X4.here hx rfl (hb hby d_jdk_65_method_133_code_18) ?_
    refine XS.aloadN X4.here hx rfl (hb hby d_jdk_65_method_133_code_19) rfl rfl ?_
    exact hq)
  obtain ⟨cl7, Ar7, -, S7, M7, -, -⟩ := id f5
  have st7 := fun tt => X4.arraylength hx (by rw [e4]; exact Ar7.1) (State.isArrayOf_alike hZ.alike Ar7.2.1) (g := (mkF m 20 #[.val (.ref t), .val (.int (1 : Int32)), .val (.int (3 : Int32)), .val (.int (2 : Int32)), .val (.ref b4)] [(.ref t), (.int (0 : Int32)), (.ref b4), (.int (1 : Int32)), (.ref t)])) rfl rfl (hb hby d_jdk_65_method_133_code_20) tt
  rw [len_of S7 M7] at st7
  have k7 : To p.tables e below S0 (T4.setTop (mkF m 21 #[.val (.ref t), .val (.int (1 : Int32)), .val (.int (3 : Int32)), .val (.int (2 : Int32)), .val (.ref b4)] [(.int (3 : Int32)), (.int (0 : Int32)), (.ref b4), (.int (1 : Int32)), (.ref t)])) := fun tt hq => k6 tt (st7 tt hq)
  have k8 : To p.tables e below S0 (T4.setTop (mkF m 24 #[.val (.ref t), .val (.int (1 : Int32)), .val (.int (3 : Int32)), .val (.int (2 : Int32)), .val (.ref b4)] [(.int (2 : Int32)), (.int (2 : Int32)), (.int (0 : Int32)), (.ref b4), (.int (1 : Int32)), (.ref t)])) := fun tt hq => k7 tt (by
    refine XS.iloadN X4.here hx rfl (hb hby d_jdk_65_method_133_code_21) rfl ?_
    refine XS.isub X4.here hx rfl (hb hby d_jdk_65_method_133_code_22) rfl ?_
    refine XS.iloadN X4.here hx rfl (hb hby d_jdk_65_method_133_code_23) rfl ?_
    exact hq)
  obtain ⟨_, T9, L9, X9, ⟨rfl, Nq9, eq9⟩, k9a⟩ := callS' X4 hx hZ (y := (⟨"java/lang/Math", "min", "(II)I"⟩ : MethodName)) hown (wq hw 160 rfl) (wq hw 70 rfl) (wq hw 71 rfl) (wq hw 72 rfl) (by decide) (backC (W := 4) (rm_min l Z a0 hw (2 : Int32) (2 : Int32) (2 : Int32) h4 n0 (by omega) (by decide)) hZ (wq hw 72 rfl) (wq hw 71 rfl) (by decide) (by decide)) e4 (argsL := [(.int (2 : Int32)), (.int (2 : Int32))]) (rest := [(.int (0 : Int32)), (.ref b4), (.int (1 : Int32)), (.ref t)]) rfl rfl pd_15 rfl (by rw [hml]; rfl) (hb hby d_jdk_65_method_133_code_24) (Nat.le_of_eq rfl) (by decide) (by decide) k8
  have k9 : To p.tables e below S0 (T9.setTop (mkF m 27 #[.val (.ref t), .val (.int (1 : Int32)), .val (.int (3 : Int32)), .val (.int (2 : Int32)), .val (.ref b4)] [(.int (2 : Int32)), (.int (0 : Int32)), (.ref b4), (.int (1 : Int32)), (.ref t)])) := k9a
  have N9 := N2.app Nq9
  have e9 : T9.heap = h4 := eq9
  obtain ⟨T10, h10, L10, X10, F10, e10, Kq10, V10, st10⟩ := copyB X9 hx hZ hown (wq hw 161 rfl) (wq hw 164 rfl) (wq hw 162 rfl) (wq hw 163 rfl) e9 f5 V4 (i := (1 : Int32)) (ws := [(.int c1), (.int c2)]) (by decide) (by decide) (by intro j hj; have hj' : j < 2 := Nat.lt_of_lt_of_eq hj (by decide); rcases j with _ | _ | j <;> first | rfl | omega) (g := (mkF m 27 #[.val (.ref t), .val (.int (1 : Int32)), .val (.int (3 : Int32)), .val (.int (2 : Int32)), .val (.ref b4)] [(.int (2 : Int32)), (.int (0 : Int32)), (.ref b4), (.int (1 : Int32)), (.ref t)])) rfl (by rw [hml]; rfl) rfl (hb hby d_jdk_65_method_133_code_27) (by decide) (by show 2 * 0 + _ + _ ≤ _; decide +kernel)
  have k10 : To p.tables e below S0 (T10.setTop (mkF m 30 #[.val (.ref t), .val (.int (1 : Int32)), .val (.int (3 : Int32)), .val (.int (2 : Int32)), .val (.ref b4)] [])) := fun tt hq => k9 tt (st10 tt hq)
  have z10 : h4.size ≤ h10.size := Kq10.1
  have N10 := N9.app (F10 n0 (by omega))
  have k11 : To p.tables e below S0 (T10.setTop (mkF m 32 #[.val (.ref t), .val (.int (1 : Int32)), .val (.int (3 : Int32)), .val (.int (2 : Int32)), .val (.ref b4)] [(.ref b4)])) := fun tt hq => k10 tt (by
    refine XS.aload X10.here hx rfl (hb hby d_jdk_65_method_133_code_30) rfl rfl ?_
    exact hq)
  have hE := e10
  refine retRef X10 hx hret hlk rfl rfl (hb hby d_jdk_65_method_133_code_32) k11 ?_ (by decide) (by decide)
  try rw [hE]
  exact ⟨_, _, rfl, N10, (by omega), (((Keep.refl h0 []).ext E4).trans Kq10 (allS (Or.inr (by omega)) all0)), V10⟩
set_option maxRecDepth 65536 in
set_option maxHeartbeats 40000000 in
theorem rm_cro1_3 (l : Launch) (Z : State) (a0 : Array Value) (hw : ∀ d ∈ tables_1, d.before a0 Z = true) (t : Addr) (kt : ClassId) (c0 : Int32) (c1 : Int32) (c2 : Int32) (h0 : Heap) (n0 : Nat) (hn0 : n0 ≤ h0.size) (P0 : Arv Z h0 t kt .byte (3 : Int32) [(.int c0), (.int c1), (.int c2)] (.int (0 : Int32))) (yt : @LT.lt Nat instLTNat t h0.size) :
    Con l Z (⟨"java/util/Arrays", "copyOfRange", "([BII)[B"⟩ : MethodName) jdk_65_method_132_code 3 (some (.array .byte)) [] ({ frames := 2, cells := 1, slots := 2, locals := 34 } : Room) #[(.ref t), (.int (1 : Int32)), (.int (3 : Int32))] h0 (fun v h L => ∃ (b : Addr) (kb : ClassId), v = some (.ref b) ∧ Fr n0 L ∧ h0.size ≤ b ∧ Keep h0 h [] ∧ Arv Z h b kb .byte (2 : Int32) [(.int c1), (.int c2)] (.int (0 : Int32))) := by
  refine enter (Ls := #[.val (.ref t), .val (.int (1 : Int32)), .val (.int (3 : Int32))]) (plainFor_of_name pn_8) (fun m => by exact entry_eq rfl) ?_
  intro p e s m below meth cd_ s₁ S0 hx hby hml hret hlk hnm hown hZ X0 e0 k0
  have N0 := Fr.nil n0
  have k1 : To p.tables e below S0 (s₁.setTop (mkF m 13 #[.val (.ref t), .val (.int (1 : Int32)), .val (.int (3 : Int32))] [(.int (3 : Int32)), (.int (1 : Int32)), (.ref t)])) := fun tt hq => k0 tt (by
    refine XS.iloadN X0.here hx rfl (hb hby d_jdk_65_method_132_code_0) rfl ?_
    refine XS.ifYes X0.here hx rfl (pc0 := 1) (pc' := 10) rfl (hb hby d_jdk_65_method_132_code_1) rfl ((if0 _ _).trans (feq (by decide)).2) (by decide) (by decide) ?_
    refine XS.aloadN X0.here hx rfl (hb hby d_jdk_65_method_132_code_10) rfl rfl ?_
    refine XS.iloadN X0.here hx rfl (hb hby d_jdk_65_method_132_code_11) rfl ?_
    refine XS.iloadN X0.here hx rfl (hb hby d_jdk_65_method_132_code_12) rfl ?_
    exact hq)
  obtain ⟨_, T2, L2, X2, ⟨t2, kt2, rfl, Nq2, gt2, Kq2, V2⟩, k2a⟩ := callS' X0 hx hZ (y := (⟨"java/util/Arrays", "copyOfRangeByte", "([BII)[B"⟩ : MethodName)) hown (wq hw 154 rfl) (wq hw 155 rfl) (wq hw 152 rfl) (wq hw 156 rfl) (by decide) (backC (W := 0) (rm_crb1_3 l Z a0 hw t kt c0 c1 c2 h0 n0 (by omega) P0 (by omega)) hZ (wq hw 156 rfl) (wq hw 152 rfl) (by decide) (by decide)) e0 (argsL := [(.ref t), (.int (1 : Int32)), (.int (3 : Int32))]) (rest := []) rfl rfl pd_23 rfl (by rw [hml]; rfl) (hb hby d_jdk_65_method_132_code_13) (Nat.le_of_eq rfl) (by decide) (by decide) k1
  have k2 : To p.tables e below S0 (T2.setTop (mkF m 16 #[.val (.ref t), .val (.int (1 : Int32)), .val (.int (3 : Int32))] [(.ref t2)])) := k2a
  have N2 := N0.app Nq2
  obtain ⟨h2, e2⟩ : ∃ z, T2.heap = z := ⟨_, rfl⟩
  rw [e2] at Kq2 V2
  have z2 : h0.size ≤ h2.size := Kq2.1
  have y2 : @LT.lt Nat instLTNat t2 h2.size := V2.lt
  have hE := e2
  refine retRef X2 hx hret hlk rfl rfl (hb hby d_jdk_65_method_132_code_16) k2 ?_ (by decide) (by decide)
  try rw [hE]
  exact ⟨_, _, rfl, N2, (by omega), ((Keep.refl h0 []).trans Kq2 all0), V2⟩
set_option maxRecDepth 65536 in
set_option maxHeartbeats 40000000 in
theorem rm_ns1_3 (l : Launch) (Z : State) (a0 : Array Value) (hw : ∀ d ∈ tables_1, d.before a0 Z = true) (t : Addr) (kt : ClassId) (c0 : Int32) (c1 : Int32) (c2 : Int32) (h0 : Heap) (n0 : Nat) (hn0 : n0 ≤ h0.size) (P0 : Arv Z h0 t kt .byte (3 : Int32) [(.int c0), (.int c1), (.int c2)] (.int (0 : Int32))) (yt : @LT.lt Nat instLTNat t h0.size) :
    Con l Z (⟨"java/lang/StringLatin1", "newString", "([BII)Ljava/lang/String;"⟩ : MethodName) jdk_43_method_47_code 3 (some (.object "java/lang/String")) [] ({ frames := 3, cells := 2, slots := 6, locals := 50 } : Room) #[(.ref t), (.int (1 : Int32)), (.int (2 : Int32))] h0 (fun v h L => ∃ (b t : Addr) (k : ClassId), v = some (.ref b) ∧ Fr n0 L ∧ (@LT.lt Nat instLTNat b h.size) ∧ (@LT.lt Nat instLTNat t h.size) ∧ Keep h0 h [] ∧ Exa Z h b "java/lang/String" ∧ Fld Z h b "java/lang/String" "value" "[B" (.ref t) ∧ Fld Z h b "java/lang/String" "coder" "B" (.int (0 : Int32)) ∧ Arv Z h t k .byte (2 : Int32) [(.int c1), (.int c2)] (.int 0)) := by
  refine enter (Ls := #[.val (.ref t), .val (.int (1 : Int32)), .val (.int (2 : Int32))]) (plainFor_of_name pn_4) (fun m => by exact entry_eq rfl) ?_
  intro p e s m below meth cd_ s₁ S0 hx hby hml hret hlk hnm hown hZ X0 e0 k0
  have N0 := Fr.nil n0
  have k1 : To p.tables e below S0 (s₁.setTop (mkF m 7 #[.val (.ref t), .val (.int (1 : Int32)), .val (.int (2 : Int32))] [])) := fun tt hq => k0 tt (by
    refine XS.iloadN X0.here hx rfl (hb hby d_jdk_43_method_47_code_0) rfl ?_
    refine XS.ifYes X0.here hx rfl (pc0 := 1) (pc' := 7) rfl (hb hby d_jdk_43_method_47_code_1) rfl ((if0 _ _).trans (feq (by decide)).2) (by decide) (by decide) ?_
    exact hq)
  obtain ⟨T2, h2, X2, e2, E2, A2, D2, -, st2⟩ := newO X0 hx hZ hown (wq hw 149 rfl) (wq hw 2 rfl) (wq hw 3 rfl) e0 (g := (mkF m 7 #[.val (.ref t), .val (.int (1 : Int32)), .val (.int (2 : Int32))] [])) rfl (hb hby d_jdk_43_method_47_code_7) (by decide) (by decide)
  obtain ⟨b2, g2⟩ : ∃ z, z = h0.size := ⟨_, rfl⟩
  rw [← g2] at A2 D2 st2
  have k2 : To p.tables e below S0 (T2.setTop (mkF m 10 #[.val (.ref t), .val (.int (1 : Int32)), .val (.int (2 : Int32))] [(.ref b2)])) := fun tt hq => k1 tt (st2 tt hq)
  have z2 : h0.size ≤ h2.size := E2.1
  have y2 : @LT.lt Nat instLTNat b2 h2.size := A2.lt
  have F2_coder : Fld Z h2 b2 "java/lang/String" "coder" "B" (.int (0 : Int32)) := D2 (Or.inr (wq hw 27 rfl)) (ty := .byte) (by decide)
  have F2_value : Fld Z h2 b2 "java/lang/String" "value" "[B" .null := D2 (Or.inr (wq hw 29 rfl)) (ty := (.array .byte)) (by decide)
  have k3 : To p.tables e below S0 (T2.setTop (mkF m 16 #[.val (.ref t), .val (.int (1 : Int32)), .val (.int (2 : Int32))] [(.int (3 : Int32)), (.int (1 : Int32)), (.ref t), (.ref b2), (.ref b2)])) := fun tt hq => k2 tt (by
    refine XS.dup X2.here hx rfl (hb hby d_jdk_43_method_47_code_10) rfl rfl ?_
    refine XS.aloadN X2.here hx rfl (hb hby d_jdk_43_method_47_code_11) rfl rfl ?_
    refine XS.iloadN X2.here hx rfl (hb hby d_jdk_43_method_47_code_12) rfl ?_
    refine XS.iloadN X2.here hx rfl (hb hby d_jdk_43_method_47_code_13) rfl ?_
    refine XS.iloadN X2.here hx rfl (hb hby d_jdk_43_method_47_code_14) rfl ?_
    refine XS.iadd X2.here hx rfl (hb hby d_jdk_43_method_47_code_15) rfl ?_
    exact hq)
  have f4 : Arv Z h2 t kt .byte (3 : Int32) [(.int c0), (.int c1), (.int c2)] (.int (0 : Int32)) := (P0.ext E2)
  obtain ⟨_, T5, L5, X5, ⟨t5, kt5, rfl, Nq5, gt5, Kq5, V5⟩, k5a⟩ := callS' X2 hx hZ (y := (⟨"java/util/Arrays", "copyOfRange", "([BII)[B"⟩ : MethodName)) hown (wq hw 150 rfl) (wq hw 151 rfl) (wq hw 152 rfl) (wq hw 153 rfl) (by decide) (backC (W := 2) (rm_cro1_3 l Z a0 hw t kt c0 c1 c2 h2 n0 (by omega) f4 (by omega)) hZ (wq hw 153 rfl) (wq hw 152 rfl) (by decide) (by decide)) e2 (argsL := [(.ref t), (.int (1 : Int32)), (.int (3 : Int32))]) (rest := [(.ref b2), (.ref b2)]) rfl rfl pd_23 rfl (by rw [hml]; rfl) (hb hby d_jdk_43_method_47_code_16) (Nat.le_of_eq rfl) (by decide) (by decide) k3
  have k5 : To p.tables e below S0 (T5.setTop (mkF m 19 #[.val (.ref t), .val (.int (1 : Int32)), .val (.int (2 : Int32))] [(.ref t5), (.ref b2), (.ref b2)])) := k5a
  have N5 := N0.app Nq5
  obtain ⟨h5, e5⟩ : ∃ z, T5.heap = z := ⟨_, rfl⟩
  rw [e5] at Kq5 V5
  have z5 : h2.size ≤ h5.size := Kq5.1
  have y5 : @LT.lt Nat instLTNat t5 h5.size := V5.lt
  have k6 : To p.tables e below S0 (T5.setTop (mkF m 20 #[.val (.ref t), .val (.int (1 : Int32)), .val (.int (2 : Int32))] [(.int (0 : Int32)), (.ref t5), (.ref b2), (.ref b2)])) := fun tt hq => k5 tt (by
    refine XS.iconst X5.here hx rfl (hb hby d_jdk_43_method_47_code_19) ?_
    exact hq)
  have f7 : Exa Z h5 b2 "java/lang/String" := (A2.keep Kq5)
  have f8 : Fld Z h5 b2 "java/lang/String" "value" "[B" .null := (F2_value.keep Kq5 nin0)
  have f9 : Fld Z h5 b2 "java/lang/String" "coder" "B" (.int (0 : Int32)) := (F2_coder.keep Kq5 nin0)
  obtain ⟨_, T10, L10, X10, ⟨rfl, Nq10, Kq10, A10, Fv10, Fc10⟩, k10a⟩ := callC' X5 hx hZ (y := (⟨"java/lang/String", "<init>", "([BB)V"⟩ : MethodName)) rfl hown (wq hw 165 rfl) (wq hw 166 rfl) (wq hw 167 rfl) (by decide) (backC (W := 1) (rm_sbb l Z a0 hw b2 t5 .null (.int (0 : Int32)) h5 n0 (by omega) f7 f8 f9 (by omega)) hZ (wq hw 167 rfl) (wq hw 3 rfl) (by decide) (by decide)) e5 (argsL := [(.ref t5), (.int (0 : Int32))]) (rest := [(.ref b2)]) rfl rfl pd_24 rfl (by rw [hml]; rfl) (hb hby d_jdk_43_method_47_code_20) (Nat.le_of_eq rfl) (by decide) (by decide) k6
  have k10 : To p.tables e below S0 (T10.setTop (mkF m 23 #[.val (.ref t), .val (.int (1 : Int32)), .val (.int (2 : Int32))] [(.ref b2)])) := k10a
  have N10 := N5.app Nq10
  obtain ⟨h10, e10⟩ : ∃ z, T10.heap = z := ⟨_, rfl⟩
  rw [e10] at Kq10 A10 Fv10 Fc10
  have z10 : h5.size ≤ h10.size := Kq10.1
  have f11 : Arv Z h10 t5 kt5 .byte (2 : Int32) [(.int c1), (.int c2)] (.int (0 : Int32)) := (V5.keep Kq10 (nin1 (by omega)))
  have hE := e10
  refine retRef X10 hx hret hlk rfl rfl (hb hby d_jdk_43_method_47_code_23) k10 ?_ (by decide) (by decide)
  try rw [hE]
  exact ⟨_, _, _, rfl, N10, A10.lt, f11.lt, ((((Keep.refl h0 []).ext E2).trans Kq5 all0).trans Kq10 (allS (Or.inr (by omega)) all0)), A10, Fv10, Fc10, f11⟩
set_option maxRecDepth 65536 in
set_option maxHeartbeats 40000000 in
theorem rm_sub1_3 (l : Launch) (Z : State) (a0 : Array Value) (hw : ∀ d ∈ tables_1, d.before a0 Z = true) (zc : Int32) (fm : Value) (a : Addr) (t : Addr) (kt : ClassId) (c0 : Int32) (c1 : Int32) (c2 : Int32) (h0 : Heap) (n0 : Nat) (hn0 : n0 ≤ h0.size) (S_c : Sta Z Z.heap "java/lang/String" "COMPACT_STRINGS" "Z" (.int zc)) (hzc : ¬ zc = (0 : Int32)) (S_f : Sta Z Z.heap "jdk/internal/util/Preconditions" "SIOOBE_FORMATTER" "Ljava/util/function/BiFunction;" fm) (hfm : fm.isRef = true) (O0 : Old Z n0 h0) (P0 : Exa Z h0 a "java/lang/String") (P1 : Fld Z h0 a "java/lang/String" "value" "[B" (.ref t)) (P2 : Fld Z h0 a "java/lang/String" "coder" "B" (.int (0 : Int32))) (P3 : Arv Z h0 t kt .byte (3 : Int32) [(.int c0), (.int c1), (.int c2)] (.int 0)) (yt : @LT.lt Nat instLTNat t h0.size) :
    Con l Z (⟨"java/lang/String", "substring", "(II)Ljava/lang/String;"⟩ : MethodName) jdk_42_method_92_code 5 (some (.object "java/lang/String")) [] ({ frames := 4, cells := 2, slots := 6, locals := 64 } : Room) #[(.ref a), (.int (1 : Int32)), (.int (3 : Int32))] h0 (fun v h L => ∃ (b t : Addr) (k : ClassId), v = some (.ref b) ∧ Fr n0 L ∧ (@LT.lt Nat instLTNat b h.size) ∧ (@LT.lt Nat instLTNat t h.size) ∧ Keep h0 h [] ∧ Exa Z h b "java/lang/String" ∧ Fld Z h b "java/lang/String" "value" "[B" (.ref t) ∧ Fld Z h b "java/lang/String" "coder" "B" (.int (0 : Int32)) ∧ Arv Z h t k .byte (2 : Int32) [(.int c1), (.int c2)] (.int 0)) := by
  refine enter (Ls := #[.val (.ref a), .val (.int (1 : Int32)), .val (.int (3 : Int32)), .unset, .unset]) (plainFor_of_name pn_1) (fun m => by exact entry_eq rfl) ?_
  intro p e s m below meth cd_ s₁ S0 hx hby hml hret hlk hnm hown hZ X0 e0 k0
  have N0 := Fr.nil n0
  have k1 : To p.tables e below S0 (s₁.setTop (mkF m 1 #[.val (.ref a), .val (.int (1 : Int32)), .val (.int (3 : Int32)), .unset, .unset] [(.ref a)])) := fun tt hq => k0 tt (by
    refine XS.aloadN X0.here hx rfl (hb hby d_jdk_42_method_92_code_0) rfl rfl ?_
    exact hq)
  obtain ⟨_, T2, L2, X2, ⟨rfl, Nq2, eq2⟩, k2a⟩ := callV' X0 hx hZ (y := (⟨"java/lang/String", "length", "()I"⟩ : MethodName)) (z := (⟨"java/lang/String", "length", "()I"⟩ : MethodName)) hown (wq hw 122 rfl) (wq hw 123 rfl) (notFace_of_selects (args := #[]) (mvT hZ (wq hw 125 rfl))) (wq hw 125 rfl) (wq hw 124 rfl) (by decide) P0 (backC (W := 0) (rm_len3 l Z a0 hw zc a t kt c0 c1 c2 h0 n0 (by omega) S_c hzc O0 P0 P1 P2 P3) hZ (wq hw 126 rfl) (wq hw 3 rfl) (by decide) (by decide)) e0 (argsL := []) (rest := []) rfl rfl pd_17 rfl (by rw [hml]; rfl) (hb hby d_jdk_42_method_92_code_1) (Nat.le_of_eq rfl) (by decide) (by decide) k1
  have k2 : To p.tables e below S0 (T2.setTop (mkF m 4 #[.val (.ref a), .val (.int (1 : Int32)), .val (.int (3 : Int32)), .unset, .unset] [(.int (3 : Int32))])) := k2a
  have N2 := N0.app Nq2
  have e2 : T2.heap = h0 := eq2
  have k3 : To p.tables e below S0 (T2.setTop (mkF m 8 #[.val (.ref a), .val (.int (1 : Int32)), .val (.int (3 : Int32)), .val (.int (3 : Int32)), .unset] [(.int (3 : Int32)), (.int (3 : Int32)), (.int (1 : Int32))])) := fun tt hq => k2 tt (by
    refine XS.istoreN X2.here hx rfl (hb hby d_jdk_42_method_92_code_4) rfl (l' := #[.val (.ref a), .val (.int (1 : Int32)), .val (.int (3 : Int32)), .val (.int (3 : Int32)), .unset]) rfl ?_
    refine XS.iloadN X2.here hx rfl (hb hby d_jdk_42_method_92_code_5) rfl ?_
    refine XS.iloadN X2.here hx rfl (hb hby d_jdk_42_method_92_code_6) rfl ?_
    refine XS.iloadN X2.here hx rfl (hb hby d_jdk_42_method_92_code_7) rfl ?_
    exact hq)
  obtain ⟨_, T4, L4, X4, ⟨rfl, Nq4, eq4⟩, k4a⟩ := callS' X2 hx hZ (y := (⟨"java/lang/String", "checkBoundsBeginEnd", "(III)V"⟩ : MethodName)) hown (wq hw 132 rfl) (wq hw 133 rfl) (wq hw 3 rfl) (wq hw 134 rfl) (by decide) (backC (W := 0) (rm_cbe l Z a0 hw fm (1 : Int32) (3 : Int32) (3 : Int32) h0 n0 (by omega) S_f hfm O0 (by decide) (by decide) (by decide)) hZ (wq hw 134 rfl) (wq hw 3 rfl) (by decide) (by decide)) e2 (argsL := [(.int (1 : Int32)), (.int (3 : Int32)), (.int (3 : Int32))]) (rest := []) rfl rfl pd_18 rfl (by rw [hml]; rfl) (hb hby d_jdk_42_method_92_code_8) (Nat.le_of_eq rfl) (by decide) (by decide) k3
  have k4 : To p.tables e below S0 (T4.setTop (mkF m 11 #[.val (.ref a), .val (.int (1 : Int32)), .val (.int (3 : Int32)), .val (.int (3 : Int32)), .unset] [])) := k4a
  have N4 := N2.app Nq4
  have e4 : T4.heap = h0 := eq4
  have k5 : To p.tables e below S0 (T4.setTop (mkF m 28 #[.val (.ref a), .val (.int (1 : Int32)), .val (.int (3 : Int32)), .val (.int (3 : Int32)), .val (.int (2 : Int32))] [(.ref a)])) := fun tt hq => k4 tt (by
    refine XS.iloadN X4.here hx rfl (hb hby d_jdk_42_method_92_code_11) rfl ?_
    refine XS.ifYes X4.here hx rfl (pc0 := 12) (pc' := 22) rfl (hb hby d_jdk_42_method_92_code_12) rfl ((if0 _ _).trans (feq (by decide)).2) (by decide) (by decide) ?_
    refine XS.iloadN X4.here hx rfl (hb hby d_jdk_42_method_92_code_22) rfl ?_
    refine XS.iloadN X4.here hx rfl (hb hby d_jdk_42_method_92_code_23) rfl ?_
    refine XS.isub X4.here hx rfl (hb hby d_jdk_42_method_92_code_24) rfl ?_
    refine XS.istore X4.here hx rfl (hb hby d_jdk_42_method_92_code_25) rfl (l' := #[.val (.ref a), .val (.int (1 : Int32)), .val (.int (3 : Int32)), .val (.int (3 : Int32)), .val (.int (2 : Int32))]) rfl ?_
    refine XS.aloadN X4.here hx rfl (hb hby d_jdk_42_method_92_code_27) rfl rfl ?_
    exact hq)
  obtain ⟨_, T6, L6, X6, ⟨rfl, Nq6, eq6⟩, k6a⟩ := callV' X4 hx hZ (y := (⟨"java/lang/String", "isLatin1", "()Z"⟩ : MethodName)) (z := (⟨"java/lang/String", "isLatin1", "()Z"⟩ : MethodName)) hown (wq hw 89 rfl) (wq hw 90 rfl) (notFace_of_selects (args := #[]) (mvT hZ (wq hw 92 rfl))) (wq hw 92 rfl) (wq hw 91 rfl) (by decide) P0 (backC (W := 0) (rm_latin l Z a0 hw zc a h0 n0 (by omega) S_c hzc O0 P2) hZ (wq hw 93 rfl) (wq hw 3 rfl) (by decide) (by decide)) e4 (argsL := []) (rest := []) rfl rfl pd_6 rfl (by rw [hml]; rfl) (hb hby d_jdk_42_method_92_code_28) (Nat.le_of_eq rfl) (by decide) (by decide) k5
  have k6 : To p.tables e below S0 (T6.setTop (mkF m 31 #[.val (.ref a), .val (.int (1 : Int32)), .val (.int (3 : Int32)), .val (.int (3 : Int32)), .val (.int (2 : Int32))] [(.int (1 : Int32))])) := k6a
  have N6 := N4.app Nq6
  have e6 : T6.heap = h0 := eq6
  have k7 : To p.tables e below S0 (T6.setTop (mkF m 35 #[.val (.ref a), .val (.int (1 : Int32)), .val (.int (3 : Int32)), .val (.int (3 : Int32)), .val (.int (2 : Int32))] [(.ref a)])) := fun tt hq => k6 tt (by
    refine XS.ifNo X6.here hx rfl (hb hby d_jdk_42_method_92_code_31) rfl ((if0 _ _).trans (feq (by decide)).1) ?_
    refine XS.aloadN X6.here hx rfl (hb hby d_jdk_42_method_92_code_34) rfl rfl ?_
    exact hq)
  obtain ⟨T8, X8, e8, st8⟩ := getF X6 hx hZ hown (host := "") (Or.inl (wq hw 28 rfl)) Via.refl e6 P1 (g := (mkF m 35 #[.val (.ref a), .val (.int (1 : Int32)), .val (.int (3 : Int32)), .val (.int (3 : Int32)), .val (.int (2 : Int32))] [(.ref a)])) rfl rfl (hb hby d_jdk_42_method_92_code_35)
  have k8 : To p.tables e below S0 (T8.setTop (mkF m 38 #[.val (.ref a), .val (.int (1 : Int32)), .val (.int (3 : Int32)), .val (.int (3 : Int32)), .val (.int (2 : Int32))] [(.ref t)])) := fun tt hq => k7 tt (st8 tt hq)
  have k9 : To p.tables e below S0 (T8.setTop (mkF m 41 #[.val (.ref a), .val (.int (1 : Int32)), .val (.int (3 : Int32)), .val (.int (3 : Int32)), .val (.int (2 : Int32))] [(.int (2 : Int32)), (.int (1 : Int32)), (.ref t)])) := fun tt hq => k8 tt (by
    refine XS.iloadN X8.here hx rfl (hb hby d_jdk_42_method_92_code_38) rfl ?_
    refine XS.iload X8.here hx rfl (hb hby d_jdk_42_method_92_code_39) rfl ?_
    exact hq)
  obtain ⟨_, T10, L10, X10, ⟨a10, t10, k10x, rfl, Nq10, ya10, yt10, Kq10, P100, P101, P102, P103⟩, k10a⟩ := callS' X8 hx hZ (y := (⟨"java/lang/StringLatin1", "newString", "([BII)Ljava/lang/String;"⟩ : MethodName)) hown (wq hw 138 rfl) (wq hw 139 rfl) (wq hw 140 rfl) (wq hw 141 rfl) (by decide) (backC (W := 0) (rm_ns1_3 l Z a0 hw t kt c0 c1 c2 h0 n0 (by omega) P3 (by omega)) hZ (wq hw 141 rfl) (wq hw 140 rfl) (by decide) (by decide)) e8 (argsL := [(.ref t), (.int (1 : Int32)), (.int (2 : Int32))]) (rest := []) rfl rfl pd_19 rfl (by rw [hml]; rfl) (hb hby d_jdk_42_method_92_code_41) (Nat.le_of_eq rfl) (by decide) (by decide) k9
  have k10 : To p.tables e below S0 (T10.setTop (mkF m 44 #[.val (.ref a), .val (.int (1 : Int32)), .val (.int (3 : Int32)), .val (.int (3 : Int32)), .val (.int (2 : Int32))] [(.ref a10)])) := k10a
  have N10 := N6.app Nq10
  obtain ⟨h10, e10⟩ : ∃ z, T10.heap = z := ⟨_, rfl⟩
  rw [e10] at Kq10 ya10 yt10 P100 P101 P102 P103
  have z10 : h0.size ≤ h10.size := Kq10.1
  have k11 : To p.tables e below S0 (T10.setTop (mkF m 57 #[.val (.ref a), .val (.int (1 : Int32)), .val (.int (3 : Int32)), .val (.int (3 : Int32)), .val (.int (2 : Int32))] [(.ref a10)])) := fun tt hq => k10 tt (by
    refine XS.goto X10.here hx rfl (pc0 := 44) (pc' := 57) rfl (hb hby d_jdk_42_method_92_code_44) (by decide) (by decide) ?_
    exact hq)
  have hE := e10
  refine retRef X10 hx hret hlk rfl rfl (hb hby d_jdk_42_method_92_code_57) k11 ?_ (by decide) (by decide)
  try rw [hE]
  exact ⟨_, _, _, rfl, N10, P100.lt, P103.lt, ((Keep.refl h0 []).trans Kq10 all0), P100, P101, P102, P103⟩
set_option maxRecDepth 65536 in
set_option maxHeartbeats 40000000 in
theorem rm_tf1_3 (l : Launch) (Z : State) (a0 : Array Value) (hw : ∀ d ∈ tables_1, d.before a0 Z = true) (zc : Int32) (fm : Value) (r : Addr) (a : Addr) (t : Addr) (kt : ClassId) (c0 : Int32) (c1 : Int32) (c2 : Int32) (h0 : Heap) (n0 : Nat) (hn0 : n0 ≤ h0.size) (S_c : Sta Z Z.heap "java/lang/String" "COMPACT_STRINGS" "Z" (.int zc)) (hzc : ¬ zc = (0 : Int32)) (S_f : Sta Z Z.heap "jdk/internal/util/Preconditions" "SIOOBE_FORMATTER" "Ljava/util/function/BiFunction;" fm) (hfm : fm.isRef = true) (O0 : Old Z n0 h0) (Q0 : Fld Z h0 r "com/example/ceruline/ceruline/parsing/SourceReader" "text" "Ljava/lang/String;" (.ref a)) (Q1 : Fld Z h0 r "com/example/ceruline/ceruline/parsing/SourceReader" "offset" "I" (.int (3 : Int32))) (P0 : Exa Z h0 a "java/lang/String") (P1 : Fld Z h0 a "java/lang/String" "value" "[B" (.ref t)) (P2 : Fld Z h0 a "java/lang/String" "coder" "B" (.int (0 : Int32))) (P3 : Arv Z h0 t kt .byte (3 : Int32) [(.int c0), (.int c1), (.int c2)] (.int 0)) (yt : @LT.lt Nat instLTNat t h0.size) :
    Con l Z (⟨"com/example/ceruline/ceruline/parsing/SourceReader", "textFrom", "(I)Ljava/lang/String;"⟩ : MethodName) prog_66_method_8_code 2 (some (.object "java/lang/String")) [] ({ frames := 5, cells := 2, slots := 6, locals := 80 } : Room) #[(.ref r), (.int (1 : Int32))] h0 (fun v h L => ∃ (b t : Addr) (k : ClassId), v = some (.ref b) ∧ Fr n0 L ∧ (@LT.lt Nat instLTNat b h.size) ∧ (@LT.lt Nat instLTNat t h.size) ∧ Keep h0 h [] ∧ Exa Z h b "java/lang/String" ∧ Fld Z h b "java/lang/String" "value" "[B" (.ref t) ∧ Fld Z h b "java/lang/String" "coder" "B" (.int (0 : Int32)) ∧ Arv Z h t k .byte (2 : Int32) [(.int c1), (.int c2)] (.int 0)) := by
  refine enter (Ls := #[.val (.ref r), .val (.int (1 : Int32))]) (plainFor_of_name pn_7) (fun m => by exact entry_eq rfl) ?_
  intro p e s m below meth cd_ s₁ S0 hx hby hml hret hlk hnm hown hZ X0 e0 k0
  have N0 := Fr.nil n0
  have k1 : To p.tables e below S0 (s₁.setTop (mkF m 1 #[.val (.ref r), .val (.int (1 : Int32))] [(.ref r)])) := fun tt hq => k0 tt (by
    refine XS.aloadN X0.here hx rfl (hb hby d_prog_66_method_8_code_0) rfl rfl ?_
    exact hq)
  obtain ⟨T2, X2, e2, st2⟩ := getF X0 hx hZ hown (host := "") (Or.inl (wq hw 67 rfl)) Via.refl e0 Q0 (g := (mkF m 1 #[.val (.ref r), .val (.int (1 : Int32))] [(.ref r)])) rfl rfl (hb hby d_prog_66_method_8_code_1)
  have k2 : To p.tables e below S0 (T2.setTop (mkF m 4 #[.val (.ref r), .val (.int (1 : Int32))] [(.ref a)])) := fun tt hq => k1 tt (st2 tt hq)
  have k3 : To p.tables e below S0 (T2.setTop (mkF m 6 #[.val (.ref r), .val (.int (1 : Int32))] [(.ref r), (.int (1 : Int32)), (.ref a)])) := fun tt hq => k2 tt (by
    refine XS.iloadN X2.here hx rfl (hb hby d_prog_66_method_8_code_4) rfl ?_
    refine XS.aloadN X2.here hx rfl (hb hby d_prog_66_method_8_code_5) rfl rfl ?_
    exact hq)
  obtain ⟨T4, X4, e4, st4⟩ := getF X2 hx hZ hown (host := "") (Or.inl (wq hw 82 rfl)) Via.refl e2 Q1 (g := (mkF m 6 #[.val (.ref r), .val (.int (1 : Int32))] [(.ref r), (.int (1 : Int32)), (.ref a)])) rfl rfl (hb hby d_prog_66_method_8_code_6)
  have k4 : To p.tables e below S0 (T4.setTop (mkF m 9 #[.val (.ref r), .val (.int (1 : Int32))] [(.int (3 : Int32)), (.int (1 : Int32)), (.ref a)])) := fun tt hq => k3 tt (st4 tt hq)
  obtain ⟨_, T5, L5, X5, ⟨a5, t5, k5x, rfl, Nq5, ya5, yt5, Kq5, P50, P51, P52, P53⟩, k5a⟩ := callV' X4 hx hZ (y := (⟨"java/lang/String", "substring", "(II)Ljava/lang/String;"⟩ : MethodName)) (z := (⟨"java/lang/String", "substring", "(II)Ljava/lang/String;"⟩ : MethodName)) hown (wq hw 117 rfl) (wq hw 118 rfl) (notFace_of_selects (args := #[]) (mvT hZ (wq hw 120 rfl))) (wq hw 120 rfl) (wq hw 119 rfl) (by decide) P0 (backC (W := 0) (rm_sub1_3 l Z a0 hw zc fm a t kt c0 c1 c2 h0 n0 (by omega) S_c hzc S_f hfm O0 P0 P1 P2 P3 (by omega)) hZ (wq hw 121 rfl) (wq hw 3 rfl) (by decide) (by decide)) e4 (argsL := [(.int (1 : Int32)), (.int (3 : Int32))]) (rest := []) rfl rfl pd_20 rfl (by rw [hml]; rfl) (hb hby d_prog_66_method_8_code_9) (Nat.le_of_eq rfl) (by decide) (by decide) k4
  have k5 : To p.tables e below S0 (T5.setTop (mkF m 12 #[.val (.ref r), .val (.int (1 : Int32))] [(.ref a5)])) := k5a
  have N5 := N0.app Nq5
  obtain ⟨h5, e5⟩ : ∃ z, T5.heap = z := ⟨_, rfl⟩
  rw [e5] at Kq5 ya5 yt5 P50 P51 P52 P53
  have z5 : h0.size ≤ h5.size := Kq5.1
  have hE := e5
  refine retRef X5 hx hret hlk rfl rfl (hb hby d_prog_66_method_8_code_12) k5 ?_ (by decide) (by decide)
  try rw [hE]
  exact ⟨_, _, _, rfl, N5, P50.lt, P53.lt, ((Keep.refl h0 []).trans Kq5 all0), P50, P51, P52, P53⟩
set_option maxRecDepth 65536 in
set_option maxHeartbeats 40000000 in
theorem rm_st2_0 (l : Launch) (Z : State) (a0 : Array Value) (hw : ∀ d ∈ tables_1, d.before a0 Z = true) (zc : Int32) (fm : Value) (r : Addr) (so : Addr) (a : Addr) (t : Addr) (kt : ClassId) (c0 : Int32) (c1 : Int32) (c2 : Int32) (xl : Int32) (xc : Int32) (h0 : Heap) (n0 : Nat) (hn0 : n0 ≤ h0.size) (S_c : Sta Z Z.heap "java/lang/String" "COMPACT_STRINGS" "Z" (.int zc)) (hzc : ¬ zc = (0 : Int32)) (S_f : Sta Z Z.heap "jdk/internal/util/Preconditions" "SIOOBE_FORMATTER" "Ljava/util/function/BiFunction;" fm) (hfm : fm.isRef = true) (O0 : Old Z n0 h0) (P0 : Exa Z h0 r "com/example/ceruline/ceruline/parsing/SourceReader") (P1 : Fld Z h0 r "com/example/ceruline/ceruline/parsing/SourceReader" "source" "Lcom/example/ceruline/ceruline/source/SourceFile;" (.ref so)) (P2 : Fld Z h0 r "com/example/ceruline/ceruline/parsing/SourceReader" "text" "Ljava/lang/String;" (.ref a)) (P3 : Fld Z h0 r "com/example/ceruline/ceruline/parsing/SourceReader" "offset" "I" (.int (2 : Int32))) (P4 : Fld Z h0 r "com/example/ceruline/ceruline/parsing/SourceReader" "line" "I" (.int xl)) (P5 : Fld Z h0 r "com/example/ceruline/ceruline/parsing/SourceReader" "column" "I" (.int xc)) (R0 : Exa Z h0 a "java/lang/String") (R1 : Fld Z h0 a "java/lang/String" "value" "[B" (.ref t)) (R2 : Fld Z h0 a "java/lang/String" "coder" "B" (.int (0 : Int32))) (R3 : Arv Z h0 t kt .byte (3 : Int32) [(.int c0), (.int c1), (.int c2)] (.int 0)) (ga : n0 ≤ r) (nra : ¬ (@Eq Nat a r)) (nrt : ¬ (@Eq Nat t r)) :
    Con l Z (⟨"com/example/ceruline/ceruline/parsing/SourceReaderTextFromPinLaw", "steps", "(Lcom/example/ceruline/ceruline/parsing/SourceReader;I)V"⟩ : MethodName) method_2_code 2 none [] ({ frames := 0, cells := 0, slots := 0, locals := 0 } : Room) #[(.ref r), (.int (0 : Int32))] h0 (fun v h L => ∃ (y1 y2 : Int32), v = none ∧ Fr n0 L ∧ Keep h0 h [r] ∧ Exa Z h r "com/example/ceruline/ceruline/parsing/SourceReader" ∧ Fld Z h r "com/example/ceruline/ceruline/parsing/SourceReader" "source" "Lcom/example/ceruline/ceruline/source/SourceFile;" (.ref so) ∧ Fld Z h r "com/example/ceruline/ceruline/parsing/SourceReader" "text" "Ljava/lang/String;" (.ref a) ∧ Fld Z h r "com/example/ceruline/ceruline/parsing/SourceReader" "offset" "I" (.int (2 : Int32)) ∧ Fld Z h r "com/example/ceruline/ceruline/parsing/SourceReader" "line" "I" (.int y1) ∧ Fld Z h r "com/example/ceruline/ceruline/parsing/SourceReader" "column" "I" (.int y2)) := by
  refine enter (Ls := #[.val (.ref r), .val (.int (0 : Int32))]) (plainFor_of_name pn_9) (fun m => by exact entry_eq rfl) ?_
  intro p e s m below meth cd_ s₁ S0 hx hby hml hret hlk hnm hown hZ X0 e0 k0
  have N0 := Fr.nil n0
  have k1 : To p.tables e below S0 (s₁.setTop (mkF m 27 #[.val (.ref r), .val (.int (0 : Int32))] [])) := fun tt hq => k0 tt (by
    refine XS.iloadN X0.here hx rfl (hb hby d_method_2_code_0) rfl ?_
    refine XS.iconst X0.here hx rfl (hb hby d_method_2_code_1) ?_
    refine XS.icmpYes X0.here hx rfl (pc0 := 2) (pc' := 9) rfl (hb hby d_method_2_code_2) rfl (tlt (by decide)).1 (by decide) (by decide) ?_
    refine XS.iloadN X0.here hx rfl (hb hby d_method_2_code_9) rfl ?_
    refine XS.iconst X0.here hx rfl (hb hby d_method_2_code_10) ?_
    refine XS.icmpYes X0.here hx rfl (pc0 := 11) (pc' := 18) rfl (hb hby d_method_2_code_11) rfl (tlt (by decide)).1 (by decide) (by decide) ?_
    refine XS.iloadN X0.here hx rfl (hb hby d_method_2_code_18) rfl ?_
    refine XS.iconst X0.here hx rfl (hb hby d_method_2_code_19) ?_
    refine XS.icmpYes X0.here hx rfl (pc0 := 20) (pc' := 27) rfl (hb hby d_method_2_code_20) rfl (tlt (by decide)).1 (by decide) (by decide) ?_
    exact hq)
  have hE := e0
  refine retVoid X0 hx hret hlk (hb hby d_method_2_code_27) k1 ?_ (by decide) (by decide)
  try rw [hE]
  exact ⟨_, _, rfl, N0, (Keep.refl h0 [r]), P0, P1, P2, P3, P4, P5⟩
set_option maxRecDepth 65536 in
set_option maxHeartbeats 40000000 in
theorem rm_st2_1 (l : Launch) (Z : State) (a0 : Array Value) (hw : ∀ d ∈ tables_1, d.before a0 Z = true) (zc : Int32) (fm : Value) (r : Addr) (so : Addr) (a : Addr) (t : Addr) (kt : ClassId) (c0 : Int32) (c1 : Int32) (c2 : Int32) (xl : Int32) (xc : Int32) (h0 : Heap) (n0 : Nat) (hn0 : n0 ≤ h0.size) (S_c : Sta Z Z.heap "java/lang/String" "COMPACT_STRINGS" "Z" (.int zc)) (hzc : ¬ zc = (0 : Int32)) (S_f : Sta Z Z.heap "jdk/internal/util/Preconditions" "SIOOBE_FORMATTER" "Ljava/util/function/BiFunction;" fm) (hfm : fm.isRef = true) (O0 : Old Z n0 h0) (P0 : Exa Z h0 r "com/example/ceruline/ceruline/parsing/SourceReader") (P1 : Fld Z h0 r "com/example/ceruline/ceruline/parsing/SourceReader" "source" "Lcom/example/ceruline/ceruline/source/SourceFile;" (.ref so)) (P2 : Fld Z h0 r "com/example/ceruline/ceruline/parsing/SourceReader" "text" "Ljava/lang/String;" (.ref a)) (P3 : Fld Z h0 r "com/example/ceruline/ceruline/parsing/SourceReader" "offset" "I" (.int (2 : Int32))) (P4 : Fld Z h0 r "com/example/ceruline/ceruline/parsing/SourceReader" "line" "I" (.int xl)) (P5 : Fld Z h0 r "com/example/ceruline/ceruline/parsing/SourceReader" "column" "I" (.int xc)) (R0 : Exa Z h0 a "java/lang/String") (R1 : Fld Z h0 a "java/lang/String" "value" "[B" (.ref t)) (R2 : Fld Z h0 a "java/lang/String" "coder" "B" (.int (0 : Int32))) (R3 : Arv Z h0 t kt .byte (3 : Int32) [(.int c0), (.int c1), (.int c2)] (.int 0)) (ga : n0 ≤ r) (nra : ¬ (@Eq Nat a r)) (nrt : ¬ (@Eq Nat t r)) :
    Con l Z (⟨"com/example/ceruline/ceruline/parsing/SourceReaderTextFromPinLaw", "steps", "(Lcom/example/ceruline/ceruline/parsing/SourceReader;I)V"⟩ : MethodName) method_2_code 2 none [] ({ frames := 4, cells := 0, slots := 0, locals := 54 } : Room) #[(.ref r), (.int (1 : Int32))] h0 (fun v h L => ∃ (y1 y2 : Int32), v = none ∧ Fr n0 L ∧ Keep h0 h [r] ∧ Exa Z h r "com/example/ceruline/ceruline/parsing/SourceReader" ∧ Fld Z h r "com/example/ceruline/ceruline/parsing/SourceReader" "source" "Lcom/example/ceruline/ceruline/source/SourceFile;" (.ref so) ∧ Fld Z h r "com/example/ceruline/ceruline/parsing/SourceReader" "text" "Ljava/lang/String;" (.ref a) ∧ Fld Z h r "com/example/ceruline/ceruline/parsing/SourceReader" "offset" "I" (.int (3 : Int32)) ∧ Fld Z h r "com/example/ceruline/ceruline/parsing/SourceReader" "line" "I" (.int y1) ∧ Fld Z h r "com/example/ceruline/ceruline/parsing/SourceReader" "column" "I" (.int y2)) := by
  refine enter (Ls := #[.val (.ref r), .val (.int (1 : Int32))]) (plainFor_of_name pn_9) (fun m => by exact entry_eq rfl) ?_
  intro p e s m below meth cd_ s₁ S0 hx hby hml hret hlk hnm hown hZ X0 e0 k0
  have N0 := Fr.nil n0
  have k1 : To p.tables e below S0 (s₁.setTop (mkF m 6 #[.val (.ref r), .val (.int (1 : Int32))] [(.ref r)])) := fun tt hq => k0 tt (by
    refine XS.iloadN X0.here hx rfl (hb hby d_method_2_code_0) rfl ?_
    refine XS.iconst X0.here hx rfl (hb hby d_method_2_code_1) ?_
    refine XS.icmpNo X0.here hx rfl (hb hby d_method_2_code_2) rfl (flt (by decide)).1 ?_
    refine XS.aloadN X0.here hx rfl (hb hby d_method_2_code_5) rfl rfl ?_
    exact hq)
  obtain ⟨_, T2, L2, X2, ⟨x2, y2x, rfl, Nq2, Kq2, P2_0, P2_1, P2_2, P2_3, P2_4, P2_5⟩, k2a⟩ := callV' X0 hx hZ (y := (⟨"com/example/ceruline/ceruline/parsing/SourceReader", "advance", "()V"⟩ : MethodName)) (z := (⟨"com/example/ceruline/ceruline/parsing/SourceReader", "advance", "()V"⟩ : MethodName)) hown (wq hw 77 rfl) (wq hw 78 rfl) (notFace_of_selects (args := #[]) (mvT hZ (wq hw 80 rfl))) (wq hw 80 rfl) (wq hw 79 rfl) (by decide) P0 (backC (W := 0) (rm_adv2 l Z a0 hw zc fm r so a t kt c0 c1 c2 xl xc h0 n0 (by omega) S_c hzc S_f hfm O0 P0 P1 P2 P3 P4 P5 R0 R1 R2 R3 (by omega) (by omega) (by omega)) hZ (wq hw 81 rfl) (wq hw 32 rfl) (by decide) (by decide)) e0 (argsL := []) (rest := []) rfl rfl pd_9 rfl (by rw [hml]; rfl) (hb hby d_method_2_code_6) (Nat.le_of_eq rfl) (by decide) (by decide) k1
  have k2 : To p.tables e below S0 (T2.setTop (mkF m 9 #[.val (.ref r), .val (.int (1 : Int32))] [])) := k2a
  have N2 := N0.app Nq2
  obtain ⟨h2, e2⟩ : ∃ z, T2.heap = z := ⟨_, rfl⟩
  rw [e2] at Kq2 P2_0 P2_1 P2_2 P2_3 P2_4 P2_5
  have z2 : h0.size ≤ h2.size := Kq2.1
  have k3 : To p.tables e below S0 (T2.setTop (mkF m 27 #[.val (.ref r), .val (.int (1 : Int32))] [])) := fun tt hq => k2 tt (by
    refine XS.iloadN X2.here hx rfl (hb hby d_method_2_code_9) rfl ?_
    refine XS.iconst X2.here hx rfl (hb hby d_method_2_code_10) ?_
    refine XS.icmpYes X2.here hx rfl (pc0 := 11) (pc' := 18) rfl (hb hby d_method_2_code_11) rfl (tlt (by decide)).1 (by decide) (by decide) ?_
    refine XS.iloadN X2.here hx rfl (hb hby d_method_2_code_18) rfl ?_
    refine XS.iconst X2.here hx rfl (hb hby d_method_2_code_19) ?_
    refine XS.icmpYes X2.here hx rfl (pc0 := 20) (pc' := 27) rfl (hb hby d_method_2_code_20) rfl (tlt (by decide)).1 (by decide) (by decide) ?_
    exact hq)
  have hE := e2
  refine retVoid X2 hx hret hlk (hb hby d_method_2_code_27) k3 ?_ (by decide) (by decide)
  try rw [hE]
  exact ⟨_, _, rfl, N2, ((Keep.refl h0 [r]).trans Kq2 (allS (Or.inl (by simp)) all0)), P2_0, P2_1, P2_2, P2_3, P2_4, P2_5⟩
set_option maxRecDepth 65536 in
set_option maxHeartbeats 40000000 in
theorem rm_crb2_3 (l : Launch) (Z : State) (a0 : Array Value) (hw : ∀ d ∈ tables_1, d.before a0 Z = true) (t : Addr) (kt : ClassId) (c0 : Int32) (c1 : Int32) (c2 : Int32) (h0 : Heap) (n0 : Nat) (hn0 : n0 ≤ h0.size) (P0 : Arv Z h0 t kt .byte (3 : Int32) [(.int c0), (.int c1), (.int c2)] (.int (0 : Int32))) (yt : @LT.lt Nat instLTNat t h0.size) :
    Con l Z (⟨"java/util/Arrays", "copyOfRangeByte", "([BII)[B"⟩ : MethodName) jdk_65_method_133_code 5 (some (.array .byte)) [] ({ frames := 1, cells := 1, slots := 1, locals := 18 } : Room) #[(.ref t), (.int (2 : Int32)), (.int (3 : Int32))] h0 (fun v h L => ∃ (b : Addr) (kb : ClassId), v = some (.ref b) ∧ Fr n0 L ∧ h0.size ≤ b ∧ Keep h0 h [] ∧ Arv Z h b kb .byte (1 : Int32) [(.int c2)] (.int (0 : Int32))) := by
  refine enter (Ls := #[.val (.ref t), .val (.int (2 : Int32)), .val (.int (3 : Int32)), .unset, .unset]) (plainFor_of_name pn_8) (fun m => by exact entry_eq rfl) ?_
  intro p e s m below meth cd_ s₁ S0 hx hby hml hret hlk hnm hown hZ X0 e0 k0
  have N0 := Fr.nil n0
  have k1 : To p.tables e below S0 (s₁.setTop (mkF m 2 #[.val (.ref t), .val (.int (2 : Int32)), .val (.int (3 : Int32)), .unset, .unset] [(.int (3 : Int32)), (.int (2 : Int32))])) := fun tt hq => k0 tt (by
    refine XS.iloadN X0.here hx rfl (hb hby d_jdk_65_method_133_code_0) rfl ?_
    refine XS.iloadN X0.here hx rfl (hb hby d_jdk_65_method_133_code_1) rfl ?_
    exact hq)
  obtain ⟨_, T2, L2, X2, ⟨rfl, Nq2, eq2⟩, k2a⟩ := callS' X0 hx hZ (y := (⟨"java/util/Arrays", "checkLength", "(II)V"⟩ : MethodName)) hown (wq hw 157 rfl) (wq hw 158 rfl) (wq hw 152 rfl) (wq hw 159 rfl) (by decide) (backC (W := 0) (rm_ckl l Z a0 hw (2 : Int32) (3 : Int32) h0 n0 (by omega) (by decide)) hZ (wq hw 159 rfl) (wq hw 152 rfl) (by decide) (by decide)) e0 (argsL := [(.int (2 : Int32)), (.int (3 : Int32))]) (rest := []) rfl rfl pd_7 rfl (by rw [hml]; rfl) (hb hby d_jdk_65_method_133_code_2) (Nat.le_of_eq rfl) (by decide) (by decide) k1
  have k2 : To p.tables e below S0 (T2.setTop (mkF m 5 #[.val (.ref t), .val (.int (2 : Int32)), .val (.int (3 : Int32)), .unset, .unset] [])) := k2a
  have N2 := N0.app Nq2
  have e2 : T2.heap = h0 := eq2
  have k3 : To p.tables e below S0 (T2.setTop (mkF m 10 #[.val (.ref t), .val (.int (2 : Int32)), .val (.int (3 : Int32)), .val (.int (1 : Int32)), .unset] [(.int (1 : Int32))])) := fun tt hq => k2 tt (by
    refine XS.iloadN X2.here hx rfl (hb hby d_jdk_65_method_133_code_5) rfl ?_
    refine XS.iloadN X2.here hx rfl (hb hby d_jdk_65_method_133_code_6) rfl ?_
    refine XS.isub X2.here hx rfl (hb hby d_jdk_65_method_133_code_7) rfl ?_
    refine XS.istoreN X2.here hx rfl (hb hby d_jdk_65_method_133_code_8) rfl (l' := #[.val (.ref t), .val (.int (2 : Int32)), .val (.int (3 : Int32)), .val (.int (1 : Int32)), .unset]) rfl ?_
    refine XS.iloadN X2.here hx rfl (hb hby d_jdk_65_method_133_code_9) rfl ?_
    exact hq)
  obtain ⟨T4, h4, c4, X4, e4, E4, A4, st4⟩ := newP X2 hx hZ (wq hw 19 rfl) e2 (g := (mkF m 10 #[.val (.ref t), .val (.int (2 : Int32)), .val (.int (3 : Int32)), .val (.int (1 : Int32)), .unset] [(.int (1 : Int32))])) rfl (hb hby d_jdk_65_method_133_code_10) rfl (by decide) (cap := 1) (by decide) (by decide) (by decide) (by decide)
  obtain ⟨b4, g4⟩ : ∃ z, z = h0.size := ⟨_, rfl⟩
  rw [← g4] at A4 st4
  have k4 : To p.tables e below S0 (T4.setTop (mkF m 12 #[.val (.ref t), .val (.int (2 : Int32)), .val (.int (3 : Int32)), .val (.int (1 : Int32)), .unset] [(.ref b4)])) := fun tt hq => k3 tt (st4 tt hq)
  have z4 : h0.size ≤ h4.size := E4.1
  have V4 : Arv Z h4 b4 c4 .byte (1 : Int32) [(.int (0 : Int32))] (.int (0 : Int32)) := (Arv.new A4 (by decide)).pad (pad_rep [] (.int (0 : Int32)) 1)
  have y4 : @LT.lt Nat instLTNat b4 h4.size := V4.lt
  have f5 : Arv Z h4 t kt .byte (3 : Int32) [(.int c0), (.int c1), (.int c2)] (.int (0 : Int32)) := (P0.ext E4)
  have k6 : To p.tables e below S0 (T4.setTop (mkF m 20 #[.val (.ref t), .val (.int (2 : Int32)), .val (.int (3 : Int32)), .val (.int (1 : Int32)), .val (.ref b4)] [(.ref t), (.int (0 : Int32)), (.ref b4), (.int (2 : Int32)), (.ref t)])) := fun tt hq => k4 tt (by
    refine XS.astore X4.here hx rfl (hb hby d_jdk_65_method_133_code_12) rfl rfl (l' := #[.val (.ref t), .val (.int (2 : Int32)), .val (.int (3 : Int32)), .val (.int (1 : Int32)), .val (.ref b4)]) rfl ?_
    refine XS.aloadN X4.here hx rfl (hb hby d_jdk_65_method_133_code_14) rfl rfl ?_
    refine XS.iloadN X4.here hx rfl (hb hby d_jdk_65_method_133_code_15) rfl ?_
    refine XS.aload X4.here hx rfl (hb hby d_jdk_65_method_133_code_16) rfl rfl ?_
    refine XS.iconst X4.here hx rfl (hb hby d_jdk_65_method_133_code_18) ?_
    refine XS.aloadN X4.here hx rfl (hb hby d_jdk_65_method_133_code_19) rfl rfl ?_
    exact hq)
  obtain ⟨cl7, Ar7, -, S7, M7, -, -⟩ := id f5
  have st7 := fun tt => X4.arraylength hx (by rw [e4]; exact Ar7.1) (State.isArrayOf_alike hZ.alike Ar7.2.1) (g := (mkF m 20 #[.val (.ref t), .val (.int (2 : Int32)), .val (.int (3 : Int32)), .val (.int (1 : Int32)), .val (.ref b4)] [(.ref t), (.int (0 : Int32)), (.ref b4), (.int (2 : Int32)), (.ref t)])) rfl rfl (hb hby d_jdk_65_method_133_code_20) tt
  rw [len_of S7 M7] at st7
  have k7 : To p.tables e below S0 (T4.setTop (mkF m 21 #[.val (.ref t), .val (.int (2 : Int32)), .val (.int (3 : Int32)), .val (.int (1 : Int32)), .val (.ref b4)] [(.int (3 : Int32)), (.int (0 : Int32)), (.ref b4), (.int (2 : Int32)), (.ref t)])) := fun tt hq => k6 tt (st7 tt hq)
  have k8 : To p.tables e below S0 (T4.setTop (mkF m 24 #[.val (.ref t), .val (.int (2 : Int32)), .val (.int (3 : Int32)), .val (.int (1 : Int32)), .val (.ref b4)] [(.int (1 : Int32)), (.int (1 : Int32)), (.int (0 : Int32)), (.ref b4), (.int (2 : Int32)), (.ref t)])) := fun tt hq => k7 tt (by
    refine XS.iloadN X4.here hx rfl (hb hby d_jdk_65_method_133_code_21) rfl ?_
    refine XS.isub X4.here hx rfl (hb hby d_jdk_65_method_133_code_22) rfl ?_
    refine XS.iloadN X4.here hx rfl (hb hby d_jdk_65_method_133_code_23) rfl ?_
    exact hq)
  obtain ⟨_, T9, L9, X9, ⟨rfl, Nq9, eq9⟩, k9a⟩ := callS' X4 hx hZ (y := (⟨"java/lang/Math", "min", "(II)I"⟩ : MethodName)) hown (wq hw 160 rfl) (wq hw 70 rfl) (wq hw 71 rfl) (wq hw 72 rfl) (by decide) (backC (W := 4) (rm_min l Z a0 hw (1 : Int32) (1 : Int32) (1 : Int32) h4 n0 (by omega) (by decide)) hZ (wq hw 72 rfl) (wq hw 71 rfl) (by decide) (by decide)) e4 (argsL := [(.int (1 : Int32)), (.int (1 : Int32))]) (rest := [(.int (0 : Int32)), (.ref b4), (.int (2 : Int32)), (.ref t)]) rfl rfl pd_15 rfl (by rw [hml]; rfl) (hb hby d_jdk_65_method_133_code_24) (Nat.le_of_eq rfl) (by decide) (by decide) k8
  have k9 : To p.tables e below S0 (T9.setTop (mkF m 27 #[.val (.ref t), .val (.int (2 : Int32)), .val (.int (3 : Int32)), .val (.int (1 : Int32)), .val (.ref b4)] [(.int (1 : Int32)), (.int (0 : Int32)), (.ref b4), (.int (2 : Int32)), (.ref t)])) := k9a
  have N9 := N2.app Nq9
  have e9 : T9.heap = h4 := eq9
  obtain ⟨T10, h10, L10, X10, F10, e10, Kq10, V10, st10⟩ := copyB X9 hx hZ hown (wq hw 161 rfl) (wq hw 164 rfl) (wq hw 162 rfl) (wq hw 163 rfl) e9 f5 V4 (i := (2 : Int32)) (ws := [(.int c2)]) (by decide) (by decide) (by intro j hj; have hj' : j < 1 := Nat.lt_of_lt_of_eq hj (by decide); rcases j with _ | j <;> first | rfl | omega) (g := (mkF m 27 #[.val (.ref t), .val (.int (2 : Int32)), .val (.int (3 : Int32)), .val (.int (1 : Int32)), .val (.ref b4)] [(.int (1 : Int32)), (.int (0 : Int32)), (.ref b4), (.int (2 : Int32)), (.ref t)])) rfl (by rw [hml]; rfl) rfl (hb hby d_jdk_65_method_133_code_27) (by decide) (by show 2 * 0 + _ + _ ≤ _; decide +kernel)
  have k10 : To p.tables e below S0 (T10.setTop (mkF m 30 #[.val (.ref t), .val (.int (2 : Int32)), .val (.int (3 : Int32)), .val (.int (1 : Int32)), .val (.ref b4)] [])) := fun tt hq => k9 tt (st10 tt hq)
  have z10 : h4.size ≤ h10.size := Kq10.1
  have N10 := N9.app (F10 n0 (by omega))
  have k11 : To p.tables e below S0 (T10.setTop (mkF m 32 #[.val (.ref t), .val (.int (2 : Int32)), .val (.int (3 : Int32)), .val (.int (1 : Int32)), .val (.ref b4)] [(.ref b4)])) := fun tt hq => k10 tt (by
    refine XS.aload X10.here hx rfl (hb hby d_jdk_65_method_133_code_30) rfl rfl ?_
    exact hq)
  have hE := e10
  refine retRef X10 hx hret hlk rfl rfl (hb hby d_jdk_65_method_133_code_32) k11 ?_ (by decide) (by decide)
  try rw [hE]
  exact ⟨_, _, rfl, N10, (by omega), (((Keep.refl h0 []).ext E4).trans Kq10 (allS (Or.inr (by omega)) all0)), V10⟩
set_option maxRecDepth 65536 in
set_option maxHeartbeats 40000000 in
theorem rm_cro2_3 (l : Launch) (Z : State) (a0 : Array Value) (hw : ∀ d ∈ tables_1, d.before a0 Z = true) (t : Addr) (kt : ClassId) (c0 : Int32) (c1 : Int32) (c2 : Int32) (h0 : Heap) (n0 : Nat) (hn0 : n0 ≤ h0.size) (P0 : Arv Z h0 t kt .byte (3 : Int32) [(.int c0), (.int c1), (.int c2)] (.int (0 : Int32))) (yt : @LT.lt Nat instLTNat t h0.size) :
    Con l Z (⟨"java/util/Arrays", "copyOfRange", "([BII)[B"⟩ : MethodName) jdk_65_method_132_code 3 (some (.array .byte)) [] ({ frames := 2, cells := 1, slots := 1, locals := 34 } : Room) #[(.ref t), (.int (2 : Int32)), (.int (3 : Int32))] h0 (fun v h L => ∃ (b : Addr) (kb : ClassId), v = some (.ref b) ∧ Fr n0 L ∧ h0.size ≤ b ∧ Keep h0 h [] ∧ Arv Z h b kb .byte (1 : Int32) [(.int c2)] (.int (0 : Int32))) := by
  refine enter (Ls := #[.val (.ref t), .val (.int (2 : Int32)), .val (.int (3 : Int32))]) (plainFor_of_name pn_8) (fun m => by exact entry_eq rfl) ?_
  intro p e s m below meth cd_ s₁ S0 hx hby hml hret hlk hnm hown hZ X0 e0 k0
  have N0 := Fr.nil n0
  have k1 : To p.tables e below S0 (s₁.setTop (mkF m 13 #[.val (.ref t), .val (.int (2 : Int32)), .val (.int (3 : Int32))] [(.int (3 : Int32)), (.int (2 : Int32)), (.ref t)])) := fun tt hq => k0 tt (by
    refine XS.iloadN X0.here hx rfl (hb hby d_jdk_65_method_132_code_0) rfl ?_
    refine XS.ifYes X0.here hx rfl (pc0 := 1) (pc' := 10) rfl (hb hby d_jdk_65_method_132_code_1) rfl ((if0 _ _).trans (feq (by decide)).2) (by decide) (by decide) ?_
    refine XS.aloadN X0.here hx rfl (hb hby d_jdk_65_method_132_code_10) rfl rfl ?_
    refine XS.iloadN X0.here hx rfl (hb hby d_jdk_65_method_132_code_11) rfl ?_
    refine XS.iloadN X0.here hx rfl (hb hby d_jdk_65_method_132_code_12) rfl ?_
    exact hq)
  obtain ⟨_, T2, L2, X2, ⟨t2, kt2, rfl, Nq2, gt2, Kq2, V2⟩, k2a⟩ := callS' X0 hx hZ (y := (⟨"java/util/Arrays", "copyOfRangeByte", "([BII)[B"⟩ : MethodName)) hown (wq hw 154 rfl) (wq hw 155 rfl) (wq hw 152 rfl) (wq hw 156 rfl) (by decide) (backC (W := 0) (rm_crb2_3 l Z a0 hw t kt c0 c1 c2 h0 n0 (by omega) P0 (by omega)) hZ (wq hw 156 rfl) (wq hw 152 rfl) (by decide) (by decide)) e0 (argsL := [(.ref t), (.int (2 : Int32)), (.int (3 : Int32))]) (rest := []) rfl rfl pd_23 rfl (by rw [hml]; rfl) (hb hby d_jdk_65_method_132_code_13) (Nat.le_of_eq rfl) (by decide) (by decide) k1
  have k2 : To p.tables e below S0 (T2.setTop (mkF m 16 #[.val (.ref t), .val (.int (2 : Int32)), .val (.int (3 : Int32))] [(.ref t2)])) := k2a
  have N2 := N0.app Nq2
  obtain ⟨h2, e2⟩ : ∃ z, T2.heap = z := ⟨_, rfl⟩
  rw [e2] at Kq2 V2
  have z2 : h0.size ≤ h2.size := Kq2.1
  have y2 : @LT.lt Nat instLTNat t2 h2.size := V2.lt
  have hE := e2
  refine retRef X2 hx hret hlk rfl rfl (hb hby d_jdk_65_method_132_code_16) k2 ?_ (by decide) (by decide)
  try rw [hE]
  exact ⟨_, _, rfl, N2, (by omega), ((Keep.refl h0 []).trans Kq2 all0), V2⟩
set_option maxRecDepth 65536 in
set_option maxHeartbeats 40000000 in
theorem rm_ns2_3 (l : Launch) (Z : State) (a0 : Array Value) (hw : ∀ d ∈ tables_1, d.before a0 Z = true) (t : Addr) (kt : ClassId) (c0 : Int32) (c1 : Int32) (c2 : Int32) (h0 : Heap) (n0 : Nat) (hn0 : n0 ≤ h0.size) (P0 : Arv Z h0 t kt .byte (3 : Int32) [(.int c0), (.int c1), (.int c2)] (.int (0 : Int32))) (yt : @LT.lt Nat instLTNat t h0.size) :
    Con l Z (⟨"java/lang/StringLatin1", "newString", "([BII)Ljava/lang/String;"⟩ : MethodName) jdk_43_method_47_code 3 (some (.object "java/lang/String")) [] ({ frames := 3, cells := 2, slots := 5, locals := 50 } : Room) #[(.ref t), (.int (2 : Int32)), (.int (1 : Int32))] h0 (fun v h L => ∃ (b t : Addr) (k : ClassId), v = some (.ref b) ∧ Fr n0 L ∧ (@LT.lt Nat instLTNat b h.size) ∧ (@LT.lt Nat instLTNat t h.size) ∧ Keep h0 h [] ∧ Exa Z h b "java/lang/String" ∧ Fld Z h b "java/lang/String" "value" "[B" (.ref t) ∧ Fld Z h b "java/lang/String" "coder" "B" (.int (0 : Int32)) ∧ Arv Z h t k .byte (1 : Int32) [(.int c2)] (.int 0)) := by
  refine enter (Ls := #[.val (.ref t), .val (.int (2 : Int32)), .val (.int (1 : Int32))]) (plainFor_of_name pn_4) (fun m => by exact entry_eq rfl) ?_
  intro p e s m below meth cd_ s₁ S0 hx hby hml hret hlk hnm hown hZ X0 e0 k0
  have N0 := Fr.nil n0
  have k1 : To p.tables e below S0 (s₁.setTop (mkF m 7 #[.val (.ref t), .val (.int (2 : Int32)), .val (.int (1 : Int32))] [])) := fun tt hq => k0 tt (by
    refine XS.iloadN X0.here hx rfl (hb hby d_jdk_43_method_47_code_0) rfl ?_
    refine XS.ifYes X0.here hx rfl (pc0 := 1) (pc' := 7) rfl (hb hby d_jdk_43_method_47_code_1) rfl ((if0 _ _).trans (feq (by decide)).2) (by decide) (by decide) ?_
    exact hq)
  obtain ⟨T2, h2, X2, e2, E2, A2, D2, -, st2⟩ := newO X0 hx hZ hown (wq hw 149 rfl) (wq hw 2 rfl) (wq hw 3 rfl) e0 (g := (mkF m 7 #[.val (.ref t), .val (.int (2 : Int32)), .val (.int (1 : Int32))] [])) rfl (hb hby d_jdk_43_method_47_code_7) (by decide) (by decide)
  obtain ⟨b2, g2⟩ : ∃ z, z = h0.size := ⟨_, rfl⟩
  rw [← g2] at A2 D2 st2
  have k2 : To p.tables e below S0 (T2.setTop (mkF m 10 #[.val (.ref t), .val (.int (2 : Int32)), .val (.int (1 : Int32))] [(.ref b2)])) := fun tt hq => k1 tt (st2 tt hq)
  have z2 : h0.size ≤ h2.size := E2.1
  have y2 : @LT.lt Nat instLTNat b2 h2.size := A2.lt
  have F2_coder : Fld Z h2 b2 "java/lang/String" "coder" "B" (.int (0 : Int32)) := D2 (Or.inr (wq hw 27 rfl)) (ty := .byte) (by decide)
  have F2_value : Fld Z h2 b2 "java/lang/String" "value" "[B" .null := D2 (Or.inr (wq hw 29 rfl)) (ty := (.array .byte)) (by decide)
  have k3 : To p.tables e below S0 (T2.setTop (mkF m 16 #[.val (.ref t), .val (.int (2 : Int32)), .val (.int (1 : Int32))] [(.int (3 : Int32)), (.int (2 : Int32)), (.ref t), (.ref b2), (.ref b2)])) := fun tt hq => k2 tt (by
    refine XS.dup X2.here hx rfl (hb hby d_jdk_43_method_47_code_10) rfl rfl ?_
    refine XS.aloadN X2.here hx rfl (hb hby d_jdk_43_method_47_code_11) rfl rfl ?_
    refine XS.iloadN X2.here hx rfl (hb hby d_jdk_43_method_47_code_12) rfl ?_
    refine XS.iloadN X2.here hx rfl (hb hby d_jdk_43_method_47_code_13) rfl ?_
    refine XS.iloadN X2.here hx rfl (hb hby d_jdk_43_method_47_code_14) rfl ?_
    refine XS.iadd X2.here hx rfl (hb hby d_jdk_43_method_47_code_15) rfl ?_
    exact hq)
  have f4 : Arv Z h2 t kt .byte (3 : Int32) [(.int c0), (.int c1), (.int c2)] (.int (0 : Int32)) := (P0.ext E2)
  obtain ⟨_, T5, L5, X5, ⟨t5, kt5, rfl, Nq5, gt5, Kq5, V5⟩, k5a⟩ := callS' X2 hx hZ (y := (⟨"java/util/Arrays", "copyOfRange", "([BII)[B"⟩ : MethodName)) hown (wq hw 150 rfl) (wq hw 151 rfl) (wq hw 152 rfl) (wq hw 153 rfl) (by decide) (backC (W := 2) (rm_cro2_3 l Z a0 hw t kt c0 c1 c2 h2 n0 (by omega) f4 (by omega)) hZ (wq hw 153 rfl) (wq hw 152 rfl) (by decide) (by decide)) e2 (argsL := [(.ref t), (.int (2 : Int32)), (.int (3 : Int32))]) (rest := [(.ref b2), (.ref b2)]) rfl rfl pd_23 rfl (by rw [hml]; rfl) (hb hby d_jdk_43_method_47_code_16) (Nat.le_of_eq rfl) (by decide) (by decide) k3
  have k5 : To p.tables e below S0 (T5.setTop (mkF m 19 #[.val (.ref t), .val (.int (2 : Int32)), .val (.int (1 : Int32))] [(.ref t5), (.ref b2), (.ref b2)])) := k5a
  have N5 := N0.app Nq5
  obtain ⟨h5, e5⟩ : ∃ z, T5.heap = z := ⟨_, rfl⟩
  rw [e5] at Kq5 V5
  have z5 : h2.size ≤ h5.size := Kq5.1
  have y5 : @LT.lt Nat instLTNat t5 h5.size := V5.lt
  have k6 : To p.tables e below S0 (T5.setTop (mkF m 20 #[.val (.ref t), .val (.int (2 : Int32)), .val (.int (1 : Int32))] [(.int (0 : Int32)), (.ref t5), (.ref b2), (.ref b2)])) := fun tt hq => k5 tt (by
    refine XS.iconst X5.here hx rfl (hb hby d_jdk_43_method_47_code_19) ?_
    exact hq)
  have f7 : Exa Z h5 b2 "java/lang/String" := (A2.keep Kq5)
  have f8 : Fld Z h5 b2 "java/lang/String" "value" "[B" .null := (F2_value.keep Kq5 nin0)
  have f9 : Fld Z h5 b2 "java/lang/String" "coder" "B" (.int (0 : Int32)) := (F2_coder.keep Kq5 nin0)
  obtain ⟨_, T10, L10, X10, ⟨rfl, Nq10, Kq10, A10, Fv10, Fc10⟩, k10a⟩ := callC' X5 hx hZ (y := (⟨"java/lang/String", "<init>", "([BB)V"⟩ : MethodName)) rfl hown (wq hw 165 rfl) (wq hw 166 rfl) (wq hw 167 rfl) (by decide) (backC (W := 1) (rm_sbb l Z a0 hw b2 t5 .null (.int (0 : Int32)) h5 n0 (by omega) f7 f8 f9 (by omega)) hZ (wq hw 167 rfl) (wq hw 3 rfl) (by decide) (by decide)) e5 (argsL := [(.ref t5), (.int (0 : Int32))]) (rest := [(.ref b2)]) rfl rfl pd_24 rfl (by rw [hml]; rfl) (hb hby d_jdk_43_method_47_code_20) (Nat.le_of_eq rfl) (by decide) (by decide) k6
  have k10 : To p.tables e below S0 (T10.setTop (mkF m 23 #[.val (.ref t), .val (.int (2 : Int32)), .val (.int (1 : Int32))] [(.ref b2)])) := k10a
  have N10 := N5.app Nq10
  obtain ⟨h10, e10⟩ : ∃ z, T10.heap = z := ⟨_, rfl⟩
  rw [e10] at Kq10 A10 Fv10 Fc10
  have z10 : h5.size ≤ h10.size := Kq10.1
  have f11 : Arv Z h10 t5 kt5 .byte (1 : Int32) [(.int c2)] (.int (0 : Int32)) := (V5.keep Kq10 (nin1 (by omega)))
  have hE := e10
  refine retRef X10 hx hret hlk rfl rfl (hb hby d_jdk_43_method_47_code_23) k10 ?_ (by decide) (by decide)
  try rw [hE]
  exact ⟨_, _, _, rfl, N10, A10.lt, f11.lt, ((((Keep.refl h0 []).ext E2).trans Kq5 all0).trans Kq10 (allS (Or.inr (by omega)) all0)), A10, Fv10, Fc10, f11⟩
set_option maxRecDepth 65536 in
set_option maxHeartbeats 40000000 in
theorem rm_sub2_3 (l : Launch) (Z : State) (a0 : Array Value) (hw : ∀ d ∈ tables_1, d.before a0 Z = true) (zc : Int32) (fm : Value) (a : Addr) (t : Addr) (kt : ClassId) (c0 : Int32) (c1 : Int32) (c2 : Int32) (h0 : Heap) (n0 : Nat) (hn0 : n0 ≤ h0.size) (S_c : Sta Z Z.heap "java/lang/String" "COMPACT_STRINGS" "Z" (.int zc)) (hzc : ¬ zc = (0 : Int32)) (S_f : Sta Z Z.heap "jdk/internal/util/Preconditions" "SIOOBE_FORMATTER" "Ljava/util/function/BiFunction;" fm) (hfm : fm.isRef = true) (O0 : Old Z n0 h0) (P0 : Exa Z h0 a "java/lang/String") (P1 : Fld Z h0 a "java/lang/String" "value" "[B" (.ref t)) (P2 : Fld Z h0 a "java/lang/String" "coder" "B" (.int (0 : Int32))) (P3 : Arv Z h0 t kt .byte (3 : Int32) [(.int c0), (.int c1), (.int c2)] (.int 0)) (yt : @LT.lt Nat instLTNat t h0.size) :
    Con l Z (⟨"java/lang/String", "substring", "(II)Ljava/lang/String;"⟩ : MethodName) jdk_42_method_92_code 5 (some (.object "java/lang/String")) [] ({ frames := 4, cells := 2, slots := 5, locals := 64 } : Room) #[(.ref a), (.int (2 : Int32)), (.int (3 : Int32))] h0 (fun v h L => ∃ (b t : Addr) (k : ClassId), v = some (.ref b) ∧ Fr n0 L ∧ (@LT.lt Nat instLTNat b h.size) ∧ (@LT.lt Nat instLTNat t h.size) ∧ Keep h0 h [] ∧ Exa Z h b "java/lang/String" ∧ Fld Z h b "java/lang/String" "value" "[B" (.ref t) ∧ Fld Z h b "java/lang/String" "coder" "B" (.int (0 : Int32)) ∧ Arv Z h t k .byte (1 : Int32) [(.int c2)] (.int 0)) := by
  refine enter (Ls := #[.val (.ref a), .val (.int (2 : Int32)), .val (.int (3 : Int32)), .unset, .unset]) (plainFor_of_name pn_1) (fun m => by exact entry_eq rfl) ?_
  intro p e s m below meth cd_ s₁ S0 hx hby hml hret hlk hnm hown hZ X0 e0 k0
  have N0 := Fr.nil n0
  have k1 : To p.tables e below S0 (s₁.setTop (mkF m 1 #[.val (.ref a), .val (.int (2 : Int32)), .val (.int (3 : Int32)), .unset, .unset] [(.ref a)])) := fun tt hq => k0 tt (by
    refine XS.aloadN X0.here hx rfl (hb hby d_jdk_42_method_92_code_0) rfl rfl ?_
    exact hq)
  obtain ⟨_, T2, L2, X2, ⟨rfl, Nq2, eq2⟩, k2a⟩ := callV' X0 hx hZ (y := (⟨"java/lang/String", "length", "()I"⟩ : MethodName)) (z := (⟨"java/lang/String", "length", "()I"⟩ : MethodName)) hown (wq hw 122 rfl) (wq hw 123 rfl) (notFace_of_selects (args := #[]) (mvT hZ (wq hw 125 rfl))) (wq hw 125 rfl) (wq hw 124 rfl) (by decide) P0 (backC (W := 0) (rm_len3 l Z a0 hw zc a t kt c0 c1 c2 h0 n0 (by omega) S_c hzc O0 P0 P1 P2 P3) hZ (wq hw 126 rfl) (wq hw 3 rfl) (by decide) (by decide)) e0 (argsL := []) (rest := []) rfl rfl pd_17 rfl (by rw [hml]; rfl) (hb hby d_jdk_42_method_92_code_1) (Nat.le_of_eq rfl) (by decide) (by decide) k1
  have k2 : To p.tables e below S0 (T2.setTop (mkF m 4 #[.val (.ref a), .val (.int (2 : Int32)), .val (.int (3 : Int32)), .unset, .unset] [(.int (3 : Int32))])) := k2a
  have N2 := N0.app Nq2
  have e2 : T2.heap = h0 := eq2
  have k3 : To p.tables e below S0 (T2.setTop (mkF m 8 #[.val (.ref a), .val (.int (2 : Int32)), .val (.int (3 : Int32)), .val (.int (3 : Int32)), .unset] [(.int (3 : Int32)), (.int (3 : Int32)), (.int (2 : Int32))])) := fun tt hq => k2 tt (by
    refine XS.istoreN X2.here hx rfl (hb hby d_jdk_42_method_92_code_4) rfl (l' := #[.val (.ref a), .val (.int (2 : Int32)), .val (.int (3 : Int32)), .val (.int (3 : Int32)), .unset]) rfl ?_
    refine XS.iloadN X2.here hx rfl (hb hby d_jdk_42_method_92_code_5) rfl ?_
    refine XS.iloadN X2.here hx rfl (hb hby d_jdk_42_method_92_code_6) rfl ?_
    refine XS.iloadN X2.here hx rfl (hb hby d_jdk_42_method_92_code_7) rfl ?_
    exact hq)
  obtain ⟨_, T4, L4, X4, ⟨rfl, Nq4, eq4⟩, k4a⟩ := callS' X2 hx hZ (y := (⟨"java/lang/String", "checkBoundsBeginEnd", "(III)V"⟩ : MethodName)) hown (wq hw 132 rfl) (wq hw 133 rfl) (wq hw 3 rfl) (wq hw 134 rfl) (by decide) (backC (W := 0) (rm_cbe l Z a0 hw fm (2 : Int32) (3 : Int32) (3 : Int32) h0 n0 (by omega) S_f hfm O0 (by decide) (by decide) (by decide)) hZ (wq hw 134 rfl) (wq hw 3 rfl) (by decide) (by decide)) e2 (argsL := [(.int (2 : Int32)), (.int (3 : Int32)), (.int (3 : Int32))]) (rest := []) rfl rfl pd_18 rfl (by rw [hml]; rfl) (hb hby d_jdk_42_method_92_code_8) (Nat.le_of_eq rfl) (by decide) (by decide) k3
  have k4 : To p.tables e below S0 (T4.setTop (mkF m 11 #[.val (.ref a), .val (.int (2 : Int32)), .val (.int (3 : Int32)), .val (.int (3 : Int32)), .unset] [])) := k4a
  have N4 := N2.app Nq4
  have e4 : T4.heap = h0 := eq4
  have k5 : To p.tables e below S0 (T4.setTop (mkF m 28 #[.val (.ref a), .val (.int (2 : Int32)), .val (.int (3 : Int32)), .val (.int (3 : Int32)), .val (.int (1 : Int32))] [(.ref a)])) := fun tt hq => k4 tt (by
    refine XS.iloadN X4.here hx rfl (hb hby d_jdk_42_method_92_code_11) rfl ?_
    refine XS.ifYes X4.here hx rfl (pc0 := 12) (pc' := 22) rfl (hb hby d_jdk_42_method_92_code_12) rfl ((if0 _ _).trans (feq (by decide)).2) (by decide) (by decide) ?_
    refine XS.iloadN X4.here hx rfl (hb hby d_jdk_42_method_92_code_22) rfl ?_
    refine XS.iloadN X4.here hx rfl (hb hby d_jdk_42_method_92_code_23) rfl ?_
    refine XS.isub X4.here hx rfl (hb hby d_jdk_42_method_92_code_24) rfl ?_
    refine XS.istore X4.here hx rfl (hb hby d_jdk_42_method_92_code_25) rfl (l' := #[.val (.ref a), .val (.int (2 : Int32)), .val (.int (3 : Int32)), .val (.int (3 : Int32)), .val (.int (1 : Int32))]) rfl ?_
    refine XS.aloadN X4.here hx rfl (hb hby d_jdk_42_method_92_code_27) rfl rfl ?_
    exact hq)
  obtain ⟨_, T6, L6, X6, ⟨rfl, Nq6, eq6⟩, k6a⟩ := callV' X4 hx hZ (y := (⟨"java/lang/String", "isLatin1", "()Z"⟩ : MethodName)) (z := (⟨"java/lang/String", "isLatin1", "()Z"⟩ : MethodName)) hown (wq hw 89 rfl) (wq hw 90 rfl) (notFace_of_selects (args := #[]) (mvT hZ (wq hw 92 rfl))) (wq hw 92 rfl) (wq hw 91 rfl) (by decide) P0 (backC (W := 0) (rm_latin l Z a0 hw zc a h0 n0 (by omega) S_c hzc O0 P2) hZ (wq hw 93 rfl) (wq hw 3 rfl) (by decide) (by decide)) e4 (argsL := []) (rest := []) rfl rfl pd_6 rfl (by rw [hml]; rfl) (hb hby d_jdk_42_method_92_code_28) (Nat.le_of_eq rfl) (by decide) (by decide) k5
  have k6 : To p.tables e below S0 (T6.setTop (mkF m 31 #[.val (.ref a), .val (.int (2 : Int32)), .val (.int (3 : Int32)), .val (.int (3 : Int32)), .val (.int (1 : Int32))] [(.int (1 : Int32))])) := k6a
  have N6 := N4.app Nq6
  have e6 : T6.heap = h0 := eq6
  have k7 : To p.tables e below S0 (T6.setTop (mkF m 35 #[.val (.ref a), .val (.int (2 : Int32)), .val (.int (3 : Int32)), .val (.int (3 : Int32)), .val (.int (1 : Int32))] [(.ref a)])) := fun tt hq => k6 tt (by
    refine XS.ifNo X6.here hx rfl (hb hby d_jdk_42_method_92_code_31) rfl ((if0 _ _).trans (feq (by decide)).1) ?_
    refine XS.aloadN X6.here hx rfl (hb hby d_jdk_42_method_92_code_34) rfl rfl ?_
    exact hq)
  obtain ⟨T8, X8, e8, st8⟩ := getF X6 hx hZ hown (host := "") (Or.inl (wq hw 28 rfl)) Via.refl e6 P1 (g := (mkF m 35 #[.val (.ref a), .val (.int (2 : Int32)), .val (.int (3 : Int32)), .val (.int (3 : Int32)), .val (.int (1 : Int32))] [(.ref a)])) rfl rfl (hb hby d_jdk_42_method_92_code_35)
  have k8 : To p.tables e below S0 (T8.setTop (mkF m 38 #[.val (.ref a), .val (.int (2 : Int32)), .val (.int (3 : Int32)), .val (.int (3 : Int32)), .val (.int (1 : Int32))] [(.ref t)])) := fun tt hq => k7 tt (st8 tt hq)
  have k9 : To p.tables e below S0 (T8.setTop (mkF m 41 #[.val (.ref a), .val (.int (2 : Int32)), .val (.int (3 : Int32)), .val (.int (3 : Int32)), .val (.int (1 : Int32))] [(.int (1 : Int32)), (.int (2 : Int32)), (.ref t)])) := fun tt hq => k8 tt (by
    refine XS.iloadN X8.here hx rfl (hb hby d_jdk_42_method_92_code_38) rfl ?_
    refine XS.iload X8.here hx rfl (hb hby d_jdk_42_method_92_code_39) rfl ?_
    exact hq)
  obtain ⟨_, T10, L10, X10, ⟨a10, t10, k10x, rfl, Nq10, ya10, yt10, Kq10, P100, P101, P102, P103⟩, k10a⟩ := callS' X8 hx hZ (y := (⟨"java/lang/StringLatin1", "newString", "([BII)Ljava/lang/String;"⟩ : MethodName)) hown (wq hw 138 rfl) (wq hw 139 rfl) (wq hw 140 rfl) (wq hw 141 rfl) (by decide) (backC (W := 0) (rm_ns2_3 l Z a0 hw t kt c0 c1 c2 h0 n0 (by omega) P3 (by omega)) hZ (wq hw 141 rfl) (wq hw 140 rfl) (by decide) (by decide)) e8 (argsL := [(.ref t), (.int (2 : Int32)), (.int (1 : Int32))]) (rest := []) rfl rfl pd_19 rfl (by rw [hml]; rfl) (hb hby d_jdk_42_method_92_code_41) (Nat.le_of_eq rfl) (by decide) (by decide) k9
  have k10 : To p.tables e below S0 (T10.setTop (mkF m 44 #[.val (.ref a), .val (.int (2 : Int32)), .val (.int (3 : Int32)), .val (.int (3 : Int32)), .val (.int (1 : Int32))] [(.ref a10)])) := k10a
  have N10 := N6.app Nq10
  obtain ⟨h10, e10⟩ : ∃ z, T10.heap = z := ⟨_, rfl⟩
  rw [e10] at Kq10 ya10 yt10 P100 P101 P102 P103
  have z10 : h0.size ≤ h10.size := Kq10.1
  have k11 : To p.tables e below S0 (T10.setTop (mkF m 57 #[.val (.ref a), .val (.int (2 : Int32)), .val (.int (3 : Int32)), .val (.int (3 : Int32)), .val (.int (1 : Int32))] [(.ref a10)])) := fun tt hq => k10 tt (by
    refine XS.goto X10.here hx rfl (pc0 := 44) (pc' := 57) rfl (hb hby d_jdk_42_method_92_code_44) (by decide) (by decide) ?_
    exact hq)
  have hE := e10
  refine retRef X10 hx hret hlk rfl rfl (hb hby d_jdk_42_method_92_code_57) k11 ?_ (by decide) (by decide)
  try rw [hE]
  exact ⟨_, _, _, rfl, N10, P100.lt, P103.lt, ((Keep.refl h0 []).trans Kq10 all0), P100, P101, P102, P103⟩
set_option maxRecDepth 65536 in
set_option maxHeartbeats 40000000 in
theorem rm_tf2_3 (l : Launch) (Z : State) (a0 : Array Value) (hw : ∀ d ∈ tables_1, d.before a0 Z = true) (zc : Int32) (fm : Value) (r : Addr) (a : Addr) (t : Addr) (kt : ClassId) (c0 : Int32) (c1 : Int32) (c2 : Int32) (h0 : Heap) (n0 : Nat) (hn0 : n0 ≤ h0.size) (S_c : Sta Z Z.heap "java/lang/String" "COMPACT_STRINGS" "Z" (.int zc)) (hzc : ¬ zc = (0 : Int32)) (S_f : Sta Z Z.heap "jdk/internal/util/Preconditions" "SIOOBE_FORMATTER" "Ljava/util/function/BiFunction;" fm) (hfm : fm.isRef = true) (O0 : Old Z n0 h0) (Q0 : Fld Z h0 r "com/example/ceruline/ceruline/parsing/SourceReader" "text" "Ljava/lang/String;" (.ref a)) (Q1 : Fld Z h0 r "com/example/ceruline/ceruline/parsing/SourceReader" "offset" "I" (.int (3 : Int32))) (P0 : Exa Z h0 a "java/lang/String") (P1 : Fld Z h0 a "java/lang/String" "value" "[B" (.ref t)) (P2 : Fld Z h0 a "java/lang/String" "coder" "B" (.int (0 : Int32))) (P3 : Arv Z h0 t kt .byte (3 : Int32) [(.int c0), (.int c1), (.int c2)] (.int 0)) (yt : @LT.lt Nat instLTNat t h0.size) :
    Con l Z (⟨"com/example/ceruline/ceruline/parsing/SourceReader", "textFrom", "(I)Ljava/lang/String;"⟩ : MethodName) prog_66_method_8_code 2 (some (.object "java/lang/String")) [] ({ frames := 5, cells := 2, slots := 5, locals := 80 } : Room) #[(.ref r), (.int (2 : Int32))] h0 (fun v h L => ∃ (b t : Addr) (k : ClassId), v = some (.ref b) ∧ Fr n0 L ∧ (@LT.lt Nat instLTNat b h.size) ∧ (@LT.lt Nat instLTNat t h.size) ∧ Keep h0 h [] ∧ Exa Z h b "java/lang/String" ∧ Fld Z h b "java/lang/String" "value" "[B" (.ref t) ∧ Fld Z h b "java/lang/String" "coder" "B" (.int (0 : Int32)) ∧ Arv Z h t k .byte (1 : Int32) [(.int c2)] (.int 0)) := by
  refine enter (Ls := #[.val (.ref r), .val (.int (2 : Int32))]) (plainFor_of_name pn_7) (fun m => by exact entry_eq rfl) ?_
  intro p e s m below meth cd_ s₁ S0 hx hby hml hret hlk hnm hown hZ X0 e0 k0
  have N0 := Fr.nil n0
  have k1 : To p.tables e below S0 (s₁.setTop (mkF m 1 #[.val (.ref r), .val (.int (2 : Int32))] [(.ref r)])) := fun tt hq => k0 tt (by
    refine XS.aloadN X0.here hx rfl (hb hby d_prog_66_method_8_code_0) rfl rfl ?_
    exact hq)
  obtain ⟨T2, X2, e2, st2⟩ := getF X0 hx hZ hown (host := "") (Or.inl (wq hw 67 rfl)) Via.refl e0 Q0 (g := (mkF m 1 #[.val (.ref r), .val (.int (2 : Int32))] [(.ref r)])) rfl rfl (hb hby d_prog_66_method_8_code_1)
  have k2 : To p.tables e below S0 (T2.setTop (mkF m 4 #[.val (.ref r), .val (.int (2 : Int32))] [(.ref a)])) := fun tt hq => k1 tt (st2 tt hq)
  have k3 : To p.tables e below S0 (T2.setTop (mkF m 6 #[.val (.ref r), .val (.int (2 : Int32))] [(.ref r), (.int (2 : Int32)), (.ref a)])) := fun tt hq => k2 tt (by
    refine XS.iloadN X2.here hx rfl (hb hby d_prog_66_method_8_code_4) rfl ?_
    refine XS.aloadN X2.here hx rfl (hb hby d_prog_66_method_8_code_5) rfl rfl ?_
    exact hq)
  obtain ⟨T4, X4, e4, st4⟩ := getF X2 hx hZ hown (host := "") (Or.inl (wq hw 82 rfl)) Via.refl e2 Q1 (g := (mkF m 6 #[.val (.ref r), .val (.int (2 : Int32))] [(.ref r), (.int (2 : Int32)), (.ref a)])) rfl rfl (hb hby d_prog_66_method_8_code_6)
  have k4 : To p.tables e below S0 (T4.setTop (mkF m 9 #[.val (.ref r), .val (.int (2 : Int32))] [(.int (3 : Int32)), (.int (2 : Int32)), (.ref a)])) := fun tt hq => k3 tt (st4 tt hq)
  obtain ⟨_, T5, L5, X5, ⟨a5, t5, k5x, rfl, Nq5, ya5, yt5, Kq5, P50, P51, P52, P53⟩, k5a⟩ := callV' X4 hx hZ (y := (⟨"java/lang/String", "substring", "(II)Ljava/lang/String;"⟩ : MethodName)) (z := (⟨"java/lang/String", "substring", "(II)Ljava/lang/String;"⟩ : MethodName)) hown (wq hw 117 rfl) (wq hw 118 rfl) (notFace_of_selects (args := #[]) (mvT hZ (wq hw 120 rfl))) (wq hw 120 rfl) (wq hw 119 rfl) (by decide) P0 (backC (W := 0) (rm_sub2_3 l Z a0 hw zc fm a t kt c0 c1 c2 h0 n0 (by omega) S_c hzc S_f hfm O0 P0 P1 P2 P3 (by omega)) hZ (wq hw 121 rfl) (wq hw 3 rfl) (by decide) (by decide)) e4 (argsL := [(.int (2 : Int32)), (.int (3 : Int32))]) (rest := []) rfl rfl pd_20 rfl (by rw [hml]; rfl) (hb hby d_prog_66_method_8_code_9) (Nat.le_of_eq rfl) (by decide) (by decide) k4
  have k5 : To p.tables e below S0 (T5.setTop (mkF m 12 #[.val (.ref r), .val (.int (2 : Int32))] [(.ref a5)])) := k5a
  have N5 := N0.app Nq5
  obtain ⟨h5, e5⟩ : ∃ z, T5.heap = z := ⟨_, rfl⟩
  rw [e5] at Kq5 ya5 yt5 P50 P51 P52 P53
  have z5 : h0.size ≤ h5.size := Kq5.1
  have hE := e5
  refine retRef X5 hx hret hlk rfl rfl (hb hby d_prog_66_method_8_code_12) k5 ?_ (by decide) (by decide)
  try rw [hE]
  exact ⟨_, _, _, rfl, N5, P50.lt, P53.lt, ((Keep.refl h0 []).trans Kq5 all0), P50, P51, P52, P53⟩
set_option maxRecDepth 65536 in
set_option maxHeartbeats 40000000 in
theorem rm_st3_0 (l : Launch) (Z : State) (a0 : Array Value) (hw : ∀ d ∈ tables_1, d.before a0 Z = true) (zc : Int32) (fm : Value) (r : Addr) (so : Addr) (a : Addr) (t : Addr) (kt : ClassId) (c0 : Int32) (c1 : Int32) (c2 : Int32) (xl : Int32) (xc : Int32) (h0 : Heap) (n0 : Nat) (hn0 : n0 ≤ h0.size) (S_c : Sta Z Z.heap "java/lang/String" "COMPACT_STRINGS" "Z" (.int zc)) (hzc : ¬ zc = (0 : Int32)) (S_f : Sta Z Z.heap "jdk/internal/util/Preconditions" "SIOOBE_FORMATTER" "Ljava/util/function/BiFunction;" fm) (hfm : fm.isRef = true) (O0 : Old Z n0 h0) (P0 : Exa Z h0 r "com/example/ceruline/ceruline/parsing/SourceReader") (P1 : Fld Z h0 r "com/example/ceruline/ceruline/parsing/SourceReader" "source" "Lcom/example/ceruline/ceruline/source/SourceFile;" (.ref so)) (P2 : Fld Z h0 r "com/example/ceruline/ceruline/parsing/SourceReader" "text" "Ljava/lang/String;" (.ref a)) (P3 : Fld Z h0 r "com/example/ceruline/ceruline/parsing/SourceReader" "offset" "I" (.int (3 : Int32))) (P4 : Fld Z h0 r "com/example/ceruline/ceruline/parsing/SourceReader" "line" "I" (.int xl)) (P5 : Fld Z h0 r "com/example/ceruline/ceruline/parsing/SourceReader" "column" "I" (.int xc)) (R0 : Exa Z h0 a "java/lang/String") (R1 : Fld Z h0 a "java/lang/String" "value" "[B" (.ref t)) (R2 : Fld Z h0 a "java/lang/String" "coder" "B" (.int (0 : Int32))) (R3 : Arv Z h0 t kt .byte (3 : Int32) [(.int c0), (.int c1), (.int c2)] (.int 0)) (ga : n0 ≤ r) (nra : ¬ (@Eq Nat a r)) (nrt : ¬ (@Eq Nat t r)) :
    Con l Z (⟨"com/example/ceruline/ceruline/parsing/SourceReaderTextFromPinLaw", "steps", "(Lcom/example/ceruline/ceruline/parsing/SourceReader;I)V"⟩ : MethodName) method_2_code 2 none [] ({ frames := 0, cells := 0, slots := 0, locals := 0 } : Room) #[(.ref r), (.int (0 : Int32))] h0 (fun v h L => ∃ (y1 y2 : Int32), v = none ∧ Fr n0 L ∧ Keep h0 h [r] ∧ Exa Z h r "com/example/ceruline/ceruline/parsing/SourceReader" ∧ Fld Z h r "com/example/ceruline/ceruline/parsing/SourceReader" "source" "Lcom/example/ceruline/ceruline/source/SourceFile;" (.ref so) ∧ Fld Z h r "com/example/ceruline/ceruline/parsing/SourceReader" "text" "Ljava/lang/String;" (.ref a) ∧ Fld Z h r "com/example/ceruline/ceruline/parsing/SourceReader" "offset" "I" (.int (3 : Int32)) ∧ Fld Z h r "com/example/ceruline/ceruline/parsing/SourceReader" "line" "I" (.int y1) ∧ Fld Z h r "com/example/ceruline/ceruline/parsing/SourceReader" "column" "I" (.int y2)) := by
  refine enter (Ls := #[.val (.ref r), .val (.int (0 : Int32))]) (plainFor_of_name pn_9) (fun m => by exact entry_eq rfl) ?_
  intro p e s m below meth cd_ s₁ S0 hx hby hml hret hlk hnm hown hZ X0 e0 k0
  have N0 := Fr.nil n0
  have k1 : To p.tables e below S0 (s₁.setTop (mkF m 27 #[.val (.ref r), .val (.int (0 : Int32))] [])) := fun tt hq => k0 tt (by
    refine XS.iloadN X0.here hx rfl (hb hby d_method_2_code_0) rfl ?_
    refine XS.iconst X0.here hx rfl (hb hby d_method_2_code_1) ?_
    refine XS.icmpYes X0.here hx rfl (pc0 := 2) (pc' := 9) rfl (hb hby d_method_2_code_2) rfl (tlt (by decide)).1 (by decide) (by decide) ?_
    refine XS.iloadN X0.here hx rfl (hb hby d_method_2_code_9) rfl ?_
    refine XS.iconst X0.here hx rfl (hb hby d_method_2_code_10) ?_
    refine XS.icmpYes X0.here hx rfl (pc0 := 11) (pc' := 18) rfl (hb hby d_method_2_code_11) rfl (tlt (by decide)).1 (by decide) (by decide) ?_
    refine XS.iloadN X0.here hx rfl (hb hby d_method_2_code_18) rfl ?_
    refine XS.iconst X0.here hx rfl (hb hby d_method_2_code_19) ?_
    refine XS.icmpYes X0.here hx rfl (pc0 := 20) (pc' := 27) rfl (hb hby d_method_2_code_20) rfl (tlt (by decide)).1 (by decide) (by decide) ?_
    exact hq)
  have hE := e0
  refine retVoid X0 hx hret hlk (hb hby d_method_2_code_27) k1 ?_ (by decide) (by decide)
  try rw [hE]
  exact ⟨_, _, rfl, N0, (Keep.refl h0 [r]), P0, P1, P2, P3, P4, P5⟩
set_option maxRecDepth 65536 in
set_option maxHeartbeats 40000000 in
theorem rm0 (l : Launch) (Z : State) (a0 : Array Value) (hw : ∀ d ∈ tables_1, d.before a0 Z = true) (zc : Int32) (fm : Value) (p0 : Int32) (p1 : Int32) (p2 : Int32) (mv_ : Int32) (h0 : Heap) (n0 : Nat) (hn0 : n0 ≤ h0.size) (S_c : Sta Z Z.heap "java/lang/String" "COMPACT_STRINGS" "Z" (.int zc)) (hzc : ¬ zc = (0 : Int32)) (S_f : Sta Z Z.heap "jdk/internal/util/Preconditions" "SIOOBE_FORMATTER" "Ljava/util/function/BiFunction;" fm) (hfm : fm.isRef = true) (O0 : Old Z n0 h0) :
    ConW l Z own_EL x code maxLocals ret tables_1 room_1 #[(.int p0), (.int p1), (.int p2), (.int mv_)] h0 [] (fun v h L => v = some (.int 1) ∧ Fr n0 L) := by
  refine enterW (Ls := #[.val (.int p0), .val (.int p1), .val (.int p2), .val (.int mv_), .unset, .unset, .unset, .unset, .unset, .unset, .unset, .unset, .unset]) (plainFor_of_name pn_9) (fun m => by exact entry_eq rfl) ?_
  intro p e s m below meth cd_ s₁ S0 vm0 hx hby hml hret hlk hnm hown hZ X0 e0 k0 C0 hsf hS0
  have N0 := Fr.nil n0
  let l1 : Array Slot := #[.val (.int p0), .val (.int p1), .val (.int p2), .val (.int mv_), .unset, .unset, .unset, .unset, .unset, .unset, .unset, .unset, .unset]
  have k2 : To p.tables e below S0 (s₁.setTop (mkF m 1 l1 [(.int (3 : Int32))])) := fun tt hq => k0 tt (by
    refine XS.iconst X0.here hx rfl (hb hby at_0) ?_
    exact hq)
  obtain ⟨T3, h3, c3, X3, e3, E3, A3, st3⟩ := newP X0 hx hZ (wq hw 0 rfl) e0 (g := (mkF m 1 l1 [(.int (3 : Int32))])) rfl (hb hby at_1) rfl (by decide) (cap := 3) (by decide) (by decide) (by decide) (by decide)
  obtain ⟨b3, g3⟩ : ∃ z, z = h0.size := ⟨_, rfl⟩
  rw [← g3] at A3 st3
  have k3 : To p.tables e below S0 (T3.setTop (mkF m 3 l1 [(.ref b3)])) := fun tt hq => k2 tt (st3 tt hq)
  have z3 : h0.size ≤ h3.size := E3.1
  have C3 := C0.trans (CHr.ext E3 C0.1)
  have V3 : Arv Z h3 b3 c3 .char (3 : Int32) [(.int (0 : Int32)), (.int (0 : Int32)), (.int (0 : Int32))] (.int (0 : Int32)) := (Arv.new A3 (by decide)).pad (pad_rep [] (.int (0 : Int32)) 3)
  have y3 : @LT.lt Nat instLTNat b3 h3.size := V3.lt
  have k4 : To p.tables e below S0 (T3.setTop (mkF m 11 l1 [(.int ((p0 &&& (255 : Int32)).toUInt32.toUInt16.toUInt32.toInt32)), (.int (0 : Int32)), (.ref b3), (.ref b3)])) := fun tt hq => k3 tt (by
    refine XS.dup X3.here hx rfl (hb hby at_3) rfl rfl ?_
    refine XS.iconst X3.here hx rfl (hb hby at_4) ?_
    refine XS.iloadN X3.here hx rfl (hb hby at_5) rfl ?_
    refine XS.sipush X3.here hx rfl (hb hby at_6) ?_
    refine XS.iand X3.here hx rfl (hb hby at_9) rfl ?_
    refine XS.i2c X3.here hx rfl (hb hby at_10) rfl ?_
    exact hq)
  have k5 : To p.tables e below S0 (T3.setTop (mkF m 11 l1 [(.int (p0 &&& (255 : Int32))), (.int (0 : Int32)), (.ref b3), (.ref b3)])) := by have hq := k4; rw [i2c_mask] at hq; exact hq
  obtain ⟨cl6, Ar6, q6, S6, M6, G6, J6⟩ := id V3
  obtain ⟨T6, h6, X6, e6, W6, st6⟩ := stC X3 hx hZ e3 Ar6 (j := (0 : Int32)) (inb_of S6 ⟨by decide, by decide⟩) (g := (mkF m 11 l1 [(.int (p0 &&& (255 : Int32))), (.int (0 : Int32)), (.ref b3), (.ref b3)])) rfl rfl (hb hby at_11)
  have k6 : To p.tables e below S0 (T6.setTop (mkF m 12 l1 [(.ref b3)])) := fun tt hq => k5 tt (st6 tt hq)
  have z6 : h6.size = h3.size := W6.size
  have C6 := C3.trans (CHr.wr W6 (Safe.arv hZ.alike V3 (by decide)) C3.1)
  rw [own_narc (own_m255 _)] at W6
  have V6 : Arv Z h6 b3 c3 .char (3 : Int32) [(.int (p0 &&& (255 : Int32))), (.int (0 : Int32)), (.int (0 : Int32))] (.int (0 : Int32)) := Arv.set Ar6 q6 S6 M6 G6 J6 (own_fitc (own_m255 _)) W6 0 rfl (Nat.le_of_ble_eq_true rfl)
  have N6 := Fr.snoc X6 N0 (by omega : n0 ≤ b3)
  have k7 : To p.tables e below S0 (T6.setTop (mkF m 20 l1 [(.int ((p1 &&& (255 : Int32)).toUInt32.toUInt16.toUInt32.toInt32)), (.int (1 : Int32)), (.ref b3), (.ref b3)])) := fun tt hq => k6 tt (by
    refine XS.dup X6.here hx rfl (hb hby at_12) rfl rfl ?_
    refine XS.iconst X6.here hx rfl (hb hby at_13) ?_
    refine XS.iloadN X6.here hx rfl (hb hby at_14) rfl ?_
    refine XS.sipush X6.here hx rfl (hb hby at_15) ?_
    refine XS.iand X6.here hx rfl (hb hby at_18) rfl ?_
    refine XS.i2c X6.here hx rfl (hb hby at_19) rfl ?_
    exact hq)
  have k8 : To p.tables e below S0 (T6.setTop (mkF m 20 l1 [(.int (p1 &&& (255 : Int32))), (.int (1 : Int32)), (.ref b3), (.ref b3)])) := by have hq := k7; rw [i2c_mask] at hq; exact hq
  obtain ⟨cl9, Ar9, q9, S9, M9, G9, J9⟩ := id V6
  obtain ⟨T9, h9, X9, e9, W9, st9⟩ := stC X6 hx hZ e6 Ar9 (j := (1 : Int32)) (inb_of S9 ⟨by decide, by decide⟩) (g := (mkF m 20 l1 [(.int (p1 &&& (255 : Int32))), (.int (1 : Int32)), (.ref b3), (.ref b3)])) rfl rfl (hb hby at_20)
  have k9 : To p.tables e below S0 (T9.setTop (mkF m 21 l1 [(.ref b3)])) := fun tt hq => k8 tt (st9 tt hq)
  have z9 : h9.size = h6.size := W9.size
  have C9 := C6.trans (CHr.wr W9 (Safe.arv hZ.alike V6 (by decide)) C6.1)
  rw [own_narc (own_m255 _)] at W9
  have V9 : Arv Z h9 b3 c3 .char (3 : Int32) [(.int (p0 &&& (255 : Int32))), (.int (p1 &&& (255 : Int32))), (.int (0 : Int32))] (.int (0 : Int32)) := Arv.set Ar9 q9 S9 M9 G9 J9 (own_fitc (own_m255 _)) W9 1 rfl (Nat.le_of_ble_eq_true rfl)
  have N9 := Fr.snoc X9 N6 (by omega : n0 ≤ b3)
  have k10 : To p.tables e below S0 (T9.setTop (mkF m 29 l1 [(.int ((p2 &&& (255 : Int32)).toUInt32.toUInt16.toUInt32.toInt32)), (.int (2 : Int32)), (.ref b3), (.ref b3)])) := fun tt hq => k9 tt (by
    refine XS.dup X9.here hx rfl (hb hby at_21) rfl rfl ?_
    refine XS.iconst X9.here hx rfl (hb hby at_22) ?_
    refine XS.iloadN X9.here hx rfl (hb hby at_23) rfl ?_
    refine XS.sipush X9.here hx rfl (hb hby at_24) ?_
    refine XS.iand X9.here hx rfl (hb hby at_27) rfl ?_
    refine XS.i2c X9.here hx rfl (hb hby at_28) rfl ?_
    exact hq)
  have k11 : To p.tables e below S0 (T9.setTop (mkF m 29 l1 [(.int (p2 &&& (255 : Int32))), (.int (2 : Int32)), (.ref b3), (.ref b3)])) := by have hq := k10; rw [i2c_mask] at hq; exact hq
  obtain ⟨cl12, Ar12, q12, S12, M12, G12, J12⟩ := id V9
  obtain ⟨T12, h12, X12, e12, W12, st12⟩ := stC X9 hx hZ e9 Ar12 (j := (2 : Int32)) (inb_of S12 ⟨by decide, by decide⟩) (g := (mkF m 29 l1 [(.int (p2 &&& (255 : Int32))), (.int (2 : Int32)), (.ref b3), (.ref b3)])) rfl rfl (hb hby at_29)
  have k12 : To p.tables e below S0 (T12.setTop (mkF m 30 l1 [(.ref b3)])) := fun tt hq => k11 tt (st12 tt hq)
  have z12 : h12.size = h9.size := W12.size
  have C12 := C9.trans (CHr.wr W12 (Safe.arv hZ.alike V9 (by decide)) C9.1)
  rw [own_narc (own_m255 _)] at W12
  have V12 : Arv Z h12 b3 c3 .char (3 : Int32) [(.int (p0 &&& (255 : Int32))), (.int (p1 &&& (255 : Int32))), (.int (p2 &&& (255 : Int32)))] (.int (0 : Int32)) := Arv.set Ar12 q12 S12 M12 G12 J12 (own_fitc (own_m255 _)) W12 2 rfl (Nat.le_of_ble_eq_true rfl)
  have N12 := Fr.snoc X12 N9 (by omega : n0 ≤ b3)
  let l13 : Array Slot := #[.val (.int p0), .val (.int p1), .val (.int p2), .val (.int mv_), .val (.ref b3), .unset, .unset, .unset, .unset, .unset, .unset, .unset, .unset]
  have k14 : To p.tables e below S0 (T12.setTop (mkF m 32 l13 [])) := fun tt hq => k12 tt (by
    refine XS.astore X12.here hx rfl (hb hby at_30) rfl rfl (l' := l13) rfl ?_
    exact hq)
  obtain ⟨T15, h15, X15, e15, E15, A15, D15, -, st15⟩ := newO X12 hx hZ hown (wq hw 1 rfl) (wq hw 2 rfl) (wq hw 3 rfl) e12 (g := (mkF m 32 l13 [])) rfl (hb hby at_32) (by decide) (by decide)
  obtain ⟨b15, g15⟩ : ∃ z, z = h12.size := ⟨_, rfl⟩
  rw [← g15] at A15 D15 st15
  have k15 : To p.tables e below S0 (T15.setTop (mkF m 35 l13 [(.ref b15)])) := fun tt hq => k14 tt (st15 tt hq)
  have z15 : h12.size ≤ h15.size := E15.1
  have y15 : @LT.lt Nat instLTNat b15 h15.size := A15.lt
  have C15 := C12.trans (CHr.ext E15 C12.1)
  have Sf15 : Safe Z own_EL vm0 h15 b15 := Safe.ext E15 C12.1 (Safe.new (by omega))
  have F15_coder : Fld Z h15 b15 "java/lang/String" "coder" "B" (.int (0 : Int32)) := D15 (Or.inr (wq hw 27 rfl)) (ty := .byte) (by decide)
  have F15_value : Fld Z h15 b15 "java/lang/String" "value" "[B" .null := D15 (Or.inr (wq hw 29 rfl)) (ty := (.array .byte)) (by decide)
  have k16 : To p.tables e below S0 (T15.setTop (mkF m 38 l13 [(.ref b3), (.ref b15), (.ref b15)])) := fun tt hq => k15 tt (by
    refine XS.dup X15.here hx rfl (hb hby at_35) rfl rfl ?_
    refine XS.aload X15.here hx rfl (hb hby at_36) rfl rfl ?_
    exact hq)
  have f17 : Old Z n0 h15 := (((((O0.ext E3).wr W6 (by omega)).wr W9 (by omega)).wr W12 (by omega)).ext E15)
  have f18 : Arv Z h15 b3 c3 .char (3 : Int32) [(.int (p0 &&& (255 : Int32))), (.int (p1 &&& (255 : Int32))), (.int (p2 &&& (255 : Int32)))] (.int (0 : Int32)) := (V12.ext E15)
  obtain ⟨_, T19, L19, X19, ⟨rfl, Nq19, Kq19, t19, kt19, gt19, P190, P191, P192, P193⟩, k19a⟩ := callC' X15 hx hZ (y := (⟨"java/lang/String", "<init>", "([C)V"⟩ : MethodName)) rfl hown (wq hw 4 rfl) (wq hw 5 rfl) (wq hw 6 rfl) (by decide) (backC (W := 1) (rm_n1_3 l Z a0 hw zc b15 b3 c3 .null (.int (0 : Int32)) (p0 &&& (255 : Int32)) (p1 &&& (255 : Int32)) (p2 &&& (255 : Int32)) h15 n0 (by omega) S_c hzc f17 A15 F15_value F15_coder f18 (by omega) (by omega) (by omega) (by omega) (own_m255 _) (own_m255 _) (own_m255 _)) hZ (wq hw 6 rfl) (wq hw 3 rfl) (by decide) (by decide)) e15 (argsL := [(.ref b3)]) (rest := [(.ref b15)]) rfl rfl pd_12 rfl (by rw [hml]; rfl) (hb hby at_38) (Nat.le_of_eq rfl) (by decide) (by decide) k16
  have k19 : To p.tables e below S0 (T19.setTop (mkF m 41 l13 [(.ref b15)])) := k19a
  have N19 := N12.app Nq19
  obtain ⟨h19, e19⟩ : ∃ z, T19.heap = z := ⟨_, rfl⟩
  rw [e19] at Kq19 P190 P191 P192 P193
  have z19 : h15.size ≤ h19.size := Kq19.1
  have C19 := C15.trans (CHr.keep Kq19 (sfS Sf15 sf0) C15.1)
  have y19 : @LT.lt Nat instLTNat t19 h19.size := P193.lt
  let l20 : Array Slot := #[.val (.int p0), .val (.int p1), .val (.int p2), .val (.int mv_), .val (.ref b3), .val (.ref b15), .unset, .unset, .unset, .unset, .unset, .unset, .unset]
  have k21 : To p.tables e below S0 (T19.setTop (mkF m 43 l20 [])) := fun tt hq => k19 tt (by
    refine XS.astore X19.here hx rfl (hb hby at_41) rfl rfl (l' := l20) rfl ?_
    exact hq)
  obtain ⟨T22, h22, X22, e22, E22, A22, D22, -, st22⟩ := newO X19 hx hZ hown (wq hw 30 rfl) (wq hw 31 rfl) (wq hw 32 rfl) e19 (g := (mkF m 43 l20 [])) rfl (hb hby at_43) (by decide) (by decide)
  obtain ⟨b22, g22⟩ : ∃ z, z = h19.size := ⟨_, rfl⟩
  rw [← g22] at A22 D22 st22
  have k22 : To p.tables e below S0 (T22.setTop (mkF m 46 l20 [(.ref b22)])) := fun tt hq => k21 tt (st22 tt hq)
  have z22 : h19.size ≤ h22.size := E22.1
  have y22 : @LT.lt Nat instLTNat b22 h22.size := A22.lt
  have C22 := C19.trans (CHr.ext E22 C19.1)
  have F22_line : Fld Z h22 b22 "com/example/ceruline/ceruline/parsing/SourceReader" "line" "I" (.int (0 : Int32)) := D22 (Or.inl (wq hw 57 rfl)) (ty := .int) (by decide)
  have F22_column : Fld Z h22 b22 "com/example/ceruline/ceruline/parsing/SourceReader" "column" "I" (.int (0 : Int32)) := D22 (Or.inl (wq hw 59 rfl)) (ty := .int) (by decide)
  have F22_source : Fld Z h22 b22 "com/example/ceruline/ceruline/parsing/SourceReader" "source" "Lcom/example/ceruline/ceruline/source/SourceFile;" .null := D22 (Or.inr (wq hw 61 rfl)) (ty := (.object "com/example/ceruline/ceruline/source/SourceFile")) (by decide)
  have F22_text : Fld Z h22 b22 "com/example/ceruline/ceruline/parsing/SourceReader" "text" "Ljava/lang/String;" .null := D22 (Or.inr (wq hw 68 rfl)) (ty := (.object "java/lang/String")) (by decide)
  have F22_offset : Fld Z h22 b22 "com/example/ceruline/ceruline/parsing/SourceReader" "offset" "I" (.int (0 : Int32)) := D22 (Or.inl (wq hw 83 rfl)) (ty := .int) (by decide)
  have k23 : To p.tables e below S0 (T22.setTop (mkF m 47 l20 [(.ref b22), (.ref b22)])) := fun tt hq => k22 tt (by
    refine XS.dup X22.here hx rfl (hb hby at_46) rfl rfl ?_
    exact hq)
  obtain ⟨T24, h24, X24, e24, E24, A24, D24, -, st24⟩ := newO X22 hx hZ hown (wq hw 33 rfl) (wq hw 34 rfl) (wq hw 35 rfl) e22 (g := (mkF m 47 l20 [(.ref b22), (.ref b22)])) rfl (hb hby at_47) (by decide) (by decide)
  obtain ⟨b24, g24⟩ : ∃ z, z = h22.size := ⟨_, rfl⟩
  rw [← g24] at A24 D24 st24
  have k24 : To p.tables e below S0 (T24.setTop (mkF m 50 l20 [(.ref b24), (.ref b22), (.ref b22)])) := fun tt hq => k23 tt (st24 tt hq)
  have z24 : h22.size ≤ h24.size := E24.1
  have y24 : @LT.lt Nat instLTNat b24 h24.size := A24.lt
  have C24 := C22.trans (CHr.ext E24 C22.1)
  have F24_name : Fld Z h24 b24 "com/example/ceruline/ceruline/source/SourceFile" "name" "Ljava/lang/String;" .null := D24 (Or.inr (wq hw 49 rfl)) (ty := (.object "java/lang/String")) (by decide)
  have F24_text : Fld Z h24 b24 "com/example/ceruline/ceruline/source/SourceFile" "text" "Ljava/lang/String;" .null := D24 (Or.inr (wq hw 51 rfl)) (ty := (.object "java/lang/String")) (by decide)
  have k25 : To p.tables e below S0 (T24.setTop (mkF m 51 l20 [(.ref b24), (.ref b24), (.ref b22), (.ref b22)])) := fun tt hq => k24 tt (by
    refine XS.dup X24.here hx rfl (hb hby at_50) rfl rfl ?_
    exact hq)
  obtain ⟨a26, T26, h26, kk26, b26, c26, X26, e26, E26, hS26, hk26, hZ26a, hown26a, A26, Fc26, Fv26, V26, ya26, yb26, Cq26, -, hne26, st26⟩ := ldcCH X24 hx hZ hown (wq hw 36 rfl) (own_wS hw) e24 hS0 (by omega) (own_EW hw) (List.mem_of_getElem? (i := 0) rfl) C24.1 (vs := [(.int (102 : Int32))]) (z := (1 : Int32)) ⟨by decide, by decide⟩ (by decide) (by decide) (g := (mkF m 51 l20 [(.ref b24), (.ref b24), (.ref b22), (.ref b22)])) rfl (hb hby at_51) (n := 4) (by decide) (by decide) (by decide) (by decide)
  have k26 : To p.tables e below S0 (T26.setTop (mkF m 53 l20 [(.ref a26), (.ref b24), (.ref b24), (.ref b22), (.ref b22)])) := fun tt hq => k25 tt (st26 tt hq)
  have hZ26 : Z.Warmed39 T26.vm := hZ26a
  have hown26 : T26.vm.findClass "com/example/ceruline/ceruline/parsing/SourceReaderTextFromPinLaw" = some m.cls := hown26a
  have z26 : h24.size ≤ h26.size := E26.1
  have C26 := C24.trans Cq26
  have f27 : Safe Z own_EL T26.vm h26 b15 := (Cq26.safe (adr_lt (by omega)) (Safe.ext E24 C22.1 (Safe.ext E22 C19.1 (Safe.keep Kq19 (sfS Sf15 sf0) C15.1 Sf15))))
  have nx26_b15 : ¬ (@Eq Nat b15 a26) ∧ ¬ (@Eq Nat b15 b26) := hne26 b15 f27
  have k28 : To p.tables e below S0 (T26.setTop (mkF m 55 l20 [(.ref b15), (.ref a26), (.ref b24), (.ref b24), (.ref b22), (.ref b22)])) := fun tt hq => k26 tt (by
    refine XS.aload X26.here hx rfl (hb hby at_53) rfl rfl ?_
    exact hq)
  have f29 : Exa Z h26 b24 "com/example/ceruline/ceruline/source/SourceFile" := (A24.ext E26)
  have f30 : Fld Z h26 b24 "com/example/ceruline/ceruline/source/SourceFile" "name" "Ljava/lang/String;" .null := (F24_name.ext E26)
  have f31 : Fld Z h26 b24 "com/example/ceruline/ceruline/source/SourceFile" "text" "Ljava/lang/String;" .null := (F24_text.ext E26)
  obtain ⟨_, T32, L32, X32, ⟨rfl, Nq32, Kq32, P320, P321, P322⟩, k32a⟩ := callC' X26 hx hZ26 (y := (⟨"com/example/ceruline/ceruline/source/SourceFile", "<init>", "(Ljava/lang/String;Ljava/lang/String;)V"⟩ : MethodName)) rfl hown26 (wq hw 39 rfl) (wq hw 40 rfl) (wq hw 41 rfl) (by decide) (backC (W := 3) (rm_sfi l Z a0 hw b24 a26 b15 h26 n0 (by omega) f29 f30 f31 (by omega)) hZ26 (wq hw 41 rfl) (wq hw 35 rfl) (by decide) (by decide)) e26 (argsL := [(.ref a26), (.ref b15)]) (rest := [(.ref b24), (.ref b22), (.ref b22)]) rfl rfl pd_13 rfl (by rw [hml]; rfl) (hb hby at_55) (Nat.le_of_eq rfl) (by decide) (by decide) k28
  have k32 : To p.tables e below S0 (T32.setTop (mkF m 58 l20 [(.ref b24), (.ref b22), (.ref b22)])) := k32a
  have N32 := N19.app Nq32
  obtain ⟨h32, e32⟩ : ∃ z, T32.heap = z := ⟨_, rfl⟩
  rw [e32] at Kq32 P320 P321 P322
  have z32 : h26.size ≤ h32.size := Kq32.1
  have C32 := C26.trans (CHr.keep Kq32 (sfS (Safe.exa hZ26.alike f29 (by decide) (by decide)) sf0) C26.1)
  have f33 : Exa Z h32 b22 "com/example/ceruline/ceruline/parsing/SourceReader" := (((A22.ext E24).ext E26).keep Kq32)
  have f34 : Fld Z h32 b22 "com/example/ceruline/ceruline/parsing/SourceReader" "source" "Lcom/example/ceruline/ceruline/source/SourceFile;" .null := (((F22_source.ext E24).ext E26).keep Kq32 (nin1 (by omega)))
  have f35 : Fld Z h32 b22 "com/example/ceruline/ceruline/parsing/SourceReader" "text" "Ljava/lang/String;" .null := (((F22_text.ext E24).ext E26).keep Kq32 (nin1 (by omega)))
  have f36 : Fld Z h32 b22 "com/example/ceruline/ceruline/parsing/SourceReader" "offset" "I" (.int (0 : Int32)) := (((F22_offset.ext E24).ext E26).keep Kq32 (nin1 (by omega)))
  have f37 : Fld Z h32 b22 "com/example/ceruline/ceruline/parsing/SourceReader" "line" "I" (.int (0 : Int32)) := (((F22_line.ext E24).ext E26).keep Kq32 (nin1 (by omega)))
  have f38 : Fld Z h32 b22 "com/example/ceruline/ceruline/parsing/SourceReader" "column" "I" (.int (0 : Int32)) := (((F22_column.ext E24).ext E26).keep Kq32 (nin1 (by omega)))
  obtain ⟨_, T39, L39, X39, ⟨rfl, Nq39, Kq39, P39_0, P39_1, P39_2, P39_3, P39_4, P39_5⟩, k39a⟩ := callC' X32 hx hZ26 (y := (⟨"com/example/ceruline/ceruline/parsing/SourceReader", "<init>", "(Lcom/example/ceruline/ceruline/source/SourceFile;)V"⟩ : MethodName)) rfl hown26 (wq hw 52 rfl) (wq hw 53 rfl) (wq hw 54 rfl) (by decide) (backC (W := 1) (rm_sri l Z a0 hw b22 b24 b15 h32 n0 (by omega) f33 f34 f35 f36 f37 f38 P320 P322 (by omega) (by omega)) hZ26 (wq hw 54 rfl) (wq hw 32 rfl) (by decide) (by decide)) e32 (argsL := [(.ref b24)]) (rest := [(.ref b22)]) rfl rfl pd_14 rfl (by rw [hml]; rfl) (hb hby at_58) (Nat.le_of_eq rfl) (by decide) (by decide) k32
  have k39 : To p.tables e below S0 (T39.setTop (mkF m 61 l20 [(.ref b22)])) := k39a
  have N39 := N32.app Nq39
  obtain ⟨h39, e39⟩ : ∃ z, T39.heap = z := ⟨_, rfl⟩
  rw [e39] at Kq39 P39_0 P39_1 P39_2 P39_3 P39_4 P39_5
  have z39 : h32.size ≤ h39.size := Kq39.1
  have C39 := C32.trans (CHr.keep Kq39 (sfS (Safe.exa hZ26.alike f33 (by decide) (by decide)) sf0) C32.1)
  let l40 : Array Slot := #[.val (.int p0), .val (.int p1), .val (.int p2), .val (.int mv_), .val (.ref b3), .val (.ref b15), .val (.ref b22), .unset, .unset, .unset, .unset, .unset, .unset]
  have k41 : To p.tables e below S0 (T39.setTop (mkF m 66 l40 [(.int (mv_ &&& (3 : Int32)))])) := fun tt hq => k39 tt (by
    refine XS.astore X39.here hx rfl (hb hby at_61) rfl rfl (l' := l40) rfl ?_
    refine XS.iloadN X39.here hx rfl (hb hby at_63) rfl ?_
    refine XS.iconst X39.here hx rfl (hb hby at_64) ?_
    refine XS.iand X39.here hx rfl (hb hby at_65) rfl ?_
    exact hq)
  rcases own_and3 _ with ht42 | ht42 | ht42 | ht42
  · -- pc 66: (0 : Int32)
    have k43 : To p.tables e below S0 (T39.setTop (mkF m 66 l40 [(.int (0 : Int32))])) := by have hq := k41; rw [ht42] at hq; exact hq
    let l44 : Array Slot := #[.val (.int p0), .val (.int p1), .val (.int p2), .val (.int mv_), .val (.ref b3), .val (.ref b15), .val (.ref b22), .val (.int (0 : Int32)), .unset, .unset, .unset, .unset, .unset]
    have k45 : To p.tables e below S0 (T39.setTop (mkF m 77 l44 [(.int (3 : Int32)), (.int (((mv_.toUInt32 >>> ((2 : Int32) &&& 31).toUInt32).toInt32) &&& (3 : Int32)))])) := fun tt hq => k43 tt (by
      refine XS.istore X39.here hx rfl (hb hby at_66) rfl (l' := l44) rfl ?_
      refine XS.iloadN X39.here hx rfl (hb hby at_68) rfl ?_
      refine XS.iconst X39.here hx rfl (hb hby at_69) ?_
      refine XS.iushr X39.here hx rfl (hb hby at_70) rfl ?_
      refine XS.iconst X39.here hx rfl (hb hby at_71) ?_
      refine XS.iand X39.here hx rfl (hb hby at_72) rfl ?_
      refine XS.iconst X39.here hx rfl (hb hby at_73) ?_
      refine XS.iload X39.here hx rfl (hb hby at_74) rfl ?_
      refine XS.isub X39.here hx rfl (hb hby at_76) rfl ?_
      exact hq)
    obtain ⟨_, T46, L46, X46, ⟨rfl, Nq46, eq46⟩, k46a⟩ := callS' X39 hx hZ26 (y := (⟨"java/lang/Math", "min", "(II)I"⟩ : MethodName)) hown26 (wq hw 69 rfl) (wq hw 70 rfl) (wq hw 71 rfl) (wq hw 72 rfl) (by decide) (backC (W := 0) (rm_min l Z a0 hw (((mv_.toUInt32 >>> ((2 : Int32) &&& 31).toUInt32).toInt32) &&& (3 : Int32)) (3 : Int32) (if (3 : Int32) < (((mv_.toUInt32 >>> ((2 : Int32) &&& 31).toUInt32).toInt32) &&& (3 : Int32)) then (3 : Int32) else (((mv_.toUInt32 >>> ((2 : Int32) &&& 31).toUInt32).toInt32) &&& (3 : Int32))) h39 n0 (by omega) rfl) hZ26 (wq hw 72 rfl) (wq hw 71 rfl) (by decide) (by decide)) e39 (argsL := [(.int (((mv_.toUInt32 >>> ((2 : Int32) &&& 31).toUInt32).toInt32) &&& (3 : Int32))), (.int (3 : Int32))]) (rest := []) rfl rfl pd_15 rfl (by rw [hml]; rfl) (hb hby at_77) (Nat.le_of_eq rfl) (by decide) (by decide) k45
    have k46 : To p.tables e below S0 (T46.setTop (mkF m 80 l44 [(.int (if (3 : Int32) < (((mv_.toUInt32 >>> ((2 : Int32) &&& 31).toUInt32).toInt32) &&& (3 : Int32)) then (3 : Int32) else (((mv_.toUInt32 >>> ((2 : Int32) &&& 31).toUInt32).toInt32) &&& (3 : Int32))))])) := k46a
    have N46 := N39.app Nq46
    have e46 : T46.heap = h39 := eq46
    rcases own_b0 _ with ht47 | ht47 | ht47 | ht47
    · -- pc 80: (0 : Int32)
      have k48 : To p.tables e below S0 (T46.setTop (mkF m 80 l44 [(.int (0 : Int32))])) := by have hq := k46; rw [ht47] at hq; exact hq
      let l49 : Array Slot := #[.val (.int p0), .val (.int p1), .val (.int p2), .val (.int mv_), .val (.ref b3), .val (.ref b15), .val (.ref b22), .val (.int (0 : Int32)), .val (.int (0 : Int32)), .unset, .unset, .unset, .unset]
      have k50 : To p.tables e below S0 (T46.setTop (mkF m 86 l49 [(.int (0 : Int32)), (.ref b22)])) := fun tt hq => k48 tt (by
        refine XS.istore X46.here hx rfl (hb hby at_80) rfl (l' := l49) rfl ?_
        refine XS.aload X46.here hx rfl (hb hby at_82) rfl rfl ?_
        refine XS.iload X46.here hx rfl (hb hby at_84) rfl ?_
        exact hq)
      have f51 : Old Z n0 h39 := ((((((f17.keep Kq19 (allS (by omega) all0)).ext E22).ext E24).ext E26).keep Kq32 (allS (by omega) all0)).keep Kq39 (allS (by omega) all0))
      have f52 : Exa Z h39 b15 "java/lang/String" := (((((P190.ext E22).ext E24).ext E26).keep Kq32).keep Kq39)
      have f53 : Fld Z h39 b15 "java/lang/String" "value" "[B" (.ref t19) := (((((P191.ext E22).ext E24).ext E26).keep Kq32 (nin1 (by omega))).keep Kq39 (nin1 (by omega)))
      have f54 : Fld Z h39 b15 "java/lang/String" "coder" "B" (.int (0 : Int32)) := (((((P192.ext E22).ext E24).ext E26).keep Kq32 (nin1 (by omega))).keep Kq39 (nin1 (by omega)))
      have f55 : Arv Z h39 t19 kt19 .byte (3 : Int32) [(.int (nar .byte ((p0 &&& (255 : Int32)).toInt8.toInt32))), (.int (nar .byte ((p1 &&& (255 : Int32)).toInt8.toInt32))), (.int (nar .byte ((p2 &&& (255 : Int32)).toInt8.toInt32)))] (.int 0) := (((((P193.ext E22).ext E24).ext E26).keep Kq32 (nin1 (by omega))).keep Kq39 (nin1 (by omega)))
      obtain ⟨_, T56, L56, X56, ⟨x56, y56x, rfl, Nq56, Kq56, P56_0, P56_1, P56_2, P56_3, P56_4, P56_5⟩, k56a⟩ := callS' X46 hx hZ26 (y := (⟨"com/example/ceruline/ceruline/parsing/SourceReaderTextFromPinLaw", "steps", "(Lcom/example/ceruline/ceruline/parsing/SourceReader;I)V"⟩ : MethodName)) hown26 (wq hw 73 rfl) (wq hw 74 rfl) (wq hw 75 rfl) (wq hw 76 rfl) (by decide) (backC (W := 0) (rm_st0_0 l Z a0 hw zc fm b22 b24 b15 t19 kt19 (nar .byte ((p0 &&& (255 : Int32)).toInt8.toInt32)) (nar .byte ((p1 &&& (255 : Int32)).toInt8.toInt32)) (nar .byte ((p2 &&& (255 : Int32)).toInt8.toInt32)) (1 : Int32) (1 : Int32) h39 n0 (by omega) S_c hzc S_f hfm f51 P39_0 P39_1 P39_2 P39_3 P39_4 P39_5 f52 f53 f54 f55 (by omega) (by omega) (by omega)) hZ26 (wq hw 76 rfl) (wq hw 75 rfl) (by decide) (by decide)) e46 (argsL := [(.ref b22), (.int (0 : Int32))]) (rest := []) rfl rfl pd_16 rfl (by rw [hml]; rfl) (hb hby at_86) (Nat.le_of_eq rfl) (by decide) (by decide) k50
      have k56 : To p.tables e below S0 (T56.setTop (mkF m 89 l49 [])) := k56a
      have N56 := N46.app Nq56
      obtain ⟨h56, e56⟩ : ∃ z, T56.heap = z := ⟨_, rfl⟩
      rw [e56] at Kq56 P56_0 P56_1 P56_2 P56_3 P56_4 P56_5
      have z56 : h39.size ≤ h56.size := Kq56.1
      have C56 := C39.trans (CHr.keep Kq56 (sfS (Safe.exa hZ26.alike P39_0 (by decide) (by decide)) sf0) C39.1)
      have k57 : To p.tables e below S0 (T56.setTop (mkF m 91 l49 [(.ref b22)])) := fun tt hq => k56 tt (by
        refine XS.aload X56.here hx rfl (hb hby at_89) rfl rfl ?_
        exact hq)
      obtain ⟨_, T58, L58, X58, ⟨rfl, Nq58, eq58⟩, k58a⟩ := callV' X56 hx hZ26 (y := (⟨"com/example/ceruline/ceruline/parsing/SourceReader", "offset", "()I"⟩ : MethodName)) (z := (⟨"com/example/ceruline/ceruline/parsing/SourceReader", "offset", "()I"⟩ : MethodName)) hown26 (wq hw 107 rfl) (wq hw 108 rfl) (notFace_of_selects (args := #[]) (mvT hZ26 (wq hw 110 rfl))) (wq hw 110 rfl) (wq hw 109 rfl) (by decide) P56_0 (backC (W := 0) (rm_off l Z a0 hw b22 (0 : Int32) h56 n0 (by omega) P56_3) hZ26 (wq hw 111 rfl) (wq hw 32 rfl) (by decide) (by decide)) e56 (argsL := []) (rest := []) rfl rfl pd_17 rfl (by rw [hml]; rfl) (hb hby at_91) (Nat.le_of_eq rfl) (by decide) (by decide) k57
      have k58 : To p.tables e below S0 (T58.setTop (mkF m 94 l49 [(.int (0 : Int32))])) := k58a
      have N58 := N56.app Nq58
      have e58 : T58.heap = h56 := eq58
      let l59 : Array Slot := #[.val (.int p0), .val (.int p1), .val (.int p2), .val (.int mv_), .val (.ref b3), .val (.ref b15), .val (.ref b22), .val (.int (0 : Int32)), .val (.int (0 : Int32)), .val (.int (0 : Int32)), .unset, .unset, .unset]
      have k60 : To p.tables e below S0 (T58.setTop (mkF m 100 l59 [(.int (0 : Int32)), (.ref b22)])) := fun tt hq => k58 tt (by
        refine XS.istore X58.here hx rfl (hb hby at_94) rfl (l' := l59) rfl ?_
        refine XS.aload X58.here hx rfl (hb hby at_96) rfl rfl ?_
        refine XS.iload X58.here hx rfl (hb hby at_98) rfl ?_
        exact hq)
      have f61 : Old Z n0 h56 := (f51.keep Kq56 (allS (by omega) all0))
      have f62 : Exa Z h56 b15 "java/lang/String" := (f52.keep Kq56)
      have f63 : Fld Z h56 b15 "java/lang/String" "value" "[B" (.ref t19) := (f53.keep Kq56 (nin1 (by omega)))
      have f64 : Fld Z h56 b15 "java/lang/String" "coder" "B" (.int (0 : Int32)) := (f54.keep Kq56 (nin1 (by omega)))
      have f65 : Arv Z h56 t19 kt19 .byte (3 : Int32) [(.int (nar .byte ((p0 &&& (255 : Int32)).toInt8.toInt32))), (.int (nar .byte ((p1 &&& (255 : Int32)).toInt8.toInt32))), (.int (nar .byte ((p2 &&& (255 : Int32)).toInt8.toInt32)))] (.int 0) := (f55.keep Kq56 (nin1 (by omega)))
      obtain ⟨_, T66, L66, X66, ⟨x66, y66x, rfl, Nq66, Kq66, P66_0, P66_1, P66_2, P66_3, P66_4, P66_5⟩, k66a⟩ := callS' X58 hx hZ26 (y := (⟨"com/example/ceruline/ceruline/parsing/SourceReaderTextFromPinLaw", "steps", "(Lcom/example/ceruline/ceruline/parsing/SourceReader;I)V"⟩ : MethodName)) hown26 (wq hw 73 rfl) (wq hw 74 rfl) (wq hw 75 rfl) (wq hw 76 rfl) (by decide) (backC (W := 0) (rm_st0_0 l Z a0 hw zc fm b22 b24 b15 t19 kt19 (nar .byte ((p0 &&& (255 : Int32)).toInt8.toInt32)) (nar .byte ((p1 &&& (255 : Int32)).toInt8.toInt32)) (nar .byte ((p2 &&& (255 : Int32)).toInt8.toInt32)) x56 y56x h56 n0 (by omega) S_c hzc S_f hfm f61 P56_0 P56_1 P56_2 P56_3 P56_4 P56_5 f62 f63 f64 f65 (by omega) (by omega) (by omega)) hZ26 (wq hw 76 rfl) (wq hw 75 rfl) (by decide) (by decide)) e58 (argsL := [(.ref b22), (.int (0 : Int32))]) (rest := []) rfl rfl pd_16 rfl (by rw [hml]; rfl) (hb hby at_100) (Nat.le_of_eq rfl) (by decide) (by decide) k60
      have k66 : To p.tables e below S0 (T66.setTop (mkF m 103 l59 [])) := k66a
      have N66 := N58.app Nq66
      obtain ⟨h66, e66⟩ : ∃ z, T66.heap = z := ⟨_, rfl⟩
      rw [e66] at Kq66 P66_0 P66_1 P66_2 P66_3 P66_4 P66_5
      have z66 : h56.size ≤ h66.size := Kq66.1
      have C66 := C56.trans (CHr.keep Kq66 (sfS (Safe.exa hZ26.alike P56_0 (by decide) (by decide)) sf0) C56.1)
      have k67 : To p.tables e below S0 (T66.setTop (mkF m 105 l59 [(.ref b22)])) := fun tt hq => k66 tt (by
        refine XS.aload X66.here hx rfl (hb hby at_103) rfl rfl ?_
        exact hq)
      obtain ⟨_, T68, L68, X68, ⟨rfl, Nq68, eq68⟩, k68a⟩ := callV' X66 hx hZ26 (y := (⟨"com/example/ceruline/ceruline/parsing/SourceReader", "offset", "()I"⟩ : MethodName)) (z := (⟨"com/example/ceruline/ceruline/parsing/SourceReader", "offset", "()I"⟩ : MethodName)) hown26 (wq hw 107 rfl) (wq hw 108 rfl) (notFace_of_selects (args := #[]) (mvT hZ26 (wq hw 110 rfl))) (wq hw 110 rfl) (wq hw 109 rfl) (by decide) P66_0 (backC (W := 0) (rm_off l Z a0 hw b22 (0 : Int32) h66 n0 (by omega) P66_3) hZ26 (wq hw 111 rfl) (wq hw 32 rfl) (by decide) (by decide)) e66 (argsL := []) (rest := []) rfl rfl pd_17 rfl (by rw [hml]; rfl) (hb hby at_105) (Nat.le_of_eq rfl) (by decide) (by decide) k67
      have k68 : To p.tables e below S0 (T68.setTop (mkF m 108 l59 [(.int (0 : Int32))])) := k68a
      have N68 := N66.app Nq68
      have e68 : T68.heap = h66 := eq68
      let l69 : Array Slot := #[.val (.int p0), .val (.int p1), .val (.int p2), .val (.int mv_), .val (.ref b3), .val (.ref b15), .val (.ref b22), .val (.int (0 : Int32)), .val (.int (0 : Int32)), .val (.int (0 : Int32)), .val (.int (0 : Int32)), .unset, .unset]
      have k70 : To p.tables e below S0 (T68.setTop (mkF m 114 l69 [(.int (0 : Int32)), (.ref b22)])) := fun tt hq => k68 tt (by
        refine XS.istore X68.here hx rfl (hb hby at_108) rfl (l' := l69) rfl ?_
        refine XS.aload X68.here hx rfl (hb hby at_110) rfl rfl ?_
        refine XS.iload X68.here hx rfl (hb hby at_112) rfl ?_
        exact hq)
      have f71 : Old Z n0 h66 := (f61.keep Kq66 (allS (by omega) all0))
      have f72 : Exa Z h66 b15 "java/lang/String" := (f62.keep Kq66)
      have f73 : Fld Z h66 b15 "java/lang/String" "value" "[B" (.ref t19) := (f63.keep Kq66 (nin1 (by omega)))
      have f74 : Fld Z h66 b15 "java/lang/String" "coder" "B" (.int (0 : Int32)) := (f64.keep Kq66 (nin1 (by omega)))
      have f75 : Arv Z h66 t19 kt19 .byte (3 : Int32) [(.int (nar .byte ((p0 &&& (255 : Int32)).toInt8.toInt32))), (.int (nar .byte ((p1 &&& (255 : Int32)).toInt8.toInt32))), (.int (nar .byte ((p2 &&& (255 : Int32)).toInt8.toInt32)))] (.int 0) := (f65.keep Kq66 (nin1 (by omega)))
      obtain ⟨_, T76, L76, X76, ⟨a76, t76, k76x, rfl, Nq76, ya76, yt76, Kq76, P760, P761, P762, P763⟩, k76a, Cq76, hS76, hZ76, hown76⟩ := callVW X68 hx hZ26 (y := (⟨"com/example/ceruline/ceruline/parsing/SourceReader", "textFrom", "(I)Ljava/lang/String;"⟩ : MethodName)) (z := (⟨"com/example/ceruline/ceruline/parsing/SourceReader", "textFrom", "(I)Ljava/lang/String;"⟩ : MethodName)) hown26 hS26 (by omega) (wq hw 112 rfl) (wq hw 113 rfl) (notFace_of_selects (args := #[]) (mvT hZ26 (wq hw 115 rfl))) (wq hw 115 rfl) (wq hw 114 rfl) (by decide) P66_0 (backOfW (W := 0) (rm_tf0_0 l Z a0 hw zc fm b22 b15 t19 kt19 (nar .byte ((p0 &&& (255 : Int32)).toInt8.toInt32)) (nar .byte ((p1 &&& (255 : Int32)).toInt8.toInt32)) (nar .byte ((p2 &&& (255 : Int32)).toInt8.toInt32)) h66 n0 (by omega) S_c hzc S_f hfm f71 P66_2 P66_3 f72 f73 f74 f75 (by omega)) hZ26 (wq hw 116 rfl) (wq hw 32 rfl) (by decide) (by decide) (own_EW hw) C66.1 all0) e68 (argsL := [(.int (0 : Int32))]) (rest := []) rfl rfl pd_21 rfl (by rw [hml]; rfl) (hb hby at_114) (Nat.le_of_eq rfl) (by decide) (by decide) k70
      have k76 : To p.tables e below S0 (T76.setTop (mkF m 117 l69 [(.ref a76)])) := k76a
      have N76 := N68.app Nq76
      obtain ⟨h76, e76⟩ : ∃ z, T76.heap = z := ⟨_, rfl⟩
      rw [e76] at Kq76 ya76 yt76 P760 P761 P762 P763 Cq76 hS76
      have z76 : h66.size ≤ h76.size := Kq76.1
      have C76 := C66.trans Cq76
      let l77 : Array Slot := #[.val (.int p0), .val (.int p1), .val (.int p2), .val (.int mv_), .val (.ref b3), .val (.ref b15), .val (.ref b22), .val (.int (0 : Int32)), .val (.int (0 : Int32)), .val (.int (0 : Int32)), .val (.int (0 : Int32)), .val (.ref a76), .unset]
      have k78 : To p.tables e below S0 (T76.setTop (mkF m 123 l77 [(.int (0 : Int32)), (.ref b22)])) := fun tt hq => k76 tt (by
        refine XS.astore X76.here hx rfl (hb hby at_117) rfl rfl (l' := l77) rfl ?_
        refine XS.aload X76.here hx rfl (hb hby at_119) rfl rfl ?_
        refine XS.iload X76.here hx rfl (hb hby at_121) rfl ?_
        exact hq)
      have f79 : Old Z n0 h76 := (f71.keep Kq76 all0)
      have f80 : Fld Z h76 b22 "com/example/ceruline/ceruline/parsing/SourceReader" "text" "Ljava/lang/String;" (.ref b15) := (P66_2.keep Kq76 nin0)
      have f81 : Fld Z h76 b22 "com/example/ceruline/ceruline/parsing/SourceReader" "offset" "I" (.int (0 : Int32)) := (P66_3.keep Kq76 nin0)
      have f82 : Exa Z h76 b15 "java/lang/String" := (f72.keep Kq76)
      have f83 : Fld Z h76 b15 "java/lang/String" "value" "[B" (.ref t19) := (f73.keep Kq76 nin0)
      have f84 : Fld Z h76 b15 "java/lang/String" "coder" "B" (.int (0 : Int32)) := (f74.keep Kq76 nin0)
      have f85 : Arv Z h76 t19 kt19 .byte (3 : Int32) [(.int (nar .byte ((p0 &&& (255 : Int32)).toInt8.toInt32))), (.int (nar .byte ((p1 &&& (255 : Int32)).toInt8.toInt32))), (.int (nar .byte ((p2 &&& (255 : Int32)).toInt8.toInt32)))] (.int 0) := (f75.keep Kq76 nin0)
      have f87 : Exa Z h76 b22 "com/example/ceruline/ceruline/parsing/SourceReader" := (P66_0.keep Kq76)
      obtain ⟨_, T86, L86, X86, ⟨a86, t86, k86x, rfl, Nq86, ya86, yt86, Kq86, P860, P861, P862, P863⟩, k86a, Cq86, hS86, hZ86, hown86⟩ := callVW X76 hx hZ76 (y := (⟨"com/example/ceruline/ceruline/parsing/SourceReader", "textFrom", "(I)Ljava/lang/String;"⟩ : MethodName)) (z := (⟨"com/example/ceruline/ceruline/parsing/SourceReader", "textFrom", "(I)Ljava/lang/String;"⟩ : MethodName)) hown76 hS76 (by omega) (wq hw 112 rfl) (wq hw 113 rfl) (notFace_of_selects (args := #[]) (mvT hZ76 (wq hw 115 rfl))) (wq hw 115 rfl) (wq hw 114 rfl) (by decide) f87 (backOfW (W := 0) (rm_tf0_0 l Z a0 hw zc fm b22 b15 t19 kt19 (nar .byte ((p0 &&& (255 : Int32)).toInt8.toInt32)) (nar .byte ((p1 &&& (255 : Int32)).toInt8.toInt32)) (nar .byte ((p2 &&& (255 : Int32)).toInt8.toInt32)) h76 n0 (by omega) S_c hzc S_f hfm f79 f80 f81 f82 f83 f84 f85 (by omega)) hZ76 (wq hw 116 rfl) (wq hw 32 rfl) (by decide) (by decide) (own_EW hw) C76.1 all0) e76 (argsL := [(.int (0 : Int32))]) (rest := []) rfl rfl pd_21 rfl (by rw [hml]; rfl) (hb hby at_123) (Nat.le_of_eq rfl) (by decide) (by decide) k78
      have k86 : To p.tables e below S0 (T86.setTop (mkF m 126 l77 [(.ref a86)])) := k86a
      have N86 := N76.app Nq86
      obtain ⟨h86, e86⟩ : ∃ z, T86.heap = z := ⟨_, rfl⟩
      rw [e86] at Kq86 ya86 yt86 P860 P861 P862 P863 Cq86 hS86
      have z86 : h76.size ≤ h86.size := Kq86.1
      have C86 := C76.trans Cq86
      let l88 : Array Slot := #[.val (.int p0), .val (.int p1), .val (.int p2), .val (.int mv_), .val (.ref b3), .val (.ref b15), .val (.ref b22), .val (.int (0 : Int32)), .val (.int (0 : Int32)), .val (.int (0 : Int32)), .val (.int (0 : Int32)), .val (.ref a76), .val (.ref a86)]
      have k89 : To p.tables e below S0 (T86.setTop (mkF m 149 l88 [(.ref a86)])) := fun tt hq => k86 tt (by
        refine XS.astore X86.here hx rfl (hb hby at_126) rfl rfl (l' := l88) rfl ?_
        refine XS.iload X86.here hx rfl (hb hby at_128) rfl ?_
        refine XS.iload X86.here hx rfl (hb hby at_130) rfl ?_
        refine XS.icmpNo X86.here hx rfl (hb hby at_132) rfl (teq (by decide)).2 ?_
        refine XS.iload X86.here hx rfl (hb hby at_135) rfl ?_
        refine XS.iload X86.here hx rfl (hb hby at_137) rfl ?_
        refine XS.iload X86.here hx rfl (hb hby at_139) rfl ?_
        refine XS.iadd X86.here hx rfl (hb hby at_141) rfl ?_
        refine XS.icmpYes X86.here hx rfl (pc0 := 142) (pc' := 147) rfl (hb hby at_142) rfl (teq (by decide)).1 (by decide) (by decide) ?_
        refine XS.aload X86.here hx rfl (hb hby at_147) rfl rfl ?_
        exact hq)
      obtain ⟨_, T90, L90, X90, ⟨rfl, Nq90, eq90⟩, k90a⟩ := callV' X86 hx hZ86 (y := (⟨"java/lang/String", "isEmpty", "()Z"⟩ : MethodName)) (z := (⟨"java/lang/String", "isEmpty", "()Z"⟩ : MethodName)) hown86 (wq hw 143 rfl) (wq hw 144 rfl) (notFace_of_selects (args := #[]) (mvT hZ86 (wq hw 146 rfl))) (wq hw 146 rfl) (wq hw 145 rfl) (by decide) P860 (backC (W := 0) (rm_em l Z a0 hw a86 t86 k86x h86 n0 (by omega) P860 P861 P862 P863) hZ86 (wq hw 147 rfl) (wq hw 3 rfl) (by decide) (by decide)) e86 (argsL := []) (rest := []) rfl rfl pd_6 rfl (by rw [hml]; rfl) (hb hby at_149) (Nat.le_of_eq rfl) (by decide) (by decide) k89
      have k90 : To p.tables e below S0 (T90.setTop (mkF m 152 l88 [(.int (1 : Int32))])) := k90a
      have N90 := N86.app Nq90
      have e90 : T90.heap = h86 := eq90
      have k91 : To p.tables e below S0 (T90.setTop (mkF m 159 l88 [(.ref a76)])) := fun tt hq => k90 tt (by
        refine XS.ifYes X90.here hx rfl (pc0 := 152) (pc' := 157) rfl (hb hby at_152) rfl ((if0 _ _).trans (feq (by decide)).2) (by decide) (by decide) ?_
        refine XS.aload X90.here hx rfl (hb hby at_157) rfl rfl ?_
        exact hq)
      have f92 : Old Z n0 h86 := (f79.keep Kq86 all0)
      have f93 : Exa Z h86 a76 "java/lang/String" := (P760.keep Kq86)
      have f94 : Fld Z h86 a76 "java/lang/String" "value" "[B" (.ref t76) := (P761.keep Kq86 nin0)
      have f95 : Fld Z h86 a76 "java/lang/String" "coder" "B" (.int (0 : Int32)) := (P762.keep Kq86 nin0)
      have f96 : Arv Z h86 t76 k76x .byte (0 : Int32) [] (.int 0) := (P763.keep Kq86 nin0)
      obtain ⟨_, T97, L97, X97, ⟨rfl, Nq97, eq97⟩, k97a⟩ := callV' X90 hx hZ86 (y := (⟨"java/lang/String", "length", "()I"⟩ : MethodName)) (z := (⟨"java/lang/String", "length", "()I"⟩ : MethodName)) hown86 (wq hw 148 rfl) (wq hw 123 rfl) (notFace_of_selects (args := #[]) (mvT hZ86 (wq hw 125 rfl))) (wq hw 125 rfl) (wq hw 124 rfl) (by decide) f93 (backC (W := 0) (rm_len0 l Z a0 hw zc a76 t76 k76x  h86 n0 (by omega) S_c hzc f92 f93 f94 f95 f96) hZ86 (wq hw 126 rfl) (wq hw 3 rfl) (by decide) (by decide)) e90 (argsL := []) (rest := []) rfl rfl pd_17 rfl (by rw [hml]; rfl) (hb hby at_159) (Nat.le_of_eq rfl) (by decide) (by decide) k91
      have k97 : To p.tables e below S0 (T97.setTop (mkF m 162 l88 [(.int (0 : Int32))])) := k97a
      have N97 := N90.app Nq97
      have e97 : T97.heap = h86 := eq97
      have k98 : To p.tables e below S0 (T97.setTop (mkF m 240 l88 [(.int (1 : Int32))])) := fun tt hq => k97 tt (by
        refine XS.iload X97.here hx rfl (hb hby at_162) rfl ?_
        refine XS.icmpYes X97.here hx rfl (pc0 := 164) (pc' := 169) rfl (hb hby at_164) rfl (teq (by decide)).1 (by decide) (by decide) ?_
        refine XS.iload X97.here hx rfl (hb hby at_169) rfl ?_
        refine XS.iconst X97.here hx rfl (hb hby at_171) ?_
        refine XS.icmpYes X97.here hx rfl (pc0 := 172) (pc' := 191) rfl (hb hby at_172) rfl (tlt (by decide)).1 (by decide) (by decide) ?_
        refine XS.iload X97.here hx rfl (hb hby at_191) rfl ?_
        refine XS.iconst X97.here hx rfl (hb hby at_193) ?_
        refine XS.icmpYes X97.here hx rfl (pc0 := 194) (pc' := 215) rfl (hb hby at_194) rfl (tlt (by decide)).1 (by decide) (by decide) ?_
        refine XS.iload X97.here hx rfl (hb hby at_215) rfl ?_
        refine XS.iconst X97.here hx rfl (hb hby at_217) ?_
        refine XS.icmpYes X97.here hx rfl (pc0 := 218) (pc' := 239) rfl (hb hby at_218) rfl (tlt (by decide)).1 (by decide) (by decide) ?_
        refine XS.iconst X97.here hx rfl (hb hby at_239) ?_
        exact hq)
      refine retIntW X97 hx hZ86 (own_EW hw) hS86 (by omega) C86 e97 hret hlk (by simp) rfl (hb hby at_240) k98 ?_ (by decide) (by decide)
      exact ⟨rfl, N97⟩
    · -- pc 80: (1 : Int32)
      have k99 : To p.tables e below S0 (T46.setTop (mkF m 80 l44 [(.int (1 : Int32))])) := by have hq := k46; rw [ht47] at hq; exact hq
      let l100 : Array Slot := #[.val (.int p0), .val (.int p1), .val (.int p2), .val (.int mv_), .val (.ref b3), .val (.ref b15), .val (.ref b22), .val (.int (0 : Int32)), .val (.int (1 : Int32)), .unset, .unset, .unset, .unset]
      have k101 : To p.tables e below S0 (T46.setTop (mkF m 86 l100 [(.int (0 : Int32)), (.ref b22)])) := fun tt hq => k99 tt (by
        refine XS.istore X46.here hx rfl (hb hby at_80) rfl (l' := l100) rfl ?_
        refine XS.aload X46.here hx rfl (hb hby at_82) rfl rfl ?_
        refine XS.iload X46.here hx rfl (hb hby at_84) rfl ?_
        exact hq)
      have f102 : Old Z n0 h39 := ((((((f17.keep Kq19 (allS (by omega) all0)).ext E22).ext E24).ext E26).keep Kq32 (allS (by omega) all0)).keep Kq39 (allS (by omega) all0))
      have f103 : Exa Z h39 b15 "java/lang/String" := (((((P190.ext E22).ext E24).ext E26).keep Kq32).keep Kq39)
      have f104 : Fld Z h39 b15 "java/lang/String" "value" "[B" (.ref t19) := (((((P191.ext E22).ext E24).ext E26).keep Kq32 (nin1 (by omega))).keep Kq39 (nin1 (by omega)))
      have f105 : Fld Z h39 b15 "java/lang/String" "coder" "B" (.int (0 : Int32)) := (((((P192.ext E22).ext E24).ext E26).keep Kq32 (nin1 (by omega))).keep Kq39 (nin1 (by omega)))
      have f106 : Arv Z h39 t19 kt19 .byte (3 : Int32) [(.int (nar .byte ((p0 &&& (255 : Int32)).toInt8.toInt32))), (.int (nar .byte ((p1 &&& (255 : Int32)).toInt8.toInt32))), (.int (nar .byte ((p2 &&& (255 : Int32)).toInt8.toInt32)))] (.int 0) := (((((P193.ext E22).ext E24).ext E26).keep Kq32 (nin1 (by omega))).keep Kq39 (nin1 (by omega)))
      obtain ⟨_, T107, L107, X107, ⟨x107, y107x, rfl, Nq107, Kq107, P107_0, P107_1, P107_2, P107_3, P107_4, P107_5⟩, k107a⟩ := callS' X46 hx hZ26 (y := (⟨"com/example/ceruline/ceruline/parsing/SourceReaderTextFromPinLaw", "steps", "(Lcom/example/ceruline/ceruline/parsing/SourceReader;I)V"⟩ : MethodName)) hown26 (wq hw 73 rfl) (wq hw 74 rfl) (wq hw 75 rfl) (wq hw 76 rfl) (by decide) (backC (W := 0) (rm_st0_0 l Z a0 hw zc fm b22 b24 b15 t19 kt19 (nar .byte ((p0 &&& (255 : Int32)).toInt8.toInt32)) (nar .byte ((p1 &&& (255 : Int32)).toInt8.toInt32)) (nar .byte ((p2 &&& (255 : Int32)).toInt8.toInt32)) (1 : Int32) (1 : Int32) h39 n0 (by omega) S_c hzc S_f hfm f102 P39_0 P39_1 P39_2 P39_3 P39_4 P39_5 f103 f104 f105 f106 (by omega) (by omega) (by omega)) hZ26 (wq hw 76 rfl) (wq hw 75 rfl) (by decide) (by decide)) e46 (argsL := [(.ref b22), (.int (0 : Int32))]) (rest := []) rfl rfl pd_16 rfl (by rw [hml]; rfl) (hb hby at_86) (Nat.le_of_eq rfl) (by decide) (by decide) k101
      have k107 : To p.tables e below S0 (T107.setTop (mkF m 89 l100 [])) := k107a
      have N107 := N46.app Nq107
      obtain ⟨h107, e107⟩ : ∃ z, T107.heap = z := ⟨_, rfl⟩
      rw [e107] at Kq107 P107_0 P107_1 P107_2 P107_3 P107_4 P107_5
      have z107 : h39.size ≤ h107.size := Kq107.1
      have C107 := C39.trans (CHr.keep Kq107 (sfS (Safe.exa hZ26.alike P39_0 (by decide) (by decide)) sf0) C39.1)
      have k108 : To p.tables e below S0 (T107.setTop (mkF m 91 l100 [(.ref b22)])) := fun tt hq => k107 tt (by
        refine XS.aload X107.here hx rfl (hb hby at_89) rfl rfl ?_
        exact hq)
      obtain ⟨_, T109, L109, X109, ⟨rfl, Nq109, eq109⟩, k109a⟩ := callV' X107 hx hZ26 (y := (⟨"com/example/ceruline/ceruline/parsing/SourceReader", "offset", "()I"⟩ : MethodName)) (z := (⟨"com/example/ceruline/ceruline/parsing/SourceReader", "offset", "()I"⟩ : MethodName)) hown26 (wq hw 107 rfl) (wq hw 108 rfl) (notFace_of_selects (args := #[]) (mvT hZ26 (wq hw 110 rfl))) (wq hw 110 rfl) (wq hw 109 rfl) (by decide) P107_0 (backC (W := 0) (rm_off l Z a0 hw b22 (0 : Int32) h107 n0 (by omega) P107_3) hZ26 (wq hw 111 rfl) (wq hw 32 rfl) (by decide) (by decide)) e107 (argsL := []) (rest := []) rfl rfl pd_17 rfl (by rw [hml]; rfl) (hb hby at_91) (Nat.le_of_eq rfl) (by decide) (by decide) k108
      have k109 : To p.tables e below S0 (T109.setTop (mkF m 94 l100 [(.int (0 : Int32))])) := k109a
      have N109 := N107.app Nq109
      have e109 : T109.heap = h107 := eq109
      let l110 : Array Slot := #[.val (.int p0), .val (.int p1), .val (.int p2), .val (.int mv_), .val (.ref b3), .val (.ref b15), .val (.ref b22), .val (.int (0 : Int32)), .val (.int (1 : Int32)), .val (.int (0 : Int32)), .unset, .unset, .unset]
      have k111 : To p.tables e below S0 (T109.setTop (mkF m 100 l110 [(.int (1 : Int32)), (.ref b22)])) := fun tt hq => k109 tt (by
        refine XS.istore X109.here hx rfl (hb hby at_94) rfl (l' := l110) rfl ?_
        refine XS.aload X109.here hx rfl (hb hby at_96) rfl rfl ?_
        refine XS.iload X109.here hx rfl (hb hby at_98) rfl ?_
        exact hq)
      have f112 : Old Z n0 h107 := (f102.keep Kq107 (allS (by omega) all0))
      have f113 : Exa Z h107 b15 "java/lang/String" := (f103.keep Kq107)
      have f114 : Fld Z h107 b15 "java/lang/String" "value" "[B" (.ref t19) := (f104.keep Kq107 (nin1 (by omega)))
      have f115 : Fld Z h107 b15 "java/lang/String" "coder" "B" (.int (0 : Int32)) := (f105.keep Kq107 (nin1 (by omega)))
      have f116 : Arv Z h107 t19 kt19 .byte (3 : Int32) [(.int (nar .byte ((p0 &&& (255 : Int32)).toInt8.toInt32))), (.int (nar .byte ((p1 &&& (255 : Int32)).toInt8.toInt32))), (.int (nar .byte ((p2 &&& (255 : Int32)).toInt8.toInt32)))] (.int 0) := (f106.keep Kq107 (nin1 (by omega)))
      obtain ⟨_, T117, L117, X117, ⟨x117, y117x, rfl, Nq117, Kq117, P117_0, P117_1, P117_2, P117_3, P117_4, P117_5⟩, k117a⟩ := callS' X109 hx hZ26 (y := (⟨"com/example/ceruline/ceruline/parsing/SourceReaderTextFromPinLaw", "steps", "(Lcom/example/ceruline/ceruline/parsing/SourceReader;I)V"⟩ : MethodName)) hown26 (wq hw 73 rfl) (wq hw 74 rfl) (wq hw 75 rfl) (wq hw 76 rfl) (by decide) (backC (W := 0) (rm_st0_1 l Z a0 hw zc fm b22 b24 b15 t19 kt19 (nar .byte ((p0 &&& (255 : Int32)).toInt8.toInt32)) (nar .byte ((p1 &&& (255 : Int32)).toInt8.toInt32)) (nar .byte ((p2 &&& (255 : Int32)).toInt8.toInt32)) x107 y107x h107 n0 (by omega) S_c hzc S_f hfm f112 P107_0 P107_1 P107_2 P107_3 P107_4 P107_5 f113 f114 f115 f116 (by omega) (by omega) (by omega)) hZ26 (wq hw 76 rfl) (wq hw 75 rfl) (by decide) (by decide)) e109 (argsL := [(.ref b22), (.int (1 : Int32))]) (rest := []) rfl rfl pd_16 rfl (by rw [hml]; rfl) (hb hby at_100) (Nat.le_of_eq rfl) (by decide) (by decide) k111
      have k117 : To p.tables e below S0 (T117.setTop (mkF m 103 l110 [])) := k117a
      have N117 := N109.app Nq117
      obtain ⟨h117, e117⟩ : ∃ z, T117.heap = z := ⟨_, rfl⟩
      rw [e117] at Kq117 P117_0 P117_1 P117_2 P117_3 P117_4 P117_5
      have z117 : h107.size ≤ h117.size := Kq117.1
      have C117 := C107.trans (CHr.keep Kq117 (sfS (Safe.exa hZ26.alike P107_0 (by decide) (by decide)) sf0) C107.1)
      have k118 : To p.tables e below S0 (T117.setTop (mkF m 105 l110 [(.ref b22)])) := fun tt hq => k117 tt (by
        refine XS.aload X117.here hx rfl (hb hby at_103) rfl rfl ?_
        exact hq)
      obtain ⟨_, T119, L119, X119, ⟨rfl, Nq119, eq119⟩, k119a⟩ := callV' X117 hx hZ26 (y := (⟨"com/example/ceruline/ceruline/parsing/SourceReader", "offset", "()I"⟩ : MethodName)) (z := (⟨"com/example/ceruline/ceruline/parsing/SourceReader", "offset", "()I"⟩ : MethodName)) hown26 (wq hw 107 rfl) (wq hw 108 rfl) (notFace_of_selects (args := #[]) (mvT hZ26 (wq hw 110 rfl))) (wq hw 110 rfl) (wq hw 109 rfl) (by decide) P117_0 (backC (W := 0) (rm_off l Z a0 hw b22 (1 : Int32) h117 n0 (by omega) P117_3) hZ26 (wq hw 111 rfl) (wq hw 32 rfl) (by decide) (by decide)) e117 (argsL := []) (rest := []) rfl rfl pd_17 rfl (by rw [hml]; rfl) (hb hby at_105) (Nat.le_of_eq rfl) (by decide) (by decide) k118
      have k119 : To p.tables e below S0 (T119.setTop (mkF m 108 l110 [(.int (1 : Int32))])) := k119a
      have N119 := N117.app Nq119
      have e119 : T119.heap = h117 := eq119
      let l120 : Array Slot := #[.val (.int p0), .val (.int p1), .val (.int p2), .val (.int mv_), .val (.ref b3), .val (.ref b15), .val (.ref b22), .val (.int (0 : Int32)), .val (.int (1 : Int32)), .val (.int (0 : Int32)), .val (.int (1 : Int32)), .unset, .unset]
      have k121 : To p.tables e below S0 (T119.setTop (mkF m 114 l120 [(.int (0 : Int32)), (.ref b22)])) := fun tt hq => k119 tt (by
        refine XS.istore X119.here hx rfl (hb hby at_108) rfl (l' := l120) rfl ?_
        refine XS.aload X119.here hx rfl (hb hby at_110) rfl rfl ?_
        refine XS.iload X119.here hx rfl (hb hby at_112) rfl ?_
        exact hq)
      have f122 : Old Z n0 h117 := (f112.keep Kq117 (allS (by omega) all0))
      have f123 : Exa Z h117 b15 "java/lang/String" := (f113.keep Kq117)
      have f124 : Fld Z h117 b15 "java/lang/String" "value" "[B" (.ref t19) := (f114.keep Kq117 (nin1 (by omega)))
      have f125 : Fld Z h117 b15 "java/lang/String" "coder" "B" (.int (0 : Int32)) := (f115.keep Kq117 (nin1 (by omega)))
      have f126 : Arv Z h117 t19 kt19 .byte (3 : Int32) [(.int (nar .byte ((p0 &&& (255 : Int32)).toInt8.toInt32))), (.int (nar .byte ((p1 &&& (255 : Int32)).toInt8.toInt32))), (.int (nar .byte ((p2 &&& (255 : Int32)).toInt8.toInt32)))] (.int 0) := (f116.keep Kq117 (nin1 (by omega)))
      obtain ⟨_, T127, L127, X127, ⟨a127, t127, k127x, rfl, Nq127, ya127, yt127, Kq127, P1270, P1271, P1272, P1273⟩, k127a⟩ := callV' X119 hx hZ26 (y := (⟨"com/example/ceruline/ceruline/parsing/SourceReader", "textFrom", "(I)Ljava/lang/String;"⟩ : MethodName)) (z := (⟨"com/example/ceruline/ceruline/parsing/SourceReader", "textFrom", "(I)Ljava/lang/String;"⟩ : MethodName)) hown26 (wq hw 112 rfl) (wq hw 113 rfl) (notFace_of_selects (args := #[]) (mvT hZ26 (wq hw 115 rfl))) (wq hw 115 rfl) (wq hw 114 rfl) (by decide) P117_0 (backC (W := 0) (rm_tf0_1 l Z a0 hw zc fm b22 b15 t19 kt19 (nar .byte ((p0 &&& (255 : Int32)).toInt8.toInt32)) (nar .byte ((p1 &&& (255 : Int32)).toInt8.toInt32)) (nar .byte ((p2 &&& (255 : Int32)).toInt8.toInt32)) h117 n0 (by omega) S_c hzc S_f hfm f122 P117_2 P117_3 f123 f124 f125 f126 (by omega)) hZ26 (wq hw 116 rfl) (wq hw 32 rfl) (by decide) (by decide)) e119 (argsL := [(.int (0 : Int32))]) (rest := []) rfl rfl pd_21 rfl (by rw [hml]; rfl) (hb hby at_114) (Nat.le_of_eq rfl) (by decide) (by decide) k121
      have k127 : To p.tables e below S0 (T127.setTop (mkF m 117 l120 [(.ref a127)])) := k127a
      have N127 := N119.app Nq127
      obtain ⟨h127, e127⟩ : ∃ z, T127.heap = z := ⟨_, rfl⟩
      rw [e127] at Kq127 ya127 yt127 P1270 P1271 P1272 P1273
      have z127 : h117.size ≤ h127.size := Kq127.1
      have C127 := C117.trans (CHr.keep Kq127 sf0 C117.1)
      let l128 : Array Slot := #[.val (.int p0), .val (.int p1), .val (.int p2), .val (.int mv_), .val (.ref b3), .val (.ref b15), .val (.ref b22), .val (.int (0 : Int32)), .val (.int (1 : Int32)), .val (.int (0 : Int32)), .val (.int (1 : Int32)), .val (.ref a127), .unset]
      have k129 : To p.tables e below S0 (T127.setTop (mkF m 123 l128 [(.int (1 : Int32)), (.ref b22)])) := fun tt hq => k127 tt (by
        refine XS.astore X127.here hx rfl (hb hby at_117) rfl rfl (l' := l128) rfl ?_
        refine XS.aload X127.here hx rfl (hb hby at_119) rfl rfl ?_
        refine XS.iload X127.here hx rfl (hb hby at_121) rfl ?_
        exact hq)
      have f130 : Old Z n0 h127 := (f122.keep Kq127 all0)
      have f131 : Fld Z h127 b22 "com/example/ceruline/ceruline/parsing/SourceReader" "text" "Ljava/lang/String;" (.ref b15) := (P117_2.keep Kq127 nin0)
      have f132 : Fld Z h127 b22 "com/example/ceruline/ceruline/parsing/SourceReader" "offset" "I" (.int (1 : Int32)) := (P117_3.keep Kq127 nin0)
      have f133 : Exa Z h127 b15 "java/lang/String" := (f123.keep Kq127)
      have f134 : Fld Z h127 b15 "java/lang/String" "value" "[B" (.ref t19) := (f124.keep Kq127 nin0)
      have f135 : Fld Z h127 b15 "java/lang/String" "coder" "B" (.int (0 : Int32)) := (f125.keep Kq127 nin0)
      have f136 : Arv Z h127 t19 kt19 .byte (3 : Int32) [(.int (nar .byte ((p0 &&& (255 : Int32)).toInt8.toInt32))), (.int (nar .byte ((p1 &&& (255 : Int32)).toInt8.toInt32))), (.int (nar .byte ((p2 &&& (255 : Int32)).toInt8.toInt32)))] (.int 0) := (f126.keep Kq127 nin0)
      have f138 : Exa Z h127 b22 "com/example/ceruline/ceruline/parsing/SourceReader" := (P117_0.keep Kq127)
      obtain ⟨_, T137, L137, X137, ⟨a137, t137, k137x, rfl, Nq137, ya137, yt137, Kq137, P1370, P1371, P1372, P1373⟩, k137a, Cq137, hS137, hZ137, hown137⟩ := callVW X127 hx hZ26 (y := (⟨"com/example/ceruline/ceruline/parsing/SourceReader", "textFrom", "(I)Ljava/lang/String;"⟩ : MethodName)) (z := (⟨"com/example/ceruline/ceruline/parsing/SourceReader", "textFrom", "(I)Ljava/lang/String;"⟩ : MethodName)) hown26 hS26 (by omega) (wq hw 112 rfl) (wq hw 113 rfl) (notFace_of_selects (args := #[]) (mvT hZ26 (wq hw 115 rfl))) (wq hw 115 rfl) (wq hw 114 rfl) (by decide) f138 (backOfW (W := 0) (rm_tf1_1 l Z a0 hw zc fm b22 b15 t19 kt19 (nar .byte ((p0 &&& (255 : Int32)).toInt8.toInt32)) (nar .byte ((p1 &&& (255 : Int32)).toInt8.toInt32)) (nar .byte ((p2 &&& (255 : Int32)).toInt8.toInt32)) h127 n0 (by omega) S_c hzc S_f hfm f130 f131 f132 f133 f134 f135 f136 (by omega)) hZ26 (wq hw 116 rfl) (wq hw 32 rfl) (by decide) (by decide) (own_EW hw) C127.1 all0) e127 (argsL := [(.int (1 : Int32))]) (rest := []) rfl rfl pd_21 rfl (by rw [hml]; rfl) (hb hby at_123) (Nat.le_of_eq rfl) (by decide) (by decide) k129
      have k137 : To p.tables e below S0 (T137.setTop (mkF m 126 l128 [(.ref a137)])) := k137a
      have N137 := N127.app Nq137
      obtain ⟨h137, e137⟩ : ∃ z, T137.heap = z := ⟨_, rfl⟩
      rw [e137] at Kq137 ya137 yt137 P1370 P1371 P1372 P1373 Cq137 hS137
      have z137 : h127.size ≤ h137.size := Kq137.1
      have C137 := C127.trans Cq137
      let l139 : Array Slot := #[.val (.int p0), .val (.int p1), .val (.int p2), .val (.int mv_), .val (.ref b3), .val (.ref b15), .val (.ref b22), .val (.int (0 : Int32)), .val (.int (1 : Int32)), .val (.int (0 : Int32)), .val (.int (1 : Int32)), .val (.ref a127), .val (.ref a137)]
      have k140 : To p.tables e below S0 (T137.setTop (mkF m 149 l139 [(.ref a137)])) := fun tt hq => k137 tt (by
        refine XS.astore X137.here hx rfl (hb hby at_126) rfl rfl (l' := l139) rfl ?_
        refine XS.iload X137.here hx rfl (hb hby at_128) rfl ?_
        refine XS.iload X137.here hx rfl (hb hby at_130) rfl ?_
        refine XS.icmpNo X137.here hx rfl (hb hby at_132) rfl (teq (by decide)).2 ?_
        refine XS.iload X137.here hx rfl (hb hby at_135) rfl ?_
        refine XS.iload X137.here hx rfl (hb hby at_137) rfl ?_
        refine XS.iload X137.here hx rfl (hb hby at_139) rfl ?_
        refine XS.iadd X137.here hx rfl (hb hby at_141) rfl ?_
        refine XS.icmpYes X137.here hx rfl (pc0 := 142) (pc' := 147) rfl (hb hby at_142) rfl (teq (by decide)).1 (by decide) (by decide) ?_
        refine XS.aload X137.here hx rfl (hb hby at_147) rfl rfl ?_
        exact hq)
      obtain ⟨_, T141, L141, X141, ⟨rfl, Nq141, eq141⟩, k141a⟩ := callV' X137 hx hZ137 (y := (⟨"java/lang/String", "isEmpty", "()Z"⟩ : MethodName)) (z := (⟨"java/lang/String", "isEmpty", "()Z"⟩ : MethodName)) hown137 (wq hw 143 rfl) (wq hw 144 rfl) (notFace_of_selects (args := #[]) (mvT hZ137 (wq hw 146 rfl))) (wq hw 146 rfl) (wq hw 145 rfl) (by decide) P1370 (backC (W := 0) (rm_em l Z a0 hw a137 t137 k137x h137 n0 (by omega) P1370 P1371 P1372 P1373) hZ137 (wq hw 147 rfl) (wq hw 3 rfl) (by decide) (by decide)) e137 (argsL := []) (rest := []) rfl rfl pd_6 rfl (by rw [hml]; rfl) (hb hby at_149) (Nat.le_of_eq rfl) (by decide) (by decide) k140
      have k141 : To p.tables e below S0 (T141.setTop (mkF m 152 l139 [(.int (1 : Int32))])) := k141a
      have N141 := N137.app Nq141
      have e141 : T141.heap = h137 := eq141
      have k142 : To p.tables e below S0 (T141.setTop (mkF m 159 l139 [(.ref a127)])) := fun tt hq => k141 tt (by
        refine XS.ifYes X141.here hx rfl (pc0 := 152) (pc' := 157) rfl (hb hby at_152) rfl ((if0 _ _).trans (feq (by decide)).2) (by decide) (by decide) ?_
        refine XS.aload X141.here hx rfl (hb hby at_157) rfl rfl ?_
        exact hq)
      have f143 : Old Z n0 h137 := (f130.keep Kq137 all0)
      have f144 : Exa Z h137 a127 "java/lang/String" := (P1270.keep Kq137)
      have f145 : Fld Z h137 a127 "java/lang/String" "value" "[B" (.ref t127) := (P1271.keep Kq137 nin0)
      have f146 : Fld Z h137 a127 "java/lang/String" "coder" "B" (.int (0 : Int32)) := (P1272.keep Kq137 nin0)
      have f147 : Arv Z h137 t127 k127x .byte (1 : Int32) [(.int (nar .byte ((p0 &&& (255 : Int32)).toInt8.toInt32)))] (.int 0) := (P1273.keep Kq137 nin0)
      obtain ⟨_, T148, L148, X148, ⟨rfl, Nq148, eq148⟩, k148a⟩ := callV' X141 hx hZ137 (y := (⟨"java/lang/String", "length", "()I"⟩ : MethodName)) (z := (⟨"java/lang/String", "length", "()I"⟩ : MethodName)) hown137 (wq hw 148 rfl) (wq hw 123 rfl) (notFace_of_selects (args := #[]) (mvT hZ137 (wq hw 125 rfl))) (wq hw 125 rfl) (wq hw 124 rfl) (by decide) f144 (backC (W := 0) (rm_len1 l Z a0 hw zc a127 t127 k127x (nar .byte ((p0 &&& (255 : Int32)).toInt8.toInt32)) h137 n0 (by omega) S_c hzc f143 f144 f145 f146 f147) hZ137 (wq hw 126 rfl) (wq hw 3 rfl) (by decide) (by decide)) e141 (argsL := []) (rest := []) rfl rfl pd_17 rfl (by rw [hml]; rfl) (hb hby at_159) (Nat.le_of_eq rfl) (by decide) (by decide) k142
      have k148 : To p.tables e below S0 (T148.setTop (mkF m 162 l139 [(.int (1 : Int32))])) := k148a
      have N148 := N141.app Nq148
      have e148 : T148.heap = h137 := eq148
      have k149 : To p.tables e below S0 (T148.setTop (mkF m 178 l139 [(.int (0 : Int32)), (.ref a127)])) := fun tt hq => k148 tt (by
        refine XS.iload X148.here hx rfl (hb hby at_162) rfl ?_
        refine XS.icmpYes X148.here hx rfl (pc0 := 164) (pc' := 169) rfl (hb hby at_164) rfl (teq (by decide)).1 (by decide) (by decide) ?_
        refine XS.iload X148.here hx rfl (hb hby at_169) rfl ?_
        refine XS.iconst X148.here hx rfl (hb hby at_171) ?_
        refine XS.icmpNo X148.here hx rfl (hb hby at_172) rfl (flt (by decide)).1 ?_
        refine XS.aload X148.here hx rfl (hb hby at_175) rfl rfl ?_
        refine XS.iconst X148.here hx rfl (hb hby at_177) ?_
        exact hq)
      obtain ⟨_, T150, L150, X150, ⟨rfl, Nq150, eq150⟩, k150a⟩ := callV' X148 hx hZ137 (y := (⟨"java/lang/String", "charAt", "(I)C"⟩ : MethodName)) (z := (⟨"java/lang/String", "charAt", "(I)C"⟩ : MethodName)) hown137 (wq hw 168 rfl) (wq hw 169 rfl) (notFace_of_selects (args := #[]) (mvT hZ137 (wq hw 171 rfl))) (wq hw 171 rfl) (wq hw 170 rfl) (by decide) f144 (backC (W := 0) (rm_ca1_0 l Z a0 hw zc fm a127 t127 k127x (nar .byte ((p0 &&& (255 : Int32)).toInt8.toInt32)) (p0 &&& (255 : Int32)) h137 n0 (by omega) S_c hzc S_f hfm f143 f144 f145 f146 f147 (own_b255 (own_m255 _))) hZ137 (wq hw 172 rfl) (wq hw 3 rfl) (by decide) (by decide)) e148 (argsL := [(.int (0 : Int32))]) (rest := []) rfl rfl pd_25 rfl (by rw [hml]; rfl) (hb hby at_178) (Nat.le_of_eq rfl) (by decide) (by decide) k149
      have k150 : To p.tables e below S0 (T150.setTop (mkF m 181 l139 [(.int (p0 &&& (255 : Int32)))])) := k150a
      have N150 := N148.app Nq150
      have e150 : T150.heap = h137 := eq150
      have f151 : Arv Z h137 b3 c3 .char (3 : Int32) [(.int (p0 &&& (255 : Int32))), (.int (p1 &&& (255 : Int32))), (.int (p2 &&& (255 : Int32)))] (.int (0 : Int32)) := ((((((((((f18.keep Kq19 (nin1 (by omega))).ext E22).ext E24).ext E26).keep Kq32 (nin1 (by omega))).keep Kq39 (nin1 (by omega))).keep Kq107 (nin1 (by omega))).keep Kq117 (nin1 (by omega))).keep Kq127 nin0).keep Kq137 nin0)
      have k152 : To p.tables e below S0 (T150.setTop (mkF m 185 l139 [(.int (0 : Int32)), (.ref b3), (.int (p0 &&& (255 : Int32)))])) := fun tt hq => k150 tt (by
        refine XS.aload X150.here hx rfl (hb hby at_181) rfl rfl ?_
        refine XS.iload X150.here hx rfl (hb hby at_183) rfl ?_
        exact hq)
      obtain ⟨cl153, Ar153, -, S153, -, G153, -⟩ := id f151
      have hi153 := inb_of (j := (0 : Int32)) S153 ⟨by decide, by decide⟩
      have st153 := fun tt => X150.caload hx (j := (0 : Int32)) (v := (.int (p0 &&& (255 : Int32)))) (by rw [e150]; exact Ar153.1) (State.isArrayOf_alike hZ137.alike Ar153.2.1) Ar153.2.2 hi153 (G153.at hi153 rfl) (g := (mkF m 185 l139 [(.int (0 : Int32)), (.ref b3), (.int (p0 &&& (255 : Int32)))])) rfl rfl (hb hby at_185) tt
      have k153 : To p.tables e below S0 (T150.setTop (mkF m 186 l139 [(.int (p0 &&& (255 : Int32))), (.int (p0 &&& (255 : Int32)))])) := fun tt hq => k152 tt (st153 tt hq)
      have k154 : To p.tables e below S0 (T150.setTop (mkF m 240 l139 [(.int (1 : Int32))])) := fun tt hq => k153 tt (by
        refine XS.icmpYes X150.here hx rfl (pc0 := 186) (pc' := 191) rfl (hb hby at_186) rfl (teq rfl).1 (by decide) (by decide) ?_
        refine XS.iload X150.here hx rfl (hb hby at_191) rfl ?_
        refine XS.iconst X150.here hx rfl (hb hby at_193) ?_
        refine XS.icmpYes X150.here hx rfl (pc0 := 194) (pc' := 215) rfl (hb hby at_194) rfl (tlt (by decide)).1 (by decide) (by decide) ?_
        refine XS.iload X150.here hx rfl (hb hby at_215) rfl ?_
        refine XS.iconst X150.here hx rfl (hb hby at_217) ?_
        refine XS.icmpYes X150.here hx rfl (pc0 := 218) (pc' := 239) rfl (hb hby at_218) rfl (tlt (by decide)).1 (by decide) (by decide) ?_
        refine XS.iconst X150.here hx rfl (hb hby at_239) ?_
        exact hq)
      refine retIntW X150 hx hZ137 (own_EW hw) hS137 (by omega) C137 e150 hret hlk (by simp) rfl (hb hby at_240) k154 ?_ (by decide) (by decide)
      exact ⟨rfl, N150⟩
    · -- pc 80: (2 : Int32)
      have k155 : To p.tables e below S0 (T46.setTop (mkF m 80 l44 [(.int (2 : Int32))])) := by have hq := k46; rw [ht47] at hq; exact hq
      let l156 : Array Slot := #[.val (.int p0), .val (.int p1), .val (.int p2), .val (.int mv_), .val (.ref b3), .val (.ref b15), .val (.ref b22), .val (.int (0 : Int32)), .val (.int (2 : Int32)), .unset, .unset, .unset, .unset]
      have k157 : To p.tables e below S0 (T46.setTop (mkF m 86 l156 [(.int (0 : Int32)), (.ref b22)])) := fun tt hq => k155 tt (by
        refine XS.istore X46.here hx rfl (hb hby at_80) rfl (l' := l156) rfl ?_
        refine XS.aload X46.here hx rfl (hb hby at_82) rfl rfl ?_
        refine XS.iload X46.here hx rfl (hb hby at_84) rfl ?_
        exact hq)
      have f158 : Old Z n0 h39 := ((((((f17.keep Kq19 (allS (by omega) all0)).ext E22).ext E24).ext E26).keep Kq32 (allS (by omega) all0)).keep Kq39 (allS (by omega) all0))
      have f159 : Exa Z h39 b15 "java/lang/String" := (((((P190.ext E22).ext E24).ext E26).keep Kq32).keep Kq39)
      have f160 : Fld Z h39 b15 "java/lang/String" "value" "[B" (.ref t19) := (((((P191.ext E22).ext E24).ext E26).keep Kq32 (nin1 (by omega))).keep Kq39 (nin1 (by omega)))
      have f161 : Fld Z h39 b15 "java/lang/String" "coder" "B" (.int (0 : Int32)) := (((((P192.ext E22).ext E24).ext E26).keep Kq32 (nin1 (by omega))).keep Kq39 (nin1 (by omega)))
      have f162 : Arv Z h39 t19 kt19 .byte (3 : Int32) [(.int (nar .byte ((p0 &&& (255 : Int32)).toInt8.toInt32))), (.int (nar .byte ((p1 &&& (255 : Int32)).toInt8.toInt32))), (.int (nar .byte ((p2 &&& (255 : Int32)).toInt8.toInt32)))] (.int 0) := (((((P193.ext E22).ext E24).ext E26).keep Kq32 (nin1 (by omega))).keep Kq39 (nin1 (by omega)))
      obtain ⟨_, T163, L163, X163, ⟨x163, y163x, rfl, Nq163, Kq163, P163_0, P163_1, P163_2, P163_3, P163_4, P163_5⟩, k163a⟩ := callS' X46 hx hZ26 (y := (⟨"com/example/ceruline/ceruline/parsing/SourceReaderTextFromPinLaw", "steps", "(Lcom/example/ceruline/ceruline/parsing/SourceReader;I)V"⟩ : MethodName)) hown26 (wq hw 73 rfl) (wq hw 74 rfl) (wq hw 75 rfl) (wq hw 76 rfl) (by decide) (backC (W := 0) (rm_st0_0 l Z a0 hw zc fm b22 b24 b15 t19 kt19 (nar .byte ((p0 &&& (255 : Int32)).toInt8.toInt32)) (nar .byte ((p1 &&& (255 : Int32)).toInt8.toInt32)) (nar .byte ((p2 &&& (255 : Int32)).toInt8.toInt32)) (1 : Int32) (1 : Int32) h39 n0 (by omega) S_c hzc S_f hfm f158 P39_0 P39_1 P39_2 P39_3 P39_4 P39_5 f159 f160 f161 f162 (by omega) (by omega) (by omega)) hZ26 (wq hw 76 rfl) (wq hw 75 rfl) (by decide) (by decide)) e46 (argsL := [(.ref b22), (.int (0 : Int32))]) (rest := []) rfl rfl pd_16 rfl (by rw [hml]; rfl) (hb hby at_86) (Nat.le_of_eq rfl) (by decide) (by decide) k157
      have k163 : To p.tables e below S0 (T163.setTop (mkF m 89 l156 [])) := k163a
      have N163 := N46.app Nq163
      obtain ⟨h163, e163⟩ : ∃ z, T163.heap = z := ⟨_, rfl⟩
      rw [e163] at Kq163 P163_0 P163_1 P163_2 P163_3 P163_4 P163_5
      have z163 : h39.size ≤ h163.size := Kq163.1
      have C163 := C39.trans (CHr.keep Kq163 (sfS (Safe.exa hZ26.alike P39_0 (by decide) (by decide)) sf0) C39.1)
      have k164 : To p.tables e below S0 (T163.setTop (mkF m 91 l156 [(.ref b22)])) := fun tt hq => k163 tt (by
        refine XS.aload X163.here hx rfl (hb hby at_89) rfl rfl ?_
        exact hq)
      obtain ⟨_, T165, L165, X165, ⟨rfl, Nq165, eq165⟩, k165a⟩ := callV' X163 hx hZ26 (y := (⟨"com/example/ceruline/ceruline/parsing/SourceReader", "offset", "()I"⟩ : MethodName)) (z := (⟨"com/example/ceruline/ceruline/parsing/SourceReader", "offset", "()I"⟩ : MethodName)) hown26 (wq hw 107 rfl) (wq hw 108 rfl) (notFace_of_selects (args := #[]) (mvT hZ26 (wq hw 110 rfl))) (wq hw 110 rfl) (wq hw 109 rfl) (by decide) P163_0 (backC (W := 0) (rm_off l Z a0 hw b22 (0 : Int32) h163 n0 (by omega) P163_3) hZ26 (wq hw 111 rfl) (wq hw 32 rfl) (by decide) (by decide)) e163 (argsL := []) (rest := []) rfl rfl pd_17 rfl (by rw [hml]; rfl) (hb hby at_91) (Nat.le_of_eq rfl) (by decide) (by decide) k164
      have k165 : To p.tables e below S0 (T165.setTop (mkF m 94 l156 [(.int (0 : Int32))])) := k165a
      have N165 := N163.app Nq165
      have e165 : T165.heap = h163 := eq165
      let l166 : Array Slot := #[.val (.int p0), .val (.int p1), .val (.int p2), .val (.int mv_), .val (.ref b3), .val (.ref b15), .val (.ref b22), .val (.int (0 : Int32)), .val (.int (2 : Int32)), .val (.int (0 : Int32)), .unset, .unset, .unset]
      have k167 : To p.tables e below S0 (T165.setTop (mkF m 100 l166 [(.int (2 : Int32)), (.ref b22)])) := fun tt hq => k165 tt (by
        refine XS.istore X165.here hx rfl (hb hby at_94) rfl (l' := l166) rfl ?_
        refine XS.aload X165.here hx rfl (hb hby at_96) rfl rfl ?_
        refine XS.iload X165.here hx rfl (hb hby at_98) rfl ?_
        exact hq)
      have f168 : Old Z n0 h163 := (f158.keep Kq163 (allS (by omega) all0))
      have f169 : Exa Z h163 b15 "java/lang/String" := (f159.keep Kq163)
      have f170 : Fld Z h163 b15 "java/lang/String" "value" "[B" (.ref t19) := (f160.keep Kq163 (nin1 (by omega)))
      have f171 : Fld Z h163 b15 "java/lang/String" "coder" "B" (.int (0 : Int32)) := (f161.keep Kq163 (nin1 (by omega)))
      have f172 : Arv Z h163 t19 kt19 .byte (3 : Int32) [(.int (nar .byte ((p0 &&& (255 : Int32)).toInt8.toInt32))), (.int (nar .byte ((p1 &&& (255 : Int32)).toInt8.toInt32))), (.int (nar .byte ((p2 &&& (255 : Int32)).toInt8.toInt32)))] (.int 0) := (f162.keep Kq163 (nin1 (by omega)))
      obtain ⟨_, T173, L173, X173, ⟨x173, y173x, rfl, Nq173, Kq173, P173_0, P173_1, P173_2, P173_3, P173_4, P173_5⟩, k173a⟩ := callS' X165 hx hZ26 (y := (⟨"com/example/ceruline/ceruline/parsing/SourceReaderTextFromPinLaw", "steps", "(Lcom/example/ceruline/ceruline/parsing/SourceReader;I)V"⟩ : MethodName)) hown26 (wq hw 73 rfl) (wq hw 74 rfl) (wq hw 75 rfl) (wq hw 76 rfl) (by decide) (backC (W := 0) (rm_st0_2 l Z a0 hw zc fm b22 b24 b15 t19 kt19 (nar .byte ((p0 &&& (255 : Int32)).toInt8.toInt32)) (nar .byte ((p1 &&& (255 : Int32)).toInt8.toInt32)) (nar .byte ((p2 &&& (255 : Int32)).toInt8.toInt32)) x163 y163x h163 n0 (by omega) S_c hzc S_f hfm f168 P163_0 P163_1 P163_2 P163_3 P163_4 P163_5 f169 f170 f171 f172 (by omega) (by omega) (by omega)) hZ26 (wq hw 76 rfl) (wq hw 75 rfl) (by decide) (by decide)) e165 (argsL := [(.ref b22), (.int (2 : Int32))]) (rest := []) rfl rfl pd_16 rfl (by rw [hml]; rfl) (hb hby at_100) (Nat.le_of_eq rfl) (by decide) (by decide) k167
      have k173 : To p.tables e below S0 (T173.setTop (mkF m 103 l166 [])) := k173a
      have N173 := N165.app Nq173
      obtain ⟨h173, e173⟩ : ∃ z, T173.heap = z := ⟨_, rfl⟩
      rw [e173] at Kq173 P173_0 P173_1 P173_2 P173_3 P173_4 P173_5
      have z173 : h163.size ≤ h173.size := Kq173.1
      have C173 := C163.trans (CHr.keep Kq173 (sfS (Safe.exa hZ26.alike P163_0 (by decide) (by decide)) sf0) C163.1)
      have k174 : To p.tables e below S0 (T173.setTop (mkF m 105 l166 [(.ref b22)])) := fun tt hq => k173 tt (by
        refine XS.aload X173.here hx rfl (hb hby at_103) rfl rfl ?_
        exact hq)
      obtain ⟨_, T175, L175, X175, ⟨rfl, Nq175, eq175⟩, k175a⟩ := callV' X173 hx hZ26 (y := (⟨"com/example/ceruline/ceruline/parsing/SourceReader", "offset", "()I"⟩ : MethodName)) (z := (⟨"com/example/ceruline/ceruline/parsing/SourceReader", "offset", "()I"⟩ : MethodName)) hown26 (wq hw 107 rfl) (wq hw 108 rfl) (notFace_of_selects (args := #[]) (mvT hZ26 (wq hw 110 rfl))) (wq hw 110 rfl) (wq hw 109 rfl) (by decide) P173_0 (backC (W := 0) (rm_off l Z a0 hw b22 (2 : Int32) h173 n0 (by omega) P173_3) hZ26 (wq hw 111 rfl) (wq hw 32 rfl) (by decide) (by decide)) e173 (argsL := []) (rest := []) rfl rfl pd_17 rfl (by rw [hml]; rfl) (hb hby at_105) (Nat.le_of_eq rfl) (by decide) (by decide) k174
      have k175 : To p.tables e below S0 (T175.setTop (mkF m 108 l166 [(.int (2 : Int32))])) := k175a
      have N175 := N173.app Nq175
      have e175 : T175.heap = h173 := eq175
      let l176 : Array Slot := #[.val (.int p0), .val (.int p1), .val (.int p2), .val (.int mv_), .val (.ref b3), .val (.ref b15), .val (.ref b22), .val (.int (0 : Int32)), .val (.int (2 : Int32)), .val (.int (0 : Int32)), .val (.int (2 : Int32)), .unset, .unset]
      have k177 : To p.tables e below S0 (T175.setTop (mkF m 114 l176 [(.int (0 : Int32)), (.ref b22)])) := fun tt hq => k175 tt (by
        refine XS.istore X175.here hx rfl (hb hby at_108) rfl (l' := l176) rfl ?_
        refine XS.aload X175.here hx rfl (hb hby at_110) rfl rfl ?_
        refine XS.iload X175.here hx rfl (hb hby at_112) rfl ?_
        exact hq)
      have f178 : Old Z n0 h173 := (f168.keep Kq173 (allS (by omega) all0))
      have f179 : Exa Z h173 b15 "java/lang/String" := (f169.keep Kq173)
      have f180 : Fld Z h173 b15 "java/lang/String" "value" "[B" (.ref t19) := (f170.keep Kq173 (nin1 (by omega)))
      have f181 : Fld Z h173 b15 "java/lang/String" "coder" "B" (.int (0 : Int32)) := (f171.keep Kq173 (nin1 (by omega)))
      have f182 : Arv Z h173 t19 kt19 .byte (3 : Int32) [(.int (nar .byte ((p0 &&& (255 : Int32)).toInt8.toInt32))), (.int (nar .byte ((p1 &&& (255 : Int32)).toInt8.toInt32))), (.int (nar .byte ((p2 &&& (255 : Int32)).toInt8.toInt32)))] (.int 0) := (f172.keep Kq173 (nin1 (by omega)))
      obtain ⟨_, T183, L183, X183, ⟨a183, t183, k183x, rfl, Nq183, ya183, yt183, Kq183, P1830, P1831, P1832, P1833⟩, k183a⟩ := callV' X175 hx hZ26 (y := (⟨"com/example/ceruline/ceruline/parsing/SourceReader", "textFrom", "(I)Ljava/lang/String;"⟩ : MethodName)) (z := (⟨"com/example/ceruline/ceruline/parsing/SourceReader", "textFrom", "(I)Ljava/lang/String;"⟩ : MethodName)) hown26 (wq hw 112 rfl) (wq hw 113 rfl) (notFace_of_selects (args := #[]) (mvT hZ26 (wq hw 115 rfl))) (wq hw 115 rfl) (wq hw 114 rfl) (by decide) P173_0 (backC (W := 0) (rm_tf0_2 l Z a0 hw zc fm b22 b15 t19 kt19 (nar .byte ((p0 &&& (255 : Int32)).toInt8.toInt32)) (nar .byte ((p1 &&& (255 : Int32)).toInt8.toInt32)) (nar .byte ((p2 &&& (255 : Int32)).toInt8.toInt32)) h173 n0 (by omega) S_c hzc S_f hfm f178 P173_2 P173_3 f179 f180 f181 f182 (by omega)) hZ26 (wq hw 116 rfl) (wq hw 32 rfl) (by decide) (by decide)) e175 (argsL := [(.int (0 : Int32))]) (rest := []) rfl rfl pd_21 rfl (by rw [hml]; rfl) (hb hby at_114) (Nat.le_of_eq rfl) (by decide) (by decide) k177
      have k183 : To p.tables e below S0 (T183.setTop (mkF m 117 l176 [(.ref a183)])) := k183a
      have N183 := N175.app Nq183
      obtain ⟨h183, e183⟩ : ∃ z, T183.heap = z := ⟨_, rfl⟩
      rw [e183] at Kq183 ya183 yt183 P1830 P1831 P1832 P1833
      have z183 : h173.size ≤ h183.size := Kq183.1
      have C183 := C173.trans (CHr.keep Kq183 sf0 C173.1)
      let l184 : Array Slot := #[.val (.int p0), .val (.int p1), .val (.int p2), .val (.int mv_), .val (.ref b3), .val (.ref b15), .val (.ref b22), .val (.int (0 : Int32)), .val (.int (2 : Int32)), .val (.int (0 : Int32)), .val (.int (2 : Int32)), .val (.ref a183), .unset]
      have k185 : To p.tables e below S0 (T183.setTop (mkF m 123 l184 [(.int (2 : Int32)), (.ref b22)])) := fun tt hq => k183 tt (by
        refine XS.astore X183.here hx rfl (hb hby at_117) rfl rfl (l' := l184) rfl ?_
        refine XS.aload X183.here hx rfl (hb hby at_119) rfl rfl ?_
        refine XS.iload X183.here hx rfl (hb hby at_121) rfl ?_
        exact hq)
      have f186 : Old Z n0 h183 := (f178.keep Kq183 all0)
      have f187 : Fld Z h183 b22 "com/example/ceruline/ceruline/parsing/SourceReader" "text" "Ljava/lang/String;" (.ref b15) := (P173_2.keep Kq183 nin0)
      have f188 : Fld Z h183 b22 "com/example/ceruline/ceruline/parsing/SourceReader" "offset" "I" (.int (2 : Int32)) := (P173_3.keep Kq183 nin0)
      have f189 : Exa Z h183 b15 "java/lang/String" := (f179.keep Kq183)
      have f190 : Fld Z h183 b15 "java/lang/String" "value" "[B" (.ref t19) := (f180.keep Kq183 nin0)
      have f191 : Fld Z h183 b15 "java/lang/String" "coder" "B" (.int (0 : Int32)) := (f181.keep Kq183 nin0)
      have f192 : Arv Z h183 t19 kt19 .byte (3 : Int32) [(.int (nar .byte ((p0 &&& (255 : Int32)).toInt8.toInt32))), (.int (nar .byte ((p1 &&& (255 : Int32)).toInt8.toInt32))), (.int (nar .byte ((p2 &&& (255 : Int32)).toInt8.toInt32)))] (.int 0) := (f182.keep Kq183 nin0)
      have f194 : Exa Z h183 b22 "com/example/ceruline/ceruline/parsing/SourceReader" := (P173_0.keep Kq183)
      obtain ⟨_, T193, L193, X193, ⟨a193, t193, k193x, rfl, Nq193, ya193, yt193, Kq193, P1930, P1931, P1932, P1933⟩, k193a, Cq193, hS193, hZ193, hown193⟩ := callVW X183 hx hZ26 (y := (⟨"com/example/ceruline/ceruline/parsing/SourceReader", "textFrom", "(I)Ljava/lang/String;"⟩ : MethodName)) (z := (⟨"com/example/ceruline/ceruline/parsing/SourceReader", "textFrom", "(I)Ljava/lang/String;"⟩ : MethodName)) hown26 hS26 (by omega) (wq hw 112 rfl) (wq hw 113 rfl) (notFace_of_selects (args := #[]) (mvT hZ26 (wq hw 115 rfl))) (wq hw 115 rfl) (wq hw 114 rfl) (by decide) f194 (backOfW (W := 0) (rm_tf2_2 l Z a0 hw zc fm b22 b15 t19 kt19 (nar .byte ((p0 &&& (255 : Int32)).toInt8.toInt32)) (nar .byte ((p1 &&& (255 : Int32)).toInt8.toInt32)) (nar .byte ((p2 &&& (255 : Int32)).toInt8.toInt32)) h183 n0 (by omega) S_c hzc S_f hfm f186 f187 f188 f189 f190 f191 f192 (by omega)) hZ26 (wq hw 116 rfl) (wq hw 32 rfl) (by decide) (by decide) (own_EW hw) C183.1 all0) e183 (argsL := [(.int (2 : Int32))]) (rest := []) rfl rfl pd_21 rfl (by rw [hml]; rfl) (hb hby at_123) (Nat.le_of_eq rfl) (by decide) (by decide) k185
      have k193 : To p.tables e below S0 (T193.setTop (mkF m 126 l184 [(.ref a193)])) := k193a
      have N193 := N183.app Nq193
      obtain ⟨h193, e193⟩ : ∃ z, T193.heap = z := ⟨_, rfl⟩
      rw [e193] at Kq193 ya193 yt193 P1930 P1931 P1932 P1933 Cq193 hS193
      have z193 : h183.size ≤ h193.size := Kq193.1
      have C193 := C183.trans Cq193
      let l195 : Array Slot := #[.val (.int p0), .val (.int p1), .val (.int p2), .val (.int mv_), .val (.ref b3), .val (.ref b15), .val (.ref b22), .val (.int (0 : Int32)), .val (.int (2 : Int32)), .val (.int (0 : Int32)), .val (.int (2 : Int32)), .val (.ref a183), .val (.ref a193)]
      have k196 : To p.tables e below S0 (T193.setTop (mkF m 149 l195 [(.ref a193)])) := fun tt hq => k193 tt (by
        refine XS.astore X193.here hx rfl (hb hby at_126) rfl rfl (l' := l195) rfl ?_
        refine XS.iload X193.here hx rfl (hb hby at_128) rfl ?_
        refine XS.iload X193.here hx rfl (hb hby at_130) rfl ?_
        refine XS.icmpNo X193.here hx rfl (hb hby at_132) rfl (teq (by decide)).2 ?_
        refine XS.iload X193.here hx rfl (hb hby at_135) rfl ?_
        refine XS.iload X193.here hx rfl (hb hby at_137) rfl ?_
        refine XS.iload X193.here hx rfl (hb hby at_139) rfl ?_
        refine XS.iadd X193.here hx rfl (hb hby at_141) rfl ?_
        refine XS.icmpYes X193.here hx rfl (pc0 := 142) (pc' := 147) rfl (hb hby at_142) rfl (teq (by decide)).1 (by decide) (by decide) ?_
        refine XS.aload X193.here hx rfl (hb hby at_147) rfl rfl ?_
        exact hq)
      obtain ⟨_, T197, L197, X197, ⟨rfl, Nq197, eq197⟩, k197a⟩ := callV' X193 hx hZ193 (y := (⟨"java/lang/String", "isEmpty", "()Z"⟩ : MethodName)) (z := (⟨"java/lang/String", "isEmpty", "()Z"⟩ : MethodName)) hown193 (wq hw 143 rfl) (wq hw 144 rfl) (notFace_of_selects (args := #[]) (mvT hZ193 (wq hw 146 rfl))) (wq hw 146 rfl) (wq hw 145 rfl) (by decide) P1930 (backC (W := 0) (rm_em l Z a0 hw a193 t193 k193x h193 n0 (by omega) P1930 P1931 P1932 P1933) hZ193 (wq hw 147 rfl) (wq hw 3 rfl) (by decide) (by decide)) e193 (argsL := []) (rest := []) rfl rfl pd_6 rfl (by rw [hml]; rfl) (hb hby at_149) (Nat.le_of_eq rfl) (by decide) (by decide) k196
      have k197 : To p.tables e below S0 (T197.setTop (mkF m 152 l195 [(.int (1 : Int32))])) := k197a
      have N197 := N193.app Nq197
      have e197 : T197.heap = h193 := eq197
      have k198 : To p.tables e below S0 (T197.setTop (mkF m 159 l195 [(.ref a183)])) := fun tt hq => k197 tt (by
        refine XS.ifYes X197.here hx rfl (pc0 := 152) (pc' := 157) rfl (hb hby at_152) rfl ((if0 _ _).trans (feq (by decide)).2) (by decide) (by decide) ?_
        refine XS.aload X197.here hx rfl (hb hby at_157) rfl rfl ?_
        exact hq)
      have f199 : Old Z n0 h193 := (f186.keep Kq193 all0)
      have f200 : Exa Z h193 a183 "java/lang/String" := (P1830.keep Kq193)
      have f201 : Fld Z h193 a183 "java/lang/String" "value" "[B" (.ref t183) := (P1831.keep Kq193 nin0)
      have f202 : Fld Z h193 a183 "java/lang/String" "coder" "B" (.int (0 : Int32)) := (P1832.keep Kq193 nin0)
      have f203 : Arv Z h193 t183 k183x .byte (2 : Int32) [(.int (nar .byte ((p0 &&& (255 : Int32)).toInt8.toInt32))), (.int (nar .byte ((p1 &&& (255 : Int32)).toInt8.toInt32)))] (.int 0) := (P1833.keep Kq193 nin0)
      obtain ⟨_, T204, L204, X204, ⟨rfl, Nq204, eq204⟩, k204a⟩ := callV' X197 hx hZ193 (y := (⟨"java/lang/String", "length", "()I"⟩ : MethodName)) (z := (⟨"java/lang/String", "length", "()I"⟩ : MethodName)) hown193 (wq hw 148 rfl) (wq hw 123 rfl) (notFace_of_selects (args := #[]) (mvT hZ193 (wq hw 125 rfl))) (wq hw 125 rfl) (wq hw 124 rfl) (by decide) f200 (backC (W := 0) (rm_len2 l Z a0 hw zc a183 t183 k183x (nar .byte ((p0 &&& (255 : Int32)).toInt8.toInt32)) (nar .byte ((p1 &&& (255 : Int32)).toInt8.toInt32)) h193 n0 (by omega) S_c hzc f199 f200 f201 f202 f203) hZ193 (wq hw 126 rfl) (wq hw 3 rfl) (by decide) (by decide)) e197 (argsL := []) (rest := []) rfl rfl pd_17 rfl (by rw [hml]; rfl) (hb hby at_159) (Nat.le_of_eq rfl) (by decide) (by decide) k198
      have k204 : To p.tables e below S0 (T204.setTop (mkF m 162 l195 [(.int (2 : Int32))])) := k204a
      have N204 := N197.app Nq204
      have e204 : T204.heap = h193 := eq204
      have k205 : To p.tables e below S0 (T204.setTop (mkF m 178 l195 [(.int (0 : Int32)), (.ref a183)])) := fun tt hq => k204 tt (by
        refine XS.iload X204.here hx rfl (hb hby at_162) rfl ?_
        refine XS.icmpYes X204.here hx rfl (pc0 := 164) (pc' := 169) rfl (hb hby at_164) rfl (teq (by decide)).1 (by decide) (by decide) ?_
        refine XS.iload X204.here hx rfl (hb hby at_169) rfl ?_
        refine XS.iconst X204.here hx rfl (hb hby at_171) ?_
        refine XS.icmpNo X204.here hx rfl (hb hby at_172) rfl (flt (by decide)).1 ?_
        refine XS.aload X204.here hx rfl (hb hby at_175) rfl rfl ?_
        refine XS.iconst X204.here hx rfl (hb hby at_177) ?_
        exact hq)
      obtain ⟨_, T206, L206, X206, ⟨rfl, Nq206, eq206⟩, k206a⟩ := callV' X204 hx hZ193 (y := (⟨"java/lang/String", "charAt", "(I)C"⟩ : MethodName)) (z := (⟨"java/lang/String", "charAt", "(I)C"⟩ : MethodName)) hown193 (wq hw 168 rfl) (wq hw 169 rfl) (notFace_of_selects (args := #[]) (mvT hZ193 (wq hw 171 rfl))) (wq hw 171 rfl) (wq hw 170 rfl) (by decide) f200 (backC (W := 0) (rm_ca2_0 l Z a0 hw zc fm a183 t183 k183x (nar .byte ((p0 &&& (255 : Int32)).toInt8.toInt32)) (nar .byte ((p1 &&& (255 : Int32)).toInt8.toInt32)) (p0 &&& (255 : Int32)) h193 n0 (by omega) S_c hzc S_f hfm f199 f200 f201 f202 f203 (own_b255 (own_m255 _))) hZ193 (wq hw 172 rfl) (wq hw 3 rfl) (by decide) (by decide)) e204 (argsL := [(.int (0 : Int32))]) (rest := []) rfl rfl pd_25 rfl (by rw [hml]; rfl) (hb hby at_178) (Nat.le_of_eq rfl) (by decide) (by decide) k205
      have k206 : To p.tables e below S0 (T206.setTop (mkF m 181 l195 [(.int (p0 &&& (255 : Int32)))])) := k206a
      have N206 := N204.app Nq206
      have e206 : T206.heap = h193 := eq206
      have f207 : Arv Z h193 b3 c3 .char (3 : Int32) [(.int (p0 &&& (255 : Int32))), (.int (p1 &&& (255 : Int32))), (.int (p2 &&& (255 : Int32)))] (.int (0 : Int32)) := ((((((((((f18.keep Kq19 (nin1 (by omega))).ext E22).ext E24).ext E26).keep Kq32 (nin1 (by omega))).keep Kq39 (nin1 (by omega))).keep Kq163 (nin1 (by omega))).keep Kq173 (nin1 (by omega))).keep Kq183 nin0).keep Kq193 nin0)
      have k208 : To p.tables e below S0 (T206.setTop (mkF m 185 l195 [(.int (0 : Int32)), (.ref b3), (.int (p0 &&& (255 : Int32)))])) := fun tt hq => k206 tt (by
        refine XS.aload X206.here hx rfl (hb hby at_181) rfl rfl ?_
        refine XS.iload X206.here hx rfl (hb hby at_183) rfl ?_
        exact hq)
      obtain ⟨cl209, Ar209, -, S209, -, G209, -⟩ := id f207
      have hi209 := inb_of (j := (0 : Int32)) S209 ⟨by decide, by decide⟩
      have st209 := fun tt => X206.caload hx (j := (0 : Int32)) (v := (.int (p0 &&& (255 : Int32)))) (by rw [e206]; exact Ar209.1) (State.isArrayOf_alike hZ193.alike Ar209.2.1) Ar209.2.2 hi209 (G209.at hi209 rfl) (g := (mkF m 185 l195 [(.int (0 : Int32)), (.ref b3), (.int (p0 &&& (255 : Int32)))])) rfl rfl (hb hby at_185) tt
      have k209 : To p.tables e below S0 (T206.setTop (mkF m 186 l195 [(.int (p0 &&& (255 : Int32))), (.int (p0 &&& (255 : Int32)))])) := fun tt hq => k208 tt (st209 tt hq)
      have k210 : To p.tables e below S0 (T206.setTop (mkF m 200 l195 [(.int (1 : Int32)), (.ref a183)])) := fun tt hq => k209 tt (by
        refine XS.icmpYes X206.here hx rfl (pc0 := 186) (pc' := 191) rfl (hb hby at_186) rfl (teq rfl).1 (by decide) (by decide) ?_
        refine XS.iload X206.here hx rfl (hb hby at_191) rfl ?_
        refine XS.iconst X206.here hx rfl (hb hby at_193) ?_
        refine XS.icmpNo X206.here hx rfl (hb hby at_194) rfl (flt (by decide)).1 ?_
        refine XS.aload X206.here hx rfl (hb hby at_197) rfl rfl ?_
        refine XS.iconst X206.here hx rfl (hb hby at_199) ?_
        exact hq)
      obtain ⟨_, T211, L211, X211, ⟨rfl, Nq211, eq211⟩, k211a⟩ := callV' X206 hx hZ193 (y := (⟨"java/lang/String", "charAt", "(I)C"⟩ : MethodName)) (z := (⟨"java/lang/String", "charAt", "(I)C"⟩ : MethodName)) hown193 (wq hw 168 rfl) (wq hw 169 rfl) (notFace_of_selects (args := #[]) (mvT hZ193 (wq hw 171 rfl))) (wq hw 171 rfl) (wq hw 170 rfl) (by decide) f200 (backC (W := 0) (rm_ca2_1 l Z a0 hw zc fm a183 t183 k183x (nar .byte ((p0 &&& (255 : Int32)).toInt8.toInt32)) (nar .byte ((p1 &&& (255 : Int32)).toInt8.toInt32)) (p1 &&& (255 : Int32)) h193 n0 (by omega) S_c hzc S_f hfm f199 f200 f201 f202 f203 (own_b255 (own_m255 _))) hZ193 (wq hw 172 rfl) (wq hw 3 rfl) (by decide) (by decide)) e206 (argsL := [(.int (1 : Int32))]) (rest := []) rfl rfl pd_25 rfl (by rw [hml]; rfl) (hb hby at_200) (Nat.le_of_eq rfl) (by decide) (by decide) k210
      have k211 : To p.tables e below S0 (T211.setTop (mkF m 203 l195 [(.int (p1 &&& (255 : Int32)))])) := k211a
      have N211 := N206.app Nq211
      have e211 : T211.heap = h193 := eq211
      have k212 : To p.tables e below S0 (T211.setTop (mkF m 209 l195 [(.int (1 : Int32)), (.ref b3), (.int (p1 &&& (255 : Int32)))])) := fun tt hq => k211 tt (by
        refine XS.aload X211.here hx rfl (hb hby at_203) rfl rfl ?_
        refine XS.iload X211.here hx rfl (hb hby at_205) rfl ?_
        refine XS.iconst X211.here hx rfl (hb hby at_207) ?_
        refine XS.iadd X211.here hx rfl (hb hby at_208) rfl ?_
        exact hq)
      obtain ⟨cl213, Ar213, -, S213, -, G213, -⟩ := id f207
      have hi213 := inb_of (j := (1 : Int32)) S213 ⟨by decide, by decide⟩
      have st213 := fun tt => X211.caload hx (j := (1 : Int32)) (v := (.int (p1 &&& (255 : Int32)))) (by rw [e211]; exact Ar213.1) (State.isArrayOf_alike hZ193.alike Ar213.2.1) Ar213.2.2 hi213 (G213.at hi213 rfl) (g := (mkF m 209 l195 [(.int (1 : Int32)), (.ref b3), (.int (p1 &&& (255 : Int32)))])) rfl rfl (hb hby at_209) tt
      have k213 : To p.tables e below S0 (T211.setTop (mkF m 210 l195 [(.int (p1 &&& (255 : Int32))), (.int (p1 &&& (255 : Int32)))])) := fun tt hq => k212 tt (st213 tt hq)
      have k214 : To p.tables e below S0 (T211.setTop (mkF m 240 l195 [(.int (1 : Int32))])) := fun tt hq => k213 tt (by
        refine XS.icmpYes X211.here hx rfl (pc0 := 210) (pc' := 215) rfl (hb hby at_210) rfl (teq rfl).1 (by decide) (by decide) ?_
        refine XS.iload X211.here hx rfl (hb hby at_215) rfl ?_
        refine XS.iconst X211.here hx rfl (hb hby at_217) ?_
        refine XS.icmpYes X211.here hx rfl (pc0 := 218) (pc' := 239) rfl (hb hby at_218) rfl (tlt (by decide)).1 (by decide) (by decide) ?_
        refine XS.iconst X211.here hx rfl (hb hby at_239) ?_
        exact hq)
      refine retIntW X211 hx hZ193 (own_EW hw) hS193 (by omega) C193 e211 hret hlk (by simp) rfl (hb hby at_240) k214 ?_ (by decide) (by decide)
      exact ⟨rfl, N211⟩
    · -- pc 80: (3 : Int32)
      have k215 : To p.tables e below S0 (T46.setTop (mkF m 80 l44 [(.int (3 : Int32))])) := by have hq := k46; rw [ht47] at hq; exact hq
      let l216 : Array Slot := #[.val (.int p0), .val (.int p1), .val (.int p2), .val (.int mv_), .val (.ref b3), .val (.ref b15), .val (.ref b22), .val (.int (0 : Int32)), .val (.int (3 : Int32)), .unset, .unset, .unset, .unset]
      have k217 : To p.tables e below S0 (T46.setTop (mkF m 86 l216 [(.int (0 : Int32)), (.ref b22)])) := fun tt hq => k215 tt (by
        refine XS.istore X46.here hx rfl (hb hby at_80) rfl (l' := l216) rfl ?_
        refine XS.aload X46.here hx rfl (hb hby at_82) rfl rfl ?_
        refine XS.iload X46.here hx rfl (hb hby at_84) rfl ?_
        exact hq)
      have f218 : Old Z n0 h39 := ((((((f17.keep Kq19 (allS (by omega) all0)).ext E22).ext E24).ext E26).keep Kq32 (allS (by omega) all0)).keep Kq39 (allS (by omega) all0))
      have f219 : Exa Z h39 b15 "java/lang/String" := (((((P190.ext E22).ext E24).ext E26).keep Kq32).keep Kq39)
      have f220 : Fld Z h39 b15 "java/lang/String" "value" "[B" (.ref t19) := (((((P191.ext E22).ext E24).ext E26).keep Kq32 (nin1 (by omega))).keep Kq39 (nin1 (by omega)))
      have f221 : Fld Z h39 b15 "java/lang/String" "coder" "B" (.int (0 : Int32)) := (((((P192.ext E22).ext E24).ext E26).keep Kq32 (nin1 (by omega))).keep Kq39 (nin1 (by omega)))
      have f222 : Arv Z h39 t19 kt19 .byte (3 : Int32) [(.int (nar .byte ((p0 &&& (255 : Int32)).toInt8.toInt32))), (.int (nar .byte ((p1 &&& (255 : Int32)).toInt8.toInt32))), (.int (nar .byte ((p2 &&& (255 : Int32)).toInt8.toInt32)))] (.int 0) := (((((P193.ext E22).ext E24).ext E26).keep Kq32 (nin1 (by omega))).keep Kq39 (nin1 (by omega)))
      obtain ⟨_, T223, L223, X223, ⟨x223, y223x, rfl, Nq223, Kq223, P223_0, P223_1, P223_2, P223_3, P223_4, P223_5⟩, k223a⟩ := callS' X46 hx hZ26 (y := (⟨"com/example/ceruline/ceruline/parsing/SourceReaderTextFromPinLaw", "steps", "(Lcom/example/ceruline/ceruline/parsing/SourceReader;I)V"⟩ : MethodName)) hown26 (wq hw 73 rfl) (wq hw 74 rfl) (wq hw 75 rfl) (wq hw 76 rfl) (by decide) (backC (W := 0) (rm_st0_0 l Z a0 hw zc fm b22 b24 b15 t19 kt19 (nar .byte ((p0 &&& (255 : Int32)).toInt8.toInt32)) (nar .byte ((p1 &&& (255 : Int32)).toInt8.toInt32)) (nar .byte ((p2 &&& (255 : Int32)).toInt8.toInt32)) (1 : Int32) (1 : Int32) h39 n0 (by omega) S_c hzc S_f hfm f218 P39_0 P39_1 P39_2 P39_3 P39_4 P39_5 f219 f220 f221 f222 (by omega) (by omega) (by omega)) hZ26 (wq hw 76 rfl) (wq hw 75 rfl) (by decide) (by decide)) e46 (argsL := [(.ref b22), (.int (0 : Int32))]) (rest := []) rfl rfl pd_16 rfl (by rw [hml]; rfl) (hb hby at_86) (Nat.le_of_eq rfl) (by decide) (by decide) k217
      have k223 : To p.tables e below S0 (T223.setTop (mkF m 89 l216 [])) := k223a
      have N223 := N46.app Nq223
      obtain ⟨h223, e223⟩ : ∃ z, T223.heap = z := ⟨_, rfl⟩
      rw [e223] at Kq223 P223_0 P223_1 P223_2 P223_3 P223_4 P223_5
      have z223 : h39.size ≤ h223.size := Kq223.1
      have C223 := C39.trans (CHr.keep Kq223 (sfS (Safe.exa hZ26.alike P39_0 (by decide) (by decide)) sf0) C39.1)
      have k224 : To p.tables e below S0 (T223.setTop (mkF m 91 l216 [(.ref b22)])) := fun tt hq => k223 tt (by
        refine XS.aload X223.here hx rfl (hb hby at_89) rfl rfl ?_
        exact hq)
      obtain ⟨_, T225, L225, X225, ⟨rfl, Nq225, eq225⟩, k225a⟩ := callV' X223 hx hZ26 (y := (⟨"com/example/ceruline/ceruline/parsing/SourceReader", "offset", "()I"⟩ : MethodName)) (z := (⟨"com/example/ceruline/ceruline/parsing/SourceReader", "offset", "()I"⟩ : MethodName)) hown26 (wq hw 107 rfl) (wq hw 108 rfl) (notFace_of_selects (args := #[]) (mvT hZ26 (wq hw 110 rfl))) (wq hw 110 rfl) (wq hw 109 rfl) (by decide) P223_0 (backC (W := 0) (rm_off l Z a0 hw b22 (0 : Int32) h223 n0 (by omega) P223_3) hZ26 (wq hw 111 rfl) (wq hw 32 rfl) (by decide) (by decide)) e223 (argsL := []) (rest := []) rfl rfl pd_17 rfl (by rw [hml]; rfl) (hb hby at_91) (Nat.le_of_eq rfl) (by decide) (by decide) k224
      have k225 : To p.tables e below S0 (T225.setTop (mkF m 94 l216 [(.int (0 : Int32))])) := k225a
      have N225 := N223.app Nq225
      have e225 : T225.heap = h223 := eq225
      let l226 : Array Slot := #[.val (.int p0), .val (.int p1), .val (.int p2), .val (.int mv_), .val (.ref b3), .val (.ref b15), .val (.ref b22), .val (.int (0 : Int32)), .val (.int (3 : Int32)), .val (.int (0 : Int32)), .unset, .unset, .unset]
      have k227 : To p.tables e below S0 (T225.setTop (mkF m 100 l226 [(.int (3 : Int32)), (.ref b22)])) := fun tt hq => k225 tt (by
        refine XS.istore X225.here hx rfl (hb hby at_94) rfl (l' := l226) rfl ?_
        refine XS.aload X225.here hx rfl (hb hby at_96) rfl rfl ?_
        refine XS.iload X225.here hx rfl (hb hby at_98) rfl ?_
        exact hq)
      have f228 : Old Z n0 h223 := (f218.keep Kq223 (allS (by omega) all0))
      have f229 : Exa Z h223 b15 "java/lang/String" := (f219.keep Kq223)
      have f230 : Fld Z h223 b15 "java/lang/String" "value" "[B" (.ref t19) := (f220.keep Kq223 (nin1 (by omega)))
      have f231 : Fld Z h223 b15 "java/lang/String" "coder" "B" (.int (0 : Int32)) := (f221.keep Kq223 (nin1 (by omega)))
      have f232 : Arv Z h223 t19 kt19 .byte (3 : Int32) [(.int (nar .byte ((p0 &&& (255 : Int32)).toInt8.toInt32))), (.int (nar .byte ((p1 &&& (255 : Int32)).toInt8.toInt32))), (.int (nar .byte ((p2 &&& (255 : Int32)).toInt8.toInt32)))] (.int 0) := (f222.keep Kq223 (nin1 (by omega)))
      obtain ⟨_, T233, L233, X233, ⟨x233, y233x, rfl, Nq233, Kq233, P233_0, P233_1, P233_2, P233_3, P233_4, P233_5⟩, k233a⟩ := callS' X225 hx hZ26 (y := (⟨"com/example/ceruline/ceruline/parsing/SourceReaderTextFromPinLaw", "steps", "(Lcom/example/ceruline/ceruline/parsing/SourceReader;I)V"⟩ : MethodName)) hown26 (wq hw 73 rfl) (wq hw 74 rfl) (wq hw 75 rfl) (wq hw 76 rfl) (by decide) (backC (W := 0) (rm_st0_3 l Z a0 hw zc fm b22 b24 b15 t19 kt19 (nar .byte ((p0 &&& (255 : Int32)).toInt8.toInt32)) (nar .byte ((p1 &&& (255 : Int32)).toInt8.toInt32)) (nar .byte ((p2 &&& (255 : Int32)).toInt8.toInt32)) x223 y223x h223 n0 (by omega) S_c hzc S_f hfm f228 P223_0 P223_1 P223_2 P223_3 P223_4 P223_5 f229 f230 f231 f232 (by omega) (by omega) (by omega)) hZ26 (wq hw 76 rfl) (wq hw 75 rfl) (by decide) (by decide)) e225 (argsL := [(.ref b22), (.int (3 : Int32))]) (rest := []) rfl rfl pd_16 rfl (by rw [hml]; rfl) (hb hby at_100) (Nat.le_of_eq rfl) (by decide) (by decide) k227
      have k233 : To p.tables e below S0 (T233.setTop (mkF m 103 l226 [])) := k233a
      have N233 := N225.app Nq233
      obtain ⟨h233, e233⟩ : ∃ z, T233.heap = z := ⟨_, rfl⟩
      rw [e233] at Kq233 P233_0 P233_1 P233_2 P233_3 P233_4 P233_5
      have z233 : h223.size ≤ h233.size := Kq233.1
      have C233 := C223.trans (CHr.keep Kq233 (sfS (Safe.exa hZ26.alike P223_0 (by decide) (by decide)) sf0) C223.1)
      have k234 : To p.tables e below S0 (T233.setTop (mkF m 105 l226 [(.ref b22)])) := fun tt hq => k233 tt (by
        refine XS.aload X233.here hx rfl (hb hby at_103) rfl rfl ?_
        exact hq)
      obtain ⟨_, T235, L235, X235, ⟨rfl, Nq235, eq235⟩, k235a⟩ := callV' X233 hx hZ26 (y := (⟨"com/example/ceruline/ceruline/parsing/SourceReader", "offset", "()I"⟩ : MethodName)) (z := (⟨"com/example/ceruline/ceruline/parsing/SourceReader", "offset", "()I"⟩ : MethodName)) hown26 (wq hw 107 rfl) (wq hw 108 rfl) (notFace_of_selects (args := #[]) (mvT hZ26 (wq hw 110 rfl))) (wq hw 110 rfl) (wq hw 109 rfl) (by decide) P233_0 (backC (W := 0) (rm_off l Z a0 hw b22 (3 : Int32) h233 n0 (by omega) P233_3) hZ26 (wq hw 111 rfl) (wq hw 32 rfl) (by decide) (by decide)) e233 (argsL := []) (rest := []) rfl rfl pd_17 rfl (by rw [hml]; rfl) (hb hby at_105) (Nat.le_of_eq rfl) (by decide) (by decide) k234
      have k235 : To p.tables e below S0 (T235.setTop (mkF m 108 l226 [(.int (3 : Int32))])) := k235a
      have N235 := N233.app Nq235
      have e235 : T235.heap = h233 := eq235
      let l236 : Array Slot := #[.val (.int p0), .val (.int p1), .val (.int p2), .val (.int mv_), .val (.ref b3), .val (.ref b15), .val (.ref b22), .val (.int (0 : Int32)), .val (.int (3 : Int32)), .val (.int (0 : Int32)), .val (.int (3 : Int32)), .unset, .unset]
      have k237 : To p.tables e below S0 (T235.setTop (mkF m 114 l236 [(.int (0 : Int32)), (.ref b22)])) := fun tt hq => k235 tt (by
        refine XS.istore X235.here hx rfl (hb hby at_108) rfl (l' := l236) rfl ?_
        refine XS.aload X235.here hx rfl (hb hby at_110) rfl rfl ?_
        refine XS.iload X235.here hx rfl (hb hby at_112) rfl ?_
        exact hq)
      have f238 : Old Z n0 h233 := (f228.keep Kq233 (allS (by omega) all0))
      have f239 : Exa Z h233 b15 "java/lang/String" := (f229.keep Kq233)
      have f240 : Fld Z h233 b15 "java/lang/String" "value" "[B" (.ref t19) := (f230.keep Kq233 (nin1 (by omega)))
      have f241 : Fld Z h233 b15 "java/lang/String" "coder" "B" (.int (0 : Int32)) := (f231.keep Kq233 (nin1 (by omega)))
      have f242 : Arv Z h233 t19 kt19 .byte (3 : Int32) [(.int (nar .byte ((p0 &&& (255 : Int32)).toInt8.toInt32))), (.int (nar .byte ((p1 &&& (255 : Int32)).toInt8.toInt32))), (.int (nar .byte ((p2 &&& (255 : Int32)).toInt8.toInt32)))] (.int 0) := (f232.keep Kq233 (nin1 (by omega)))
      obtain ⟨_, T243, L243, X243, ⟨rfl, Nq243, eq243⟩, k243a⟩ := callV' X235 hx hZ26 (y := (⟨"com/example/ceruline/ceruline/parsing/SourceReader", "textFrom", "(I)Ljava/lang/String;"⟩ : MethodName)) (z := (⟨"com/example/ceruline/ceruline/parsing/SourceReader", "textFrom", "(I)Ljava/lang/String;"⟩ : MethodName)) hown26 (wq hw 112 rfl) (wq hw 113 rfl) (notFace_of_selects (args := #[]) (mvT hZ26 (wq hw 115 rfl))) (wq hw 115 rfl) (wq hw 114 rfl) (by decide) P233_0 (backC (W := 0) (rm_tf0_3 l Z a0 hw zc fm b22 b15 t19 kt19 (nar .byte ((p0 &&& (255 : Int32)).toInt8.toInt32)) (nar .byte ((p1 &&& (255 : Int32)).toInt8.toInt32)) (nar .byte ((p2 &&& (255 : Int32)).toInt8.toInt32)) h233 n0 (by omega) S_c hzc S_f hfm f238 P233_2 P233_3 f239 f240 f241 f242 (by omega)) hZ26 (wq hw 116 rfl) (wq hw 32 rfl) (by decide) (by decide)) e235 (argsL := [(.int (0 : Int32))]) (rest := []) rfl rfl pd_21 rfl (by rw [hml]; rfl) (hb hby at_114) (Nat.le_of_eq rfl) (by decide) (by decide) k237
      have k243 : To p.tables e below S0 (T243.setTop (mkF m 117 l236 [(.ref b15)])) := k243a
      have N243 := N235.app Nq243
      have e243 : T243.heap = h233 := eq243
      let l244 : Array Slot := #[.val (.int p0), .val (.int p1), .val (.int p2), .val (.int mv_), .val (.ref b3), .val (.ref b15), .val (.ref b22), .val (.int (0 : Int32)), .val (.int (3 : Int32)), .val (.int (0 : Int32)), .val (.int (3 : Int32)), .val (.ref b15), .unset]
      have k245 : To p.tables e below S0 (T243.setTop (mkF m 123 l244 [(.int (3 : Int32)), (.ref b22)])) := fun tt hq => k243 tt (by
        refine XS.astore X243.here hx rfl (hb hby at_117) rfl rfl (l' := l244) rfl ?_
        refine XS.aload X243.here hx rfl (hb hby at_119) rfl rfl ?_
        refine XS.iload X243.here hx rfl (hb hby at_121) rfl ?_
        exact hq)
      obtain ⟨_, T246, L246, X246, ⟨a246, t246, k246x, rfl, Nq246, ya246, yt246, Kq246, P2460, P2461, P2462, P2463⟩, k246a, Cq246, hS246, hZ246, hown246⟩ := callVW X243 hx hZ26 (y := (⟨"com/example/ceruline/ceruline/parsing/SourceReader", "textFrom", "(I)Ljava/lang/String;"⟩ : MethodName)) (z := (⟨"com/example/ceruline/ceruline/parsing/SourceReader", "textFrom", "(I)Ljava/lang/String;"⟩ : MethodName)) hown26 hS26 (by omega) (wq hw 112 rfl) (wq hw 113 rfl) (notFace_of_selects (args := #[]) (mvT hZ26 (wq hw 115 rfl))) (wq hw 115 rfl) (wq hw 114 rfl) (by decide) P233_0 (backOfW (W := 0) (rm_tf3_3 l Z a0 hw zc fm b22 b15 t19 kt19 (nar .byte ((p0 &&& (255 : Int32)).toInt8.toInt32)) (nar .byte ((p1 &&& (255 : Int32)).toInt8.toInt32)) (nar .byte ((p2 &&& (255 : Int32)).toInt8.toInt32)) h233 n0 (by omega) S_c hzc S_f hfm f238 P233_2 P233_3 f239 f240 f241 f242 (by omega)) hZ26 (wq hw 116 rfl) (wq hw 32 rfl) (by decide) (by decide) (own_EW hw) C233.1 all0) e243 (argsL := [(.int (3 : Int32))]) (rest := []) rfl rfl pd_21 rfl (by rw [hml]; rfl) (hb hby at_123) (Nat.le_of_eq rfl) (by decide) (by decide) k245
      have k246 : To p.tables e below S0 (T246.setTop (mkF m 126 l244 [(.ref a246)])) := k246a
      have N246 := N243.app Nq246
      obtain ⟨h246, e246⟩ : ∃ z, T246.heap = z := ⟨_, rfl⟩
      rw [e246] at Kq246 ya246 yt246 P2460 P2461 P2462 P2463 Cq246 hS246
      have z246 : h233.size ≤ h246.size := Kq246.1
      have C246 := C233.trans Cq246
      let l247 : Array Slot := #[.val (.int p0), .val (.int p1), .val (.int p2), .val (.int mv_), .val (.ref b3), .val (.ref b15), .val (.ref b22), .val (.int (0 : Int32)), .val (.int (3 : Int32)), .val (.int (0 : Int32)), .val (.int (3 : Int32)), .val (.ref b15), .val (.ref a246)]
      have k248 : To p.tables e below S0 (T246.setTop (mkF m 149 l247 [(.ref a246)])) := fun tt hq => k246 tt (by
        refine XS.astore X246.here hx rfl (hb hby at_126) rfl rfl (l' := l247) rfl ?_
        refine XS.iload X246.here hx rfl (hb hby at_128) rfl ?_
        refine XS.iload X246.here hx rfl (hb hby at_130) rfl ?_
        refine XS.icmpNo X246.here hx rfl (hb hby at_132) rfl (teq (by decide)).2 ?_
        refine XS.iload X246.here hx rfl (hb hby at_135) rfl ?_
        refine XS.iload X246.here hx rfl (hb hby at_137) rfl ?_
        refine XS.iload X246.here hx rfl (hb hby at_139) rfl ?_
        refine XS.iadd X246.here hx rfl (hb hby at_141) rfl ?_
        refine XS.icmpYes X246.here hx rfl (pc0 := 142) (pc' := 147) rfl (hb hby at_142) rfl (teq (by decide)).1 (by decide) (by decide) ?_
        refine XS.aload X246.here hx rfl (hb hby at_147) rfl rfl ?_
        exact hq)
      obtain ⟨_, T249, L249, X249, ⟨rfl, Nq249, eq249⟩, k249a⟩ := callV' X246 hx hZ246 (y := (⟨"java/lang/String", "isEmpty", "()Z"⟩ : MethodName)) (z := (⟨"java/lang/String", "isEmpty", "()Z"⟩ : MethodName)) hown246 (wq hw 143 rfl) (wq hw 144 rfl) (notFace_of_selects (args := #[]) (mvT hZ246 (wq hw 146 rfl))) (wq hw 146 rfl) (wq hw 145 rfl) (by decide) P2460 (backC (W := 0) (rm_em l Z a0 hw a246 t246 k246x h246 n0 (by omega) P2460 P2461 P2462 P2463) hZ246 (wq hw 147 rfl) (wq hw 3 rfl) (by decide) (by decide)) e246 (argsL := []) (rest := []) rfl rfl pd_6 rfl (by rw [hml]; rfl) (hb hby at_149) (Nat.le_of_eq rfl) (by decide) (by decide) k248
      have k249 : To p.tables e below S0 (T249.setTop (mkF m 152 l247 [(.int (1 : Int32))])) := k249a
      have N249 := N246.app Nq249
      have e249 : T249.heap = h246 := eq249
      have k250 : To p.tables e below S0 (T249.setTop (mkF m 159 l247 [(.ref b15)])) := fun tt hq => k249 tt (by
        refine XS.ifYes X249.here hx rfl (pc0 := 152) (pc' := 157) rfl (hb hby at_152) rfl ((if0 _ _).trans (feq (by decide)).2) (by decide) (by decide) ?_
        refine XS.aload X249.here hx rfl (hb hby at_157) rfl rfl ?_
        exact hq)
      have f251 : Old Z n0 h246 := (f238.keep Kq246 all0)
      have f252 : Exa Z h246 b15 "java/lang/String" := (f239.keep Kq246)
      have f253 : Fld Z h246 b15 "java/lang/String" "value" "[B" (.ref t19) := (f240.keep Kq246 nin0)
      have f254 : Fld Z h246 b15 "java/lang/String" "coder" "B" (.int (0 : Int32)) := (f241.keep Kq246 nin0)
      have f255 : Arv Z h246 t19 kt19 .byte (3 : Int32) [(.int (nar .byte ((p0 &&& (255 : Int32)).toInt8.toInt32))), (.int (nar .byte ((p1 &&& (255 : Int32)).toInt8.toInt32))), (.int (nar .byte ((p2 &&& (255 : Int32)).toInt8.toInt32)))] (.int 0) := (f242.keep Kq246 nin0)
      obtain ⟨_, T256, L256, X256, ⟨rfl, Nq256, eq256⟩, k256a⟩ := callV' X249 hx hZ246 (y := (⟨"java/lang/String", "length", "()I"⟩ : MethodName)) (z := (⟨"java/lang/String", "length", "()I"⟩ : MethodName)) hown246 (wq hw 148 rfl) (wq hw 123 rfl) (notFace_of_selects (args := #[]) (mvT hZ246 (wq hw 125 rfl))) (wq hw 125 rfl) (wq hw 124 rfl) (by decide) f252 (backC (W := 0) (rm_len3 l Z a0 hw zc b15 t19 kt19 (nar .byte ((p0 &&& (255 : Int32)).toInt8.toInt32)) (nar .byte ((p1 &&& (255 : Int32)).toInt8.toInt32)) (nar .byte ((p2 &&& (255 : Int32)).toInt8.toInt32)) h246 n0 (by omega) S_c hzc f251 f252 f253 f254 f255) hZ246 (wq hw 126 rfl) (wq hw 3 rfl) (by decide) (by decide)) e249 (argsL := []) (rest := []) rfl rfl pd_17 rfl (by rw [hml]; rfl) (hb hby at_159) (Nat.le_of_eq rfl) (by decide) (by decide) k250
      have k256 : To p.tables e below S0 (T256.setTop (mkF m 162 l247 [(.int (3 : Int32))])) := k256a
      have N256 := N249.app Nq256
      have e256 : T256.heap = h246 := eq256
      have k257 : To p.tables e below S0 (T256.setTop (mkF m 178 l247 [(.int (0 : Int32)), (.ref b15)])) := fun tt hq => k256 tt (by
        refine XS.iload X256.here hx rfl (hb hby at_162) rfl ?_
        refine XS.icmpYes X256.here hx rfl (pc0 := 164) (pc' := 169) rfl (hb hby at_164) rfl (teq (by decide)).1 (by decide) (by decide) ?_
        refine XS.iload X256.here hx rfl (hb hby at_169) rfl ?_
        refine XS.iconst X256.here hx rfl (hb hby at_171) ?_
        refine XS.icmpNo X256.here hx rfl (hb hby at_172) rfl (flt (by decide)).1 ?_
        refine XS.aload X256.here hx rfl (hb hby at_175) rfl rfl ?_
        refine XS.iconst X256.here hx rfl (hb hby at_177) ?_
        exact hq)
      obtain ⟨_, T258, L258, X258, ⟨rfl, Nq258, eq258⟩, k258a⟩ := callV' X256 hx hZ246 (y := (⟨"java/lang/String", "charAt", "(I)C"⟩ : MethodName)) (z := (⟨"java/lang/String", "charAt", "(I)C"⟩ : MethodName)) hown246 (wq hw 168 rfl) (wq hw 169 rfl) (notFace_of_selects (args := #[]) (mvT hZ246 (wq hw 171 rfl))) (wq hw 171 rfl) (wq hw 170 rfl) (by decide) f252 (backC (W := 0) (rm_ca3_0 l Z a0 hw zc fm b15 t19 kt19 (nar .byte ((p0 &&& (255 : Int32)).toInt8.toInt32)) (nar .byte ((p1 &&& (255 : Int32)).toInt8.toInt32)) (nar .byte ((p2 &&& (255 : Int32)).toInt8.toInt32)) (p0 &&& (255 : Int32)) h246 n0 (by omega) S_c hzc S_f hfm f251 f252 f253 f254 f255 (own_b255 (own_m255 _))) hZ246 (wq hw 172 rfl) (wq hw 3 rfl) (by decide) (by decide)) e256 (argsL := [(.int (0 : Int32))]) (rest := []) rfl rfl pd_25 rfl (by rw [hml]; rfl) (hb hby at_178) (Nat.le_of_eq rfl) (by decide) (by decide) k257
      have k258 : To p.tables e below S0 (T258.setTop (mkF m 181 l247 [(.int (p0 &&& (255 : Int32)))])) := k258a
      have N258 := N256.app Nq258
      have e258 : T258.heap = h246 := eq258
      have f259 : Arv Z h246 b3 c3 .char (3 : Int32) [(.int (p0 &&& (255 : Int32))), (.int (p1 &&& (255 : Int32))), (.int (p2 &&& (255 : Int32)))] (.int (0 : Int32)) := (((((((((f18.keep Kq19 (nin1 (by omega))).ext E22).ext E24).ext E26).keep Kq32 (nin1 (by omega))).keep Kq39 (nin1 (by omega))).keep Kq223 (nin1 (by omega))).keep Kq233 (nin1 (by omega))).keep Kq246 nin0)
      have k260 : To p.tables e below S0 (T258.setTop (mkF m 185 l247 [(.int (0 : Int32)), (.ref b3), (.int (p0 &&& (255 : Int32)))])) := fun tt hq => k258 tt (by
        refine XS.aload X258.here hx rfl (hb hby at_181) rfl rfl ?_
        refine XS.iload X258.here hx rfl (hb hby at_183) rfl ?_
        exact hq)
      obtain ⟨cl261, Ar261, -, S261, -, G261, -⟩ := id f259
      have hi261 := inb_of (j := (0 : Int32)) S261 ⟨by decide, by decide⟩
      have st261 := fun tt => X258.caload hx (j := (0 : Int32)) (v := (.int (p0 &&& (255 : Int32)))) (by rw [e258]; exact Ar261.1) (State.isArrayOf_alike hZ246.alike Ar261.2.1) Ar261.2.2 hi261 (G261.at hi261 rfl) (g := (mkF m 185 l247 [(.int (0 : Int32)), (.ref b3), (.int (p0 &&& (255 : Int32)))])) rfl rfl (hb hby at_185) tt
      have k261 : To p.tables e below S0 (T258.setTop (mkF m 186 l247 [(.int (p0 &&& (255 : Int32))), (.int (p0 &&& (255 : Int32)))])) := fun tt hq => k260 tt (st261 tt hq)
      have k262 : To p.tables e below S0 (T258.setTop (mkF m 200 l247 [(.int (1 : Int32)), (.ref b15)])) := fun tt hq => k261 tt (by
        refine XS.icmpYes X258.here hx rfl (pc0 := 186) (pc' := 191) rfl (hb hby at_186) rfl (teq rfl).1 (by decide) (by decide) ?_
        refine XS.iload X258.here hx rfl (hb hby at_191) rfl ?_
        refine XS.iconst X258.here hx rfl (hb hby at_193) ?_
        refine XS.icmpNo X258.here hx rfl (hb hby at_194) rfl (flt (by decide)).1 ?_
        refine XS.aload X258.here hx rfl (hb hby at_197) rfl rfl ?_
        refine XS.iconst X258.here hx rfl (hb hby at_199) ?_
        exact hq)
      obtain ⟨_, T263, L263, X263, ⟨rfl, Nq263, eq263⟩, k263a⟩ := callV' X258 hx hZ246 (y := (⟨"java/lang/String", "charAt", "(I)C"⟩ : MethodName)) (z := (⟨"java/lang/String", "charAt", "(I)C"⟩ : MethodName)) hown246 (wq hw 168 rfl) (wq hw 169 rfl) (notFace_of_selects (args := #[]) (mvT hZ246 (wq hw 171 rfl))) (wq hw 171 rfl) (wq hw 170 rfl) (by decide) f252 (backC (W := 0) (rm_ca3_1 l Z a0 hw zc fm b15 t19 kt19 (nar .byte ((p0 &&& (255 : Int32)).toInt8.toInt32)) (nar .byte ((p1 &&& (255 : Int32)).toInt8.toInt32)) (nar .byte ((p2 &&& (255 : Int32)).toInt8.toInt32)) (p1 &&& (255 : Int32)) h246 n0 (by omega) S_c hzc S_f hfm f251 f252 f253 f254 f255 (own_b255 (own_m255 _))) hZ246 (wq hw 172 rfl) (wq hw 3 rfl) (by decide) (by decide)) e258 (argsL := [(.int (1 : Int32))]) (rest := []) rfl rfl pd_25 rfl (by rw [hml]; rfl) (hb hby at_200) (Nat.le_of_eq rfl) (by decide) (by decide) k262
      have k263 : To p.tables e below S0 (T263.setTop (mkF m 203 l247 [(.int (p1 &&& (255 : Int32)))])) := k263a
      have N263 := N258.app Nq263
      have e263 : T263.heap = h246 := eq263
      have k264 : To p.tables e below S0 (T263.setTop (mkF m 209 l247 [(.int (1 : Int32)), (.ref b3), (.int (p1 &&& (255 : Int32)))])) := fun tt hq => k263 tt (by
        refine XS.aload X263.here hx rfl (hb hby at_203) rfl rfl ?_
        refine XS.iload X263.here hx rfl (hb hby at_205) rfl ?_
        refine XS.iconst X263.here hx rfl (hb hby at_207) ?_
        refine XS.iadd X263.here hx rfl (hb hby at_208) rfl ?_
        exact hq)
      obtain ⟨cl265, Ar265, -, S265, -, G265, -⟩ := id f259
      have hi265 := inb_of (j := (1 : Int32)) S265 ⟨by decide, by decide⟩
      have st265 := fun tt => X263.caload hx (j := (1 : Int32)) (v := (.int (p1 &&& (255 : Int32)))) (by rw [e263]; exact Ar265.1) (State.isArrayOf_alike hZ246.alike Ar265.2.1) Ar265.2.2 hi265 (G265.at hi265 rfl) (g := (mkF m 209 l247 [(.int (1 : Int32)), (.ref b3), (.int (p1 &&& (255 : Int32)))])) rfl rfl (hb hby at_209) tt
      have k265 : To p.tables e below S0 (T263.setTop (mkF m 210 l247 [(.int (p1 &&& (255 : Int32))), (.int (p1 &&& (255 : Int32)))])) := fun tt hq => k264 tt (st265 tt hq)
      have k266 : To p.tables e below S0 (T263.setTop (mkF m 224 l247 [(.int (2 : Int32)), (.ref b15)])) := fun tt hq => k265 tt (by
        refine XS.icmpYes X263.here hx rfl (pc0 := 210) (pc' := 215) rfl (hb hby at_210) rfl (teq rfl).1 (by decide) (by decide) ?_
        refine XS.iload X263.here hx rfl (hb hby at_215) rfl ?_
        refine XS.iconst X263.here hx rfl (hb hby at_217) ?_
        refine XS.icmpNo X263.here hx rfl (hb hby at_218) rfl (flt (by decide)).1 ?_
        refine XS.aload X263.here hx rfl (hb hby at_221) rfl rfl ?_
        refine XS.iconst X263.here hx rfl (hb hby at_223) ?_
        exact hq)
      obtain ⟨_, T267, L267, X267, ⟨rfl, Nq267, eq267⟩, k267a⟩ := callV' X263 hx hZ246 (y := (⟨"java/lang/String", "charAt", "(I)C"⟩ : MethodName)) (z := (⟨"java/lang/String", "charAt", "(I)C"⟩ : MethodName)) hown246 (wq hw 168 rfl) (wq hw 169 rfl) (notFace_of_selects (args := #[]) (mvT hZ246 (wq hw 171 rfl))) (wq hw 171 rfl) (wq hw 170 rfl) (by decide) f252 (backC (W := 0) (rm_ca3_2 l Z a0 hw zc fm b15 t19 kt19 (nar .byte ((p0 &&& (255 : Int32)).toInt8.toInt32)) (nar .byte ((p1 &&& (255 : Int32)).toInt8.toInt32)) (nar .byte ((p2 &&& (255 : Int32)).toInt8.toInt32)) (p2 &&& (255 : Int32)) h246 n0 (by omega) S_c hzc S_f hfm f251 f252 f253 f254 f255 (own_b255 (own_m255 _))) hZ246 (wq hw 172 rfl) (wq hw 3 rfl) (by decide) (by decide)) e263 (argsL := [(.int (2 : Int32))]) (rest := []) rfl rfl pd_25 rfl (by rw [hml]; rfl) (hb hby at_224) (Nat.le_of_eq rfl) (by decide) (by decide) k266
      have k267 : To p.tables e below S0 (T267.setTop (mkF m 227 l247 [(.int (p2 &&& (255 : Int32)))])) := k267a
      have N267 := N263.app Nq267
      have e267 : T267.heap = h246 := eq267
      have k268 : To p.tables e below S0 (T267.setTop (mkF m 233 l247 [(.int (2 : Int32)), (.ref b3), (.int (p2 &&& (255 : Int32)))])) := fun tt hq => k267 tt (by
        refine XS.aload X267.here hx rfl (hb hby at_227) rfl rfl ?_
        refine XS.iload X267.here hx rfl (hb hby at_229) rfl ?_
        refine XS.iconst X267.here hx rfl (hb hby at_231) ?_
        refine XS.iadd X267.here hx rfl (hb hby at_232) rfl ?_
        exact hq)
      obtain ⟨cl269, Ar269, -, S269, -, G269, -⟩ := id f259
      have hi269 := inb_of (j := (2 : Int32)) S269 ⟨by decide, by decide⟩
      have st269 := fun tt => X267.caload hx (j := (2 : Int32)) (v := (.int (p2 &&& (255 : Int32)))) (by rw [e267]; exact Ar269.1) (State.isArrayOf_alike hZ246.alike Ar269.2.1) Ar269.2.2 hi269 (G269.at hi269 rfl) (g := (mkF m 233 l247 [(.int (2 : Int32)), (.ref b3), (.int (p2 &&& (255 : Int32)))])) rfl rfl (hb hby at_233) tt
      have k269 : To p.tables e below S0 (T267.setTop (mkF m 234 l247 [(.int (p2 &&& (255 : Int32))), (.int (p2 &&& (255 : Int32)))])) := fun tt hq => k268 tt (st269 tt hq)
      have k270 : To p.tables e below S0 (T267.setTop (mkF m 240 l247 [(.int (1 : Int32))])) := fun tt hq => k269 tt (by
        refine XS.icmpYes X267.here hx rfl (pc0 := 234) (pc' := 239) rfl (hb hby at_234) rfl (teq rfl).1 (by decide) (by decide) ?_
        refine XS.iconst X267.here hx rfl (hb hby at_239) ?_
        exact hq)
      refine retIntW X267 hx hZ246 (own_EW hw) hS246 (by omega) C246 e267 hret hlk (by simp) rfl (hb hby at_240) k270 ?_ (by decide) (by decide)
      exact ⟨rfl, N267⟩
  · -- pc 66: (1 : Int32)
    have k271 : To p.tables e below S0 (T39.setTop (mkF m 66 l40 [(.int (1 : Int32))])) := by have hq := k41; rw [ht42] at hq; exact hq
    let l272 : Array Slot := #[.val (.int p0), .val (.int p1), .val (.int p2), .val (.int mv_), .val (.ref b3), .val (.ref b15), .val (.ref b22), .val (.int (1 : Int32)), .unset, .unset, .unset, .unset, .unset]
    have k273 : To p.tables e below S0 (T39.setTop (mkF m 77 l272 [(.int (2 : Int32)), (.int (((mv_.toUInt32 >>> ((2 : Int32) &&& 31).toUInt32).toInt32) &&& (3 : Int32)))])) := fun tt hq => k271 tt (by
      refine XS.istore X39.here hx rfl (hb hby at_66) rfl (l' := l272) rfl ?_
      refine XS.iloadN X39.here hx rfl (hb hby at_68) rfl ?_
      refine XS.iconst X39.here hx rfl (hb hby at_69) ?_
      refine XS.iushr X39.here hx rfl (hb hby at_70) rfl ?_
      refine XS.iconst X39.here hx rfl (hb hby at_71) ?_
      refine XS.iand X39.here hx rfl (hb hby at_72) rfl ?_
      refine XS.iconst X39.here hx rfl (hb hby at_73) ?_
      refine XS.iload X39.here hx rfl (hb hby at_74) rfl ?_
      refine XS.isub X39.here hx rfl (hb hby at_76) rfl ?_
      exact hq)
    obtain ⟨_, T274, L274, X274, ⟨rfl, Nq274, eq274⟩, k274a⟩ := callS' X39 hx hZ26 (y := (⟨"java/lang/Math", "min", "(II)I"⟩ : MethodName)) hown26 (wq hw 69 rfl) (wq hw 70 rfl) (wq hw 71 rfl) (wq hw 72 rfl) (by decide) (backC (W := 0) (rm_min l Z a0 hw (((mv_.toUInt32 >>> ((2 : Int32) &&& 31).toUInt32).toInt32) &&& (3 : Int32)) (2 : Int32) (if (2 : Int32) < (((mv_.toUInt32 >>> ((2 : Int32) &&& 31).toUInt32).toInt32) &&& (3 : Int32)) then (2 : Int32) else (((mv_.toUInt32 >>> ((2 : Int32) &&& 31).toUInt32).toInt32) &&& (3 : Int32))) h39 n0 (by omega) rfl) hZ26 (wq hw 72 rfl) (wq hw 71 rfl) (by decide) (by decide)) e39 (argsL := [(.int (((mv_.toUInt32 >>> ((2 : Int32) &&& 31).toUInt32).toInt32) &&& (3 : Int32))), (.int (2 : Int32))]) (rest := []) rfl rfl pd_15 rfl (by rw [hml]; rfl) (hb hby at_77) (Nat.le_of_eq rfl) (by decide) (by decide) k273
    have k274 : To p.tables e below S0 (T274.setTop (mkF m 80 l272 [(.int (if (2 : Int32) < (((mv_.toUInt32 >>> ((2 : Int32) &&& 31).toUInt32).toInt32) &&& (3 : Int32)) then (2 : Int32) else (((mv_.toUInt32 >>> ((2 : Int32) &&& 31).toUInt32).toInt32) &&& (3 : Int32))))])) := k274a
    have N274 := N39.app Nq274
    have e274 : T274.heap = h39 := eq274
    rcases own_b1 _ with ht275 | ht275 | ht275
    · -- pc 80: (0 : Int32)
      have k276 : To p.tables e below S0 (T274.setTop (mkF m 80 l272 [(.int (0 : Int32))])) := by have hq := k274; rw [ht275] at hq; exact hq
      let l277 : Array Slot := #[.val (.int p0), .val (.int p1), .val (.int p2), .val (.int mv_), .val (.ref b3), .val (.ref b15), .val (.ref b22), .val (.int (1 : Int32)), .val (.int (0 : Int32)), .unset, .unset, .unset, .unset]
      have k278 : To p.tables e below S0 (T274.setTop (mkF m 86 l277 [(.int (1 : Int32)), (.ref b22)])) := fun tt hq => k276 tt (by
        refine XS.istore X274.here hx rfl (hb hby at_80) rfl (l' := l277) rfl ?_
        refine XS.aload X274.here hx rfl (hb hby at_82) rfl rfl ?_
        refine XS.iload X274.here hx rfl (hb hby at_84) rfl ?_
        exact hq)
      have f279 : Old Z n0 h39 := ((((((f17.keep Kq19 (allS (by omega) all0)).ext E22).ext E24).ext E26).keep Kq32 (allS (by omega) all0)).keep Kq39 (allS (by omega) all0))
      have f280 : Exa Z h39 b15 "java/lang/String" := (((((P190.ext E22).ext E24).ext E26).keep Kq32).keep Kq39)
      have f281 : Fld Z h39 b15 "java/lang/String" "value" "[B" (.ref t19) := (((((P191.ext E22).ext E24).ext E26).keep Kq32 (nin1 (by omega))).keep Kq39 (nin1 (by omega)))
      have f282 : Fld Z h39 b15 "java/lang/String" "coder" "B" (.int (0 : Int32)) := (((((P192.ext E22).ext E24).ext E26).keep Kq32 (nin1 (by omega))).keep Kq39 (nin1 (by omega)))
      have f283 : Arv Z h39 t19 kt19 .byte (3 : Int32) [(.int (nar .byte ((p0 &&& (255 : Int32)).toInt8.toInt32))), (.int (nar .byte ((p1 &&& (255 : Int32)).toInt8.toInt32))), (.int (nar .byte ((p2 &&& (255 : Int32)).toInt8.toInt32)))] (.int 0) := (((((P193.ext E22).ext E24).ext E26).keep Kq32 (nin1 (by omega))).keep Kq39 (nin1 (by omega)))
      obtain ⟨_, T284, L284, X284, ⟨x284, y284x, rfl, Nq284, Kq284, P284_0, P284_1, P284_2, P284_3, P284_4, P284_5⟩, k284a⟩ := callS' X274 hx hZ26 (y := (⟨"com/example/ceruline/ceruline/parsing/SourceReaderTextFromPinLaw", "steps", "(Lcom/example/ceruline/ceruline/parsing/SourceReader;I)V"⟩ : MethodName)) hown26 (wq hw 73 rfl) (wq hw 74 rfl) (wq hw 75 rfl) (wq hw 76 rfl) (by decide) (backC (W := 0) (rm_st0_1 l Z a0 hw zc fm b22 b24 b15 t19 kt19 (nar .byte ((p0 &&& (255 : Int32)).toInt8.toInt32)) (nar .byte ((p1 &&& (255 : Int32)).toInt8.toInt32)) (nar .byte ((p2 &&& (255 : Int32)).toInt8.toInt32)) (1 : Int32) (1 : Int32) h39 n0 (by omega) S_c hzc S_f hfm f279 P39_0 P39_1 P39_2 P39_3 P39_4 P39_5 f280 f281 f282 f283 (by omega) (by omega) (by omega)) hZ26 (wq hw 76 rfl) (wq hw 75 rfl) (by decide) (by decide)) e274 (argsL := [(.ref b22), (.int (1 : Int32))]) (rest := []) rfl rfl pd_16 rfl (by rw [hml]; rfl) (hb hby at_86) (Nat.le_of_eq rfl) (by decide) (by decide) k278
      have k284 : To p.tables e below S0 (T284.setTop (mkF m 89 l277 [])) := k284a
      have N284 := N274.app Nq284
      obtain ⟨h284, e284⟩ : ∃ z, T284.heap = z := ⟨_, rfl⟩
      rw [e284] at Kq284 P284_0 P284_1 P284_2 P284_3 P284_4 P284_5
      have z284 : h39.size ≤ h284.size := Kq284.1
      have C284 := C39.trans (CHr.keep Kq284 (sfS (Safe.exa hZ26.alike P39_0 (by decide) (by decide)) sf0) C39.1)
      have k285 : To p.tables e below S0 (T284.setTop (mkF m 91 l277 [(.ref b22)])) := fun tt hq => k284 tt (by
        refine XS.aload X284.here hx rfl (hb hby at_89) rfl rfl ?_
        exact hq)
      obtain ⟨_, T286, L286, X286, ⟨rfl, Nq286, eq286⟩, k286a⟩ := callV' X284 hx hZ26 (y := (⟨"com/example/ceruline/ceruline/parsing/SourceReader", "offset", "()I"⟩ : MethodName)) (z := (⟨"com/example/ceruline/ceruline/parsing/SourceReader", "offset", "()I"⟩ : MethodName)) hown26 (wq hw 107 rfl) (wq hw 108 rfl) (notFace_of_selects (args := #[]) (mvT hZ26 (wq hw 110 rfl))) (wq hw 110 rfl) (wq hw 109 rfl) (by decide) P284_0 (backC (W := 0) (rm_off l Z a0 hw b22 (1 : Int32) h284 n0 (by omega) P284_3) hZ26 (wq hw 111 rfl) (wq hw 32 rfl) (by decide) (by decide)) e284 (argsL := []) (rest := []) rfl rfl pd_17 rfl (by rw [hml]; rfl) (hb hby at_91) (Nat.le_of_eq rfl) (by decide) (by decide) k285
      have k286 : To p.tables e below S0 (T286.setTop (mkF m 94 l277 [(.int (1 : Int32))])) := k286a
      have N286 := N284.app Nq286
      have e286 : T286.heap = h284 := eq286
      let l287 : Array Slot := #[.val (.int p0), .val (.int p1), .val (.int p2), .val (.int mv_), .val (.ref b3), .val (.ref b15), .val (.ref b22), .val (.int (1 : Int32)), .val (.int (0 : Int32)), .val (.int (1 : Int32)), .unset, .unset, .unset]
      have k288 : To p.tables e below S0 (T286.setTop (mkF m 100 l287 [(.int (0 : Int32)), (.ref b22)])) := fun tt hq => k286 tt (by
        refine XS.istore X286.here hx rfl (hb hby at_94) rfl (l' := l287) rfl ?_
        refine XS.aload X286.here hx rfl (hb hby at_96) rfl rfl ?_
        refine XS.iload X286.here hx rfl (hb hby at_98) rfl ?_
        exact hq)
      have f289 : Old Z n0 h284 := (f279.keep Kq284 (allS (by omega) all0))
      have f290 : Exa Z h284 b15 "java/lang/String" := (f280.keep Kq284)
      have f291 : Fld Z h284 b15 "java/lang/String" "value" "[B" (.ref t19) := (f281.keep Kq284 (nin1 (by omega)))
      have f292 : Fld Z h284 b15 "java/lang/String" "coder" "B" (.int (0 : Int32)) := (f282.keep Kq284 (nin1 (by omega)))
      have f293 : Arv Z h284 t19 kt19 .byte (3 : Int32) [(.int (nar .byte ((p0 &&& (255 : Int32)).toInt8.toInt32))), (.int (nar .byte ((p1 &&& (255 : Int32)).toInt8.toInt32))), (.int (nar .byte ((p2 &&& (255 : Int32)).toInt8.toInt32)))] (.int 0) := (f283.keep Kq284 (nin1 (by omega)))
      obtain ⟨_, T294, L294, X294, ⟨x294, y294x, rfl, Nq294, Kq294, P294_0, P294_1, P294_2, P294_3, P294_4, P294_5⟩, k294a⟩ := callS' X286 hx hZ26 (y := (⟨"com/example/ceruline/ceruline/parsing/SourceReaderTextFromPinLaw", "steps", "(Lcom/example/ceruline/ceruline/parsing/SourceReader;I)V"⟩ : MethodName)) hown26 (wq hw 73 rfl) (wq hw 74 rfl) (wq hw 75 rfl) (wq hw 76 rfl) (by decide) (backC (W := 0) (rm_st1_0 l Z a0 hw zc fm b22 b24 b15 t19 kt19 (nar .byte ((p0 &&& (255 : Int32)).toInt8.toInt32)) (nar .byte ((p1 &&& (255 : Int32)).toInt8.toInt32)) (nar .byte ((p2 &&& (255 : Int32)).toInt8.toInt32)) x284 y284x h284 n0 (by omega) S_c hzc S_f hfm f289 P284_0 P284_1 P284_2 P284_3 P284_4 P284_5 f290 f291 f292 f293 (by omega) (by omega) (by omega)) hZ26 (wq hw 76 rfl) (wq hw 75 rfl) (by decide) (by decide)) e286 (argsL := [(.ref b22), (.int (0 : Int32))]) (rest := []) rfl rfl pd_16 rfl (by rw [hml]; rfl) (hb hby at_100) (Nat.le_of_eq rfl) (by decide) (by decide) k288
      have k294 : To p.tables e below S0 (T294.setTop (mkF m 103 l287 [])) := k294a
      have N294 := N286.app Nq294
      obtain ⟨h294, e294⟩ : ∃ z, T294.heap = z := ⟨_, rfl⟩
      rw [e294] at Kq294 P294_0 P294_1 P294_2 P294_3 P294_4 P294_5
      have z294 : h284.size ≤ h294.size := Kq294.1
      have C294 := C284.trans (CHr.keep Kq294 (sfS (Safe.exa hZ26.alike P284_0 (by decide) (by decide)) sf0) C284.1)
      have k295 : To p.tables e below S0 (T294.setTop (mkF m 105 l287 [(.ref b22)])) := fun tt hq => k294 tt (by
        refine XS.aload X294.here hx rfl (hb hby at_103) rfl rfl ?_
        exact hq)
      obtain ⟨_, T296, L296, X296, ⟨rfl, Nq296, eq296⟩, k296a⟩ := callV' X294 hx hZ26 (y := (⟨"com/example/ceruline/ceruline/parsing/SourceReader", "offset", "()I"⟩ : MethodName)) (z := (⟨"com/example/ceruline/ceruline/parsing/SourceReader", "offset", "()I"⟩ : MethodName)) hown26 (wq hw 107 rfl) (wq hw 108 rfl) (notFace_of_selects (args := #[]) (mvT hZ26 (wq hw 110 rfl))) (wq hw 110 rfl) (wq hw 109 rfl) (by decide) P294_0 (backC (W := 0) (rm_off l Z a0 hw b22 (1 : Int32) h294 n0 (by omega) P294_3) hZ26 (wq hw 111 rfl) (wq hw 32 rfl) (by decide) (by decide)) e294 (argsL := []) (rest := []) rfl rfl pd_17 rfl (by rw [hml]; rfl) (hb hby at_105) (Nat.le_of_eq rfl) (by decide) (by decide) k295
      have k296 : To p.tables e below S0 (T296.setTop (mkF m 108 l287 [(.int (1 : Int32))])) := k296a
      have N296 := N294.app Nq296
      have e296 : T296.heap = h294 := eq296
      let l297 : Array Slot := #[.val (.int p0), .val (.int p1), .val (.int p2), .val (.int mv_), .val (.ref b3), .val (.ref b15), .val (.ref b22), .val (.int (1 : Int32)), .val (.int (0 : Int32)), .val (.int (1 : Int32)), .val (.int (1 : Int32)), .unset, .unset]
      have k298 : To p.tables e below S0 (T296.setTop (mkF m 114 l297 [(.int (1 : Int32)), (.ref b22)])) := fun tt hq => k296 tt (by
        refine XS.istore X296.here hx rfl (hb hby at_108) rfl (l' := l297) rfl ?_
        refine XS.aload X296.here hx rfl (hb hby at_110) rfl rfl ?_
        refine XS.iload X296.here hx rfl (hb hby at_112) rfl ?_
        exact hq)
      have f299 : Old Z n0 h294 := (f289.keep Kq294 (allS (by omega) all0))
      have f300 : Exa Z h294 b15 "java/lang/String" := (f290.keep Kq294)
      have f301 : Fld Z h294 b15 "java/lang/String" "value" "[B" (.ref t19) := (f291.keep Kq294 (nin1 (by omega)))
      have f302 : Fld Z h294 b15 "java/lang/String" "coder" "B" (.int (0 : Int32)) := (f292.keep Kq294 (nin1 (by omega)))
      have f303 : Arv Z h294 t19 kt19 .byte (3 : Int32) [(.int (nar .byte ((p0 &&& (255 : Int32)).toInt8.toInt32))), (.int (nar .byte ((p1 &&& (255 : Int32)).toInt8.toInt32))), (.int (nar .byte ((p2 &&& (255 : Int32)).toInt8.toInt32)))] (.int 0) := (f293.keep Kq294 (nin1 (by omega)))
      obtain ⟨_, T304, L304, X304, ⟨a304, t304, k304x, rfl, Nq304, ya304, yt304, Kq304, P3040, P3041, P3042, P3043⟩, k304a, Cq304, hS304, hZ304, hown304⟩ := callVW X296 hx hZ26 (y := (⟨"com/example/ceruline/ceruline/parsing/SourceReader", "textFrom", "(I)Ljava/lang/String;"⟩ : MethodName)) (z := (⟨"com/example/ceruline/ceruline/parsing/SourceReader", "textFrom", "(I)Ljava/lang/String;"⟩ : MethodName)) hown26 hS26 (by omega) (wq hw 112 rfl) (wq hw 113 rfl) (notFace_of_selects (args := #[]) (mvT hZ26 (wq hw 115 rfl))) (wq hw 115 rfl) (wq hw 114 rfl) (by decide) P294_0 (backOfW (W := 0) (rm_tf1_1 l Z a0 hw zc fm b22 b15 t19 kt19 (nar .byte ((p0 &&& (255 : Int32)).toInt8.toInt32)) (nar .byte ((p1 &&& (255 : Int32)).toInt8.toInt32)) (nar .byte ((p2 &&& (255 : Int32)).toInt8.toInt32)) h294 n0 (by omega) S_c hzc S_f hfm f299 P294_2 P294_3 f300 f301 f302 f303 (by omega)) hZ26 (wq hw 116 rfl) (wq hw 32 rfl) (by decide) (by decide) (own_EW hw) C294.1 all0) e296 (argsL := [(.int (1 : Int32))]) (rest := []) rfl rfl pd_21 rfl (by rw [hml]; rfl) (hb hby at_114) (Nat.le_of_eq rfl) (by decide) (by decide) k298
      have k304 : To p.tables e below S0 (T304.setTop (mkF m 117 l297 [(.ref a304)])) := k304a
      have N304 := N296.app Nq304
      obtain ⟨h304, e304⟩ : ∃ z, T304.heap = z := ⟨_, rfl⟩
      rw [e304] at Kq304 ya304 yt304 P3040 P3041 P3042 P3043 Cq304 hS304
      have z304 : h294.size ≤ h304.size := Kq304.1
      have C304 := C294.trans Cq304
      let l305 : Array Slot := #[.val (.int p0), .val (.int p1), .val (.int p2), .val (.int mv_), .val (.ref b3), .val (.ref b15), .val (.ref b22), .val (.int (1 : Int32)), .val (.int (0 : Int32)), .val (.int (1 : Int32)), .val (.int (1 : Int32)), .val (.ref a304), .unset]
      have k306 : To p.tables e below S0 (T304.setTop (mkF m 123 l305 [(.int (1 : Int32)), (.ref b22)])) := fun tt hq => k304 tt (by
        refine XS.astore X304.here hx rfl (hb hby at_117) rfl rfl (l' := l305) rfl ?_
        refine XS.aload X304.here hx rfl (hb hby at_119) rfl rfl ?_
        refine XS.iload X304.here hx rfl (hb hby at_121) rfl ?_
        exact hq)
      have f307 : Old Z n0 h304 := (f299.keep Kq304 all0)
      have f308 : Fld Z h304 b22 "com/example/ceruline/ceruline/parsing/SourceReader" "text" "Ljava/lang/String;" (.ref b15) := (P294_2.keep Kq304 nin0)
      have f309 : Fld Z h304 b22 "com/example/ceruline/ceruline/parsing/SourceReader" "offset" "I" (.int (1 : Int32)) := (P294_3.keep Kq304 nin0)
      have f310 : Exa Z h304 b15 "java/lang/String" := (f300.keep Kq304)
      have f311 : Fld Z h304 b15 "java/lang/String" "value" "[B" (.ref t19) := (f301.keep Kq304 nin0)
      have f312 : Fld Z h304 b15 "java/lang/String" "coder" "B" (.int (0 : Int32)) := (f302.keep Kq304 nin0)
      have f313 : Arv Z h304 t19 kt19 .byte (3 : Int32) [(.int (nar .byte ((p0 &&& (255 : Int32)).toInt8.toInt32))), (.int (nar .byte ((p1 &&& (255 : Int32)).toInt8.toInt32))), (.int (nar .byte ((p2 &&& (255 : Int32)).toInt8.toInt32)))] (.int 0) := (f303.keep Kq304 nin0)
      have f315 : Exa Z h304 b22 "com/example/ceruline/ceruline/parsing/SourceReader" := (P294_0.keep Kq304)
      obtain ⟨_, T314, L314, X314, ⟨a314, t314, k314x, rfl, Nq314, ya314, yt314, Kq314, P3140, P3141, P3142, P3143⟩, k314a, Cq314, hS314, hZ314, hown314⟩ := callVW X304 hx hZ304 (y := (⟨"com/example/ceruline/ceruline/parsing/SourceReader", "textFrom", "(I)Ljava/lang/String;"⟩ : MethodName)) (z := (⟨"com/example/ceruline/ceruline/parsing/SourceReader", "textFrom", "(I)Ljava/lang/String;"⟩ : MethodName)) hown304 hS304 (by omega) (wq hw 112 rfl) (wq hw 113 rfl) (notFace_of_selects (args := #[]) (mvT hZ304 (wq hw 115 rfl))) (wq hw 115 rfl) (wq hw 114 rfl) (by decide) f315 (backOfW (W := 0) (rm_tf1_1 l Z a0 hw zc fm b22 b15 t19 kt19 (nar .byte ((p0 &&& (255 : Int32)).toInt8.toInt32)) (nar .byte ((p1 &&& (255 : Int32)).toInt8.toInt32)) (nar .byte ((p2 &&& (255 : Int32)).toInt8.toInt32)) h304 n0 (by omega) S_c hzc S_f hfm f307 f308 f309 f310 f311 f312 f313 (by omega)) hZ304 (wq hw 116 rfl) (wq hw 32 rfl) (by decide) (by decide) (own_EW hw) C304.1 all0) e304 (argsL := [(.int (1 : Int32))]) (rest := []) rfl rfl pd_21 rfl (by rw [hml]; rfl) (hb hby at_123) (Nat.le_of_eq rfl) (by decide) (by decide) k306
      have k314 : To p.tables e below S0 (T314.setTop (mkF m 126 l305 [(.ref a314)])) := k314a
      have N314 := N304.app Nq314
      obtain ⟨h314, e314⟩ : ∃ z, T314.heap = z := ⟨_, rfl⟩
      rw [e314] at Kq314 ya314 yt314 P3140 P3141 P3142 P3143 Cq314 hS314
      have z314 : h304.size ≤ h314.size := Kq314.1
      have C314 := C304.trans Cq314
      let l316 : Array Slot := #[.val (.int p0), .val (.int p1), .val (.int p2), .val (.int mv_), .val (.ref b3), .val (.ref b15), .val (.ref b22), .val (.int (1 : Int32)), .val (.int (0 : Int32)), .val (.int (1 : Int32)), .val (.int (1 : Int32)), .val (.ref a304), .val (.ref a314)]
      have k317 : To p.tables e below S0 (T314.setTop (mkF m 149 l316 [(.ref a314)])) := fun tt hq => k314 tt (by
        refine XS.astore X314.here hx rfl (hb hby at_126) rfl rfl (l' := l316) rfl ?_
        refine XS.iload X314.here hx rfl (hb hby at_128) rfl ?_
        refine XS.iload X314.here hx rfl (hb hby at_130) rfl ?_
        refine XS.icmpNo X314.here hx rfl (hb hby at_132) rfl (teq (by decide)).2 ?_
        refine XS.iload X314.here hx rfl (hb hby at_135) rfl ?_
        refine XS.iload X314.here hx rfl (hb hby at_137) rfl ?_
        refine XS.iload X314.here hx rfl (hb hby at_139) rfl ?_
        refine XS.iadd X314.here hx rfl (hb hby at_141) rfl ?_
        refine XS.icmpYes X314.here hx rfl (pc0 := 142) (pc' := 147) rfl (hb hby at_142) rfl (teq (by decide)).1 (by decide) (by decide) ?_
        refine XS.aload X314.here hx rfl (hb hby at_147) rfl rfl ?_
        exact hq)
      obtain ⟨_, T318, L318, X318, ⟨rfl, Nq318, eq318⟩, k318a⟩ := callV' X314 hx hZ314 (y := (⟨"java/lang/String", "isEmpty", "()Z"⟩ : MethodName)) (z := (⟨"java/lang/String", "isEmpty", "()Z"⟩ : MethodName)) hown314 (wq hw 143 rfl) (wq hw 144 rfl) (notFace_of_selects (args := #[]) (mvT hZ314 (wq hw 146 rfl))) (wq hw 146 rfl) (wq hw 145 rfl) (by decide) P3140 (backC (W := 0) (rm_em l Z a0 hw a314 t314 k314x h314 n0 (by omega) P3140 P3141 P3142 P3143) hZ314 (wq hw 147 rfl) (wq hw 3 rfl) (by decide) (by decide)) e314 (argsL := []) (rest := []) rfl rfl pd_6 rfl (by rw [hml]; rfl) (hb hby at_149) (Nat.le_of_eq rfl) (by decide) (by decide) k317
      have k318 : To p.tables e below S0 (T318.setTop (mkF m 152 l316 [(.int (1 : Int32))])) := k318a
      have N318 := N314.app Nq318
      have e318 : T318.heap = h314 := eq318
      have k319 : To p.tables e below S0 (T318.setTop (mkF m 159 l316 [(.ref a304)])) := fun tt hq => k318 tt (by
        refine XS.ifYes X318.here hx rfl (pc0 := 152) (pc' := 157) rfl (hb hby at_152) rfl ((if0 _ _).trans (feq (by decide)).2) (by decide) (by decide) ?_
        refine XS.aload X318.here hx rfl (hb hby at_157) rfl rfl ?_
        exact hq)
      have f320 : Old Z n0 h314 := (f307.keep Kq314 all0)
      have f321 : Exa Z h314 a304 "java/lang/String" := (P3040.keep Kq314)
      have f322 : Fld Z h314 a304 "java/lang/String" "value" "[B" (.ref t304) := (P3041.keep Kq314 nin0)
      have f323 : Fld Z h314 a304 "java/lang/String" "coder" "B" (.int (0 : Int32)) := (P3042.keep Kq314 nin0)
      have f324 : Arv Z h314 t304 k304x .byte (0 : Int32) [] (.int 0) := (P3043.keep Kq314 nin0)
      obtain ⟨_, T325, L325, X325, ⟨rfl, Nq325, eq325⟩, k325a⟩ := callV' X318 hx hZ314 (y := (⟨"java/lang/String", "length", "()I"⟩ : MethodName)) (z := (⟨"java/lang/String", "length", "()I"⟩ : MethodName)) hown314 (wq hw 148 rfl) (wq hw 123 rfl) (notFace_of_selects (args := #[]) (mvT hZ314 (wq hw 125 rfl))) (wq hw 125 rfl) (wq hw 124 rfl) (by decide) f321 (backC (W := 0) (rm_len0 l Z a0 hw zc a304 t304 k304x  h314 n0 (by omega) S_c hzc f320 f321 f322 f323 f324) hZ314 (wq hw 126 rfl) (wq hw 3 rfl) (by decide) (by decide)) e318 (argsL := []) (rest := []) rfl rfl pd_17 rfl (by rw [hml]; rfl) (hb hby at_159) (Nat.le_of_eq rfl) (by decide) (by decide) k319
      have k325 : To p.tables e below S0 (T325.setTop (mkF m 162 l316 [(.int (0 : Int32))])) := k325a
      have N325 := N318.app Nq325
      have e325 : T325.heap = h314 := eq325
      have k326 : To p.tables e below S0 (T325.setTop (mkF m 240 l316 [(.int (1 : Int32))])) := fun tt hq => k325 tt (by
        refine XS.iload X325.here hx rfl (hb hby at_162) rfl ?_
        refine XS.icmpYes X325.here hx rfl (pc0 := 164) (pc' := 169) rfl (hb hby at_164) rfl (teq (by decide)).1 (by decide) (by decide) ?_
        refine XS.iload X325.here hx rfl (hb hby at_169) rfl ?_
        refine XS.iconst X325.here hx rfl (hb hby at_171) ?_
        refine XS.icmpYes X325.here hx rfl (pc0 := 172) (pc' := 191) rfl (hb hby at_172) rfl (tlt (by decide)).1 (by decide) (by decide) ?_
        refine XS.iload X325.here hx rfl (hb hby at_191) rfl ?_
        refine XS.iconst X325.here hx rfl (hb hby at_193) ?_
        refine XS.icmpYes X325.here hx rfl (pc0 := 194) (pc' := 215) rfl (hb hby at_194) rfl (tlt (by decide)).1 (by decide) (by decide) ?_
        refine XS.iload X325.here hx rfl (hb hby at_215) rfl ?_
        refine XS.iconst X325.here hx rfl (hb hby at_217) ?_
        refine XS.icmpYes X325.here hx rfl (pc0 := 218) (pc' := 239) rfl (hb hby at_218) rfl (tlt (by decide)).1 (by decide) (by decide) ?_
        refine XS.iconst X325.here hx rfl (hb hby at_239) ?_
        exact hq)
      refine retIntW X325 hx hZ314 (own_EW hw) hS314 (by omega) C314 e325 hret hlk (by simp) rfl (hb hby at_240) k326 ?_ (by decide) (by decide)
      exact ⟨rfl, N325⟩
    · -- pc 80: (1 : Int32)
      have k327 : To p.tables e below S0 (T274.setTop (mkF m 80 l272 [(.int (1 : Int32))])) := by have hq := k274; rw [ht275] at hq; exact hq
      let l328 : Array Slot := #[.val (.int p0), .val (.int p1), .val (.int p2), .val (.int mv_), .val (.ref b3), .val (.ref b15), .val (.ref b22), .val (.int (1 : Int32)), .val (.int (1 : Int32)), .unset, .unset, .unset, .unset]
      have k329 : To p.tables e below S0 (T274.setTop (mkF m 86 l328 [(.int (1 : Int32)), (.ref b22)])) := fun tt hq => k327 tt (by
        refine XS.istore X274.here hx rfl (hb hby at_80) rfl (l' := l328) rfl ?_
        refine XS.aload X274.here hx rfl (hb hby at_82) rfl rfl ?_
        refine XS.iload X274.here hx rfl (hb hby at_84) rfl ?_
        exact hq)
      have f330 : Old Z n0 h39 := ((((((f17.keep Kq19 (allS (by omega) all0)).ext E22).ext E24).ext E26).keep Kq32 (allS (by omega) all0)).keep Kq39 (allS (by omega) all0))
      have f331 : Exa Z h39 b15 "java/lang/String" := (((((P190.ext E22).ext E24).ext E26).keep Kq32).keep Kq39)
      have f332 : Fld Z h39 b15 "java/lang/String" "value" "[B" (.ref t19) := (((((P191.ext E22).ext E24).ext E26).keep Kq32 (nin1 (by omega))).keep Kq39 (nin1 (by omega)))
      have f333 : Fld Z h39 b15 "java/lang/String" "coder" "B" (.int (0 : Int32)) := (((((P192.ext E22).ext E24).ext E26).keep Kq32 (nin1 (by omega))).keep Kq39 (nin1 (by omega)))
      have f334 : Arv Z h39 t19 kt19 .byte (3 : Int32) [(.int (nar .byte ((p0 &&& (255 : Int32)).toInt8.toInt32))), (.int (nar .byte ((p1 &&& (255 : Int32)).toInt8.toInt32))), (.int (nar .byte ((p2 &&& (255 : Int32)).toInt8.toInt32)))] (.int 0) := (((((P193.ext E22).ext E24).ext E26).keep Kq32 (nin1 (by omega))).keep Kq39 (nin1 (by omega)))
      obtain ⟨_, T335, L335, X335, ⟨x335, y335x, rfl, Nq335, Kq335, P335_0, P335_1, P335_2, P335_3, P335_4, P335_5⟩, k335a⟩ := callS' X274 hx hZ26 (y := (⟨"com/example/ceruline/ceruline/parsing/SourceReaderTextFromPinLaw", "steps", "(Lcom/example/ceruline/ceruline/parsing/SourceReader;I)V"⟩ : MethodName)) hown26 (wq hw 73 rfl) (wq hw 74 rfl) (wq hw 75 rfl) (wq hw 76 rfl) (by decide) (backC (W := 0) (rm_st0_1 l Z a0 hw zc fm b22 b24 b15 t19 kt19 (nar .byte ((p0 &&& (255 : Int32)).toInt8.toInt32)) (nar .byte ((p1 &&& (255 : Int32)).toInt8.toInt32)) (nar .byte ((p2 &&& (255 : Int32)).toInt8.toInt32)) (1 : Int32) (1 : Int32) h39 n0 (by omega) S_c hzc S_f hfm f330 P39_0 P39_1 P39_2 P39_3 P39_4 P39_5 f331 f332 f333 f334 (by omega) (by omega) (by omega)) hZ26 (wq hw 76 rfl) (wq hw 75 rfl) (by decide) (by decide)) e274 (argsL := [(.ref b22), (.int (1 : Int32))]) (rest := []) rfl rfl pd_16 rfl (by rw [hml]; rfl) (hb hby at_86) (Nat.le_of_eq rfl) (by decide) (by decide) k329
      have k335 : To p.tables e below S0 (T335.setTop (mkF m 89 l328 [])) := k335a
      have N335 := N274.app Nq335
      obtain ⟨h335, e335⟩ : ∃ z, T335.heap = z := ⟨_, rfl⟩
      rw [e335] at Kq335 P335_0 P335_1 P335_2 P335_3 P335_4 P335_5
      have z335 : h39.size ≤ h335.size := Kq335.1
      have C335 := C39.trans (CHr.keep Kq335 (sfS (Safe.exa hZ26.alike P39_0 (by decide) (by decide)) sf0) C39.1)
      have k336 : To p.tables e below S0 (T335.setTop (mkF m 91 l328 [(.ref b22)])) := fun tt hq => k335 tt (by
        refine XS.aload X335.here hx rfl (hb hby at_89) rfl rfl ?_
        exact hq)
      obtain ⟨_, T337, L337, X337, ⟨rfl, Nq337, eq337⟩, k337a⟩ := callV' X335 hx hZ26 (y := (⟨"com/example/ceruline/ceruline/parsing/SourceReader", "offset", "()I"⟩ : MethodName)) (z := (⟨"com/example/ceruline/ceruline/parsing/SourceReader", "offset", "()I"⟩ : MethodName)) hown26 (wq hw 107 rfl) (wq hw 108 rfl) (notFace_of_selects (args := #[]) (mvT hZ26 (wq hw 110 rfl))) (wq hw 110 rfl) (wq hw 109 rfl) (by decide) P335_0 (backC (W := 0) (rm_off l Z a0 hw b22 (1 : Int32) h335 n0 (by omega) P335_3) hZ26 (wq hw 111 rfl) (wq hw 32 rfl) (by decide) (by decide)) e335 (argsL := []) (rest := []) rfl rfl pd_17 rfl (by rw [hml]; rfl) (hb hby at_91) (Nat.le_of_eq rfl) (by decide) (by decide) k336
      have k337 : To p.tables e below S0 (T337.setTop (mkF m 94 l328 [(.int (1 : Int32))])) := k337a
      have N337 := N335.app Nq337
      have e337 : T337.heap = h335 := eq337
      let l338 : Array Slot := #[.val (.int p0), .val (.int p1), .val (.int p2), .val (.int mv_), .val (.ref b3), .val (.ref b15), .val (.ref b22), .val (.int (1 : Int32)), .val (.int (1 : Int32)), .val (.int (1 : Int32)), .unset, .unset, .unset]
      have k339 : To p.tables e below S0 (T337.setTop (mkF m 100 l338 [(.int (1 : Int32)), (.ref b22)])) := fun tt hq => k337 tt (by
        refine XS.istore X337.here hx rfl (hb hby at_94) rfl (l' := l338) rfl ?_
        refine XS.aload X337.here hx rfl (hb hby at_96) rfl rfl ?_
        refine XS.iload X337.here hx rfl (hb hby at_98) rfl ?_
        exact hq)
      have f340 : Old Z n0 h335 := (f330.keep Kq335 (allS (by omega) all0))
      have f341 : Exa Z h335 b15 "java/lang/String" := (f331.keep Kq335)
      have f342 : Fld Z h335 b15 "java/lang/String" "value" "[B" (.ref t19) := (f332.keep Kq335 (nin1 (by omega)))
      have f343 : Fld Z h335 b15 "java/lang/String" "coder" "B" (.int (0 : Int32)) := (f333.keep Kq335 (nin1 (by omega)))
      have f344 : Arv Z h335 t19 kt19 .byte (3 : Int32) [(.int (nar .byte ((p0 &&& (255 : Int32)).toInt8.toInt32))), (.int (nar .byte ((p1 &&& (255 : Int32)).toInt8.toInt32))), (.int (nar .byte ((p2 &&& (255 : Int32)).toInt8.toInt32)))] (.int 0) := (f334.keep Kq335 (nin1 (by omega)))
      obtain ⟨_, T345, L345, X345, ⟨x345, y345x, rfl, Nq345, Kq345, P345_0, P345_1, P345_2, P345_3, P345_4, P345_5⟩, k345a⟩ := callS' X337 hx hZ26 (y := (⟨"com/example/ceruline/ceruline/parsing/SourceReaderTextFromPinLaw", "steps", "(Lcom/example/ceruline/ceruline/parsing/SourceReader;I)V"⟩ : MethodName)) hown26 (wq hw 73 rfl) (wq hw 74 rfl) (wq hw 75 rfl) (wq hw 76 rfl) (by decide) (backC (W := 0) (rm_st1_1 l Z a0 hw zc fm b22 b24 b15 t19 kt19 (nar .byte ((p0 &&& (255 : Int32)).toInt8.toInt32)) (nar .byte ((p1 &&& (255 : Int32)).toInt8.toInt32)) (nar .byte ((p2 &&& (255 : Int32)).toInt8.toInt32)) x335 y335x h335 n0 (by omega) S_c hzc S_f hfm f340 P335_0 P335_1 P335_2 P335_3 P335_4 P335_5 f341 f342 f343 f344 (by omega) (by omega) (by omega)) hZ26 (wq hw 76 rfl) (wq hw 75 rfl) (by decide) (by decide)) e337 (argsL := [(.ref b22), (.int (1 : Int32))]) (rest := []) rfl rfl pd_16 rfl (by rw [hml]; rfl) (hb hby at_100) (Nat.le_of_eq rfl) (by decide) (by decide) k339
      have k345 : To p.tables e below S0 (T345.setTop (mkF m 103 l338 [])) := k345a
      have N345 := N337.app Nq345
      obtain ⟨h345, e345⟩ : ∃ z, T345.heap = z := ⟨_, rfl⟩
      rw [e345] at Kq345 P345_0 P345_1 P345_2 P345_3 P345_4 P345_5
      have z345 : h335.size ≤ h345.size := Kq345.1
      have C345 := C335.trans (CHr.keep Kq345 (sfS (Safe.exa hZ26.alike P335_0 (by decide) (by decide)) sf0) C335.1)
      have k346 : To p.tables e below S0 (T345.setTop (mkF m 105 l338 [(.ref b22)])) := fun tt hq => k345 tt (by
        refine XS.aload X345.here hx rfl (hb hby at_103) rfl rfl ?_
        exact hq)
      obtain ⟨_, T347, L347, X347, ⟨rfl, Nq347, eq347⟩, k347a⟩ := callV' X345 hx hZ26 (y := (⟨"com/example/ceruline/ceruline/parsing/SourceReader", "offset", "()I"⟩ : MethodName)) (z := (⟨"com/example/ceruline/ceruline/parsing/SourceReader", "offset", "()I"⟩ : MethodName)) hown26 (wq hw 107 rfl) (wq hw 108 rfl) (notFace_of_selects (args := #[]) (mvT hZ26 (wq hw 110 rfl))) (wq hw 110 rfl) (wq hw 109 rfl) (by decide) P345_0 (backC (W := 0) (rm_off l Z a0 hw b22 (2 : Int32) h345 n0 (by omega) P345_3) hZ26 (wq hw 111 rfl) (wq hw 32 rfl) (by decide) (by decide)) e345 (argsL := []) (rest := []) rfl rfl pd_17 rfl (by rw [hml]; rfl) (hb hby at_105) (Nat.le_of_eq rfl) (by decide) (by decide) k346
      have k347 : To p.tables e below S0 (T347.setTop (mkF m 108 l338 [(.int (2 : Int32))])) := k347a
      have N347 := N345.app Nq347
      have e347 : T347.heap = h345 := eq347
      let l348 : Array Slot := #[.val (.int p0), .val (.int p1), .val (.int p2), .val (.int mv_), .val (.ref b3), .val (.ref b15), .val (.ref b22), .val (.int (1 : Int32)), .val (.int (1 : Int32)), .val (.int (1 : Int32)), .val (.int (2 : Int32)), .unset, .unset]
      have k349 : To p.tables e below S0 (T347.setTop (mkF m 114 l348 [(.int (1 : Int32)), (.ref b22)])) := fun tt hq => k347 tt (by
        refine XS.istore X347.here hx rfl (hb hby at_108) rfl (l' := l348) rfl ?_
        refine XS.aload X347.here hx rfl (hb hby at_110) rfl rfl ?_
        refine XS.iload X347.here hx rfl (hb hby at_112) rfl ?_
        exact hq)
      have f350 : Old Z n0 h345 := (f340.keep Kq345 (allS (by omega) all0))
      have f351 : Exa Z h345 b15 "java/lang/String" := (f341.keep Kq345)
      have f352 : Fld Z h345 b15 "java/lang/String" "value" "[B" (.ref t19) := (f342.keep Kq345 (nin1 (by omega)))
      have f353 : Fld Z h345 b15 "java/lang/String" "coder" "B" (.int (0 : Int32)) := (f343.keep Kq345 (nin1 (by omega)))
      have f354 : Arv Z h345 t19 kt19 .byte (3 : Int32) [(.int (nar .byte ((p0 &&& (255 : Int32)).toInt8.toInt32))), (.int (nar .byte ((p1 &&& (255 : Int32)).toInt8.toInt32))), (.int (nar .byte ((p2 &&& (255 : Int32)).toInt8.toInt32)))] (.int 0) := (f344.keep Kq345 (nin1 (by omega)))
      obtain ⟨_, T355, L355, X355, ⟨a355, t355, k355x, rfl, Nq355, ya355, yt355, Kq355, P3550, P3551, P3552, P3553⟩, k355a⟩ := callV' X347 hx hZ26 (y := (⟨"com/example/ceruline/ceruline/parsing/SourceReader", "textFrom", "(I)Ljava/lang/String;"⟩ : MethodName)) (z := (⟨"com/example/ceruline/ceruline/parsing/SourceReader", "textFrom", "(I)Ljava/lang/String;"⟩ : MethodName)) hown26 (wq hw 112 rfl) (wq hw 113 rfl) (notFace_of_selects (args := #[]) (mvT hZ26 (wq hw 115 rfl))) (wq hw 115 rfl) (wq hw 114 rfl) (by decide) P345_0 (backC (W := 0) (rm_tf1_2 l Z a0 hw zc fm b22 b15 t19 kt19 (nar .byte ((p0 &&& (255 : Int32)).toInt8.toInt32)) (nar .byte ((p1 &&& (255 : Int32)).toInt8.toInt32)) (nar .byte ((p2 &&& (255 : Int32)).toInt8.toInt32)) h345 n0 (by omega) S_c hzc S_f hfm f350 P345_2 P345_3 f351 f352 f353 f354 (by omega)) hZ26 (wq hw 116 rfl) (wq hw 32 rfl) (by decide) (by decide)) e347 (argsL := [(.int (1 : Int32))]) (rest := []) rfl rfl pd_21 rfl (by rw [hml]; rfl) (hb hby at_114) (Nat.le_of_eq rfl) (by decide) (by decide) k349
      have k355 : To p.tables e below S0 (T355.setTop (mkF m 117 l348 [(.ref a355)])) := k355a
      have N355 := N347.app Nq355
      obtain ⟨h355, e355⟩ : ∃ z, T355.heap = z := ⟨_, rfl⟩
      rw [e355] at Kq355 ya355 yt355 P3550 P3551 P3552 P3553
      have z355 : h345.size ≤ h355.size := Kq355.1
      have C355 := C345.trans (CHr.keep Kq355 sf0 C345.1)
      let l356 : Array Slot := #[.val (.int p0), .val (.int p1), .val (.int p2), .val (.int mv_), .val (.ref b3), .val (.ref b15), .val (.ref b22), .val (.int (1 : Int32)), .val (.int (1 : Int32)), .val (.int (1 : Int32)), .val (.int (2 : Int32)), .val (.ref a355), .unset]
      have k357 : To p.tables e below S0 (T355.setTop (mkF m 123 l356 [(.int (2 : Int32)), (.ref b22)])) := fun tt hq => k355 tt (by
        refine XS.astore X355.here hx rfl (hb hby at_117) rfl rfl (l' := l356) rfl ?_
        refine XS.aload X355.here hx rfl (hb hby at_119) rfl rfl ?_
        refine XS.iload X355.here hx rfl (hb hby at_121) rfl ?_
        exact hq)
      have f358 : Old Z n0 h355 := (f350.keep Kq355 all0)
      have f359 : Fld Z h355 b22 "com/example/ceruline/ceruline/parsing/SourceReader" "text" "Ljava/lang/String;" (.ref b15) := (P345_2.keep Kq355 nin0)
      have f360 : Fld Z h355 b22 "com/example/ceruline/ceruline/parsing/SourceReader" "offset" "I" (.int (2 : Int32)) := (P345_3.keep Kq355 nin0)
      have f361 : Exa Z h355 b15 "java/lang/String" := (f351.keep Kq355)
      have f362 : Fld Z h355 b15 "java/lang/String" "value" "[B" (.ref t19) := (f352.keep Kq355 nin0)
      have f363 : Fld Z h355 b15 "java/lang/String" "coder" "B" (.int (0 : Int32)) := (f353.keep Kq355 nin0)
      have f364 : Arv Z h355 t19 kt19 .byte (3 : Int32) [(.int (nar .byte ((p0 &&& (255 : Int32)).toInt8.toInt32))), (.int (nar .byte ((p1 &&& (255 : Int32)).toInt8.toInt32))), (.int (nar .byte ((p2 &&& (255 : Int32)).toInt8.toInt32)))] (.int 0) := (f354.keep Kq355 nin0)
      have f366 : Exa Z h355 b22 "com/example/ceruline/ceruline/parsing/SourceReader" := (P345_0.keep Kq355)
      obtain ⟨_, T365, L365, X365, ⟨a365, t365, k365x, rfl, Nq365, ya365, yt365, Kq365, P3650, P3651, P3652, P3653⟩, k365a, Cq365, hS365, hZ365, hown365⟩ := callVW X355 hx hZ26 (y := (⟨"com/example/ceruline/ceruline/parsing/SourceReader", "textFrom", "(I)Ljava/lang/String;"⟩ : MethodName)) (z := (⟨"com/example/ceruline/ceruline/parsing/SourceReader", "textFrom", "(I)Ljava/lang/String;"⟩ : MethodName)) hown26 hS26 (by omega) (wq hw 112 rfl) (wq hw 113 rfl) (notFace_of_selects (args := #[]) (mvT hZ26 (wq hw 115 rfl))) (wq hw 115 rfl) (wq hw 114 rfl) (by decide) f366 (backOfW (W := 0) (rm_tf2_2 l Z a0 hw zc fm b22 b15 t19 kt19 (nar .byte ((p0 &&& (255 : Int32)).toInt8.toInt32)) (nar .byte ((p1 &&& (255 : Int32)).toInt8.toInt32)) (nar .byte ((p2 &&& (255 : Int32)).toInt8.toInt32)) h355 n0 (by omega) S_c hzc S_f hfm f358 f359 f360 f361 f362 f363 f364 (by omega)) hZ26 (wq hw 116 rfl) (wq hw 32 rfl) (by decide) (by decide) (own_EW hw) C355.1 all0) e355 (argsL := [(.int (2 : Int32))]) (rest := []) rfl rfl pd_21 rfl (by rw [hml]; rfl) (hb hby at_123) (Nat.le_of_eq rfl) (by decide) (by decide) k357
      have k365 : To p.tables e below S0 (T365.setTop (mkF m 126 l356 [(.ref a365)])) := k365a
      have N365 := N355.app Nq365
      obtain ⟨h365, e365⟩ : ∃ z, T365.heap = z := ⟨_, rfl⟩
      rw [e365] at Kq365 ya365 yt365 P3650 P3651 P3652 P3653 Cq365 hS365
      have z365 : h355.size ≤ h365.size := Kq365.1
      have C365 := C355.trans Cq365
      let l367 : Array Slot := #[.val (.int p0), .val (.int p1), .val (.int p2), .val (.int mv_), .val (.ref b3), .val (.ref b15), .val (.ref b22), .val (.int (1 : Int32)), .val (.int (1 : Int32)), .val (.int (1 : Int32)), .val (.int (2 : Int32)), .val (.ref a355), .val (.ref a365)]
      have k368 : To p.tables e below S0 (T365.setTop (mkF m 149 l367 [(.ref a365)])) := fun tt hq => k365 tt (by
        refine XS.astore X365.here hx rfl (hb hby at_126) rfl rfl (l' := l367) rfl ?_
        refine XS.iload X365.here hx rfl (hb hby at_128) rfl ?_
        refine XS.iload X365.here hx rfl (hb hby at_130) rfl ?_
        refine XS.icmpNo X365.here hx rfl (hb hby at_132) rfl (teq (by decide)).2 ?_
        refine XS.iload X365.here hx rfl (hb hby at_135) rfl ?_
        refine XS.iload X365.here hx rfl (hb hby at_137) rfl ?_
        refine XS.iload X365.here hx rfl (hb hby at_139) rfl ?_
        refine XS.iadd X365.here hx rfl (hb hby at_141) rfl ?_
        refine XS.icmpYes X365.here hx rfl (pc0 := 142) (pc' := 147) rfl (hb hby at_142) rfl (teq (by decide)).1 (by decide) (by decide) ?_
        refine XS.aload X365.here hx rfl (hb hby at_147) rfl rfl ?_
        exact hq)
      obtain ⟨_, T369, L369, X369, ⟨rfl, Nq369, eq369⟩, k369a⟩ := callV' X365 hx hZ365 (y := (⟨"java/lang/String", "isEmpty", "()Z"⟩ : MethodName)) (z := (⟨"java/lang/String", "isEmpty", "()Z"⟩ : MethodName)) hown365 (wq hw 143 rfl) (wq hw 144 rfl) (notFace_of_selects (args := #[]) (mvT hZ365 (wq hw 146 rfl))) (wq hw 146 rfl) (wq hw 145 rfl) (by decide) P3650 (backC (W := 0) (rm_em l Z a0 hw a365 t365 k365x h365 n0 (by omega) P3650 P3651 P3652 P3653) hZ365 (wq hw 147 rfl) (wq hw 3 rfl) (by decide) (by decide)) e365 (argsL := []) (rest := []) rfl rfl pd_6 rfl (by rw [hml]; rfl) (hb hby at_149) (Nat.le_of_eq rfl) (by decide) (by decide) k368
      have k369 : To p.tables e below S0 (T369.setTop (mkF m 152 l367 [(.int (1 : Int32))])) := k369a
      have N369 := N365.app Nq369
      have e369 : T369.heap = h365 := eq369
      have k370 : To p.tables e below S0 (T369.setTop (mkF m 159 l367 [(.ref a355)])) := fun tt hq => k369 tt (by
        refine XS.ifYes X369.here hx rfl (pc0 := 152) (pc' := 157) rfl (hb hby at_152) rfl ((if0 _ _).trans (feq (by decide)).2) (by decide) (by decide) ?_
        refine XS.aload X369.here hx rfl (hb hby at_157) rfl rfl ?_
        exact hq)
      have f371 : Old Z n0 h365 := (f358.keep Kq365 all0)
      have f372 : Exa Z h365 a355 "java/lang/String" := (P3550.keep Kq365)
      have f373 : Fld Z h365 a355 "java/lang/String" "value" "[B" (.ref t355) := (P3551.keep Kq365 nin0)
      have f374 : Fld Z h365 a355 "java/lang/String" "coder" "B" (.int (0 : Int32)) := (P3552.keep Kq365 nin0)
      have f375 : Arv Z h365 t355 k355x .byte (1 : Int32) [(.int (nar .byte ((p1 &&& (255 : Int32)).toInt8.toInt32)))] (.int 0) := (P3553.keep Kq365 nin0)
      obtain ⟨_, T376, L376, X376, ⟨rfl, Nq376, eq376⟩, k376a⟩ := callV' X369 hx hZ365 (y := (⟨"java/lang/String", "length", "()I"⟩ : MethodName)) (z := (⟨"java/lang/String", "length", "()I"⟩ : MethodName)) hown365 (wq hw 148 rfl) (wq hw 123 rfl) (notFace_of_selects (args := #[]) (mvT hZ365 (wq hw 125 rfl))) (wq hw 125 rfl) (wq hw 124 rfl) (by decide) f372 (backC (W := 0) (rm_len1 l Z a0 hw zc a355 t355 k355x (nar .byte ((p1 &&& (255 : Int32)).toInt8.toInt32)) h365 n0 (by omega) S_c hzc f371 f372 f373 f374 f375) hZ365 (wq hw 126 rfl) (wq hw 3 rfl) (by decide) (by decide)) e369 (argsL := []) (rest := []) rfl rfl pd_17 rfl (by rw [hml]; rfl) (hb hby at_159) (Nat.le_of_eq rfl) (by decide) (by decide) k370
      have k376 : To p.tables e below S0 (T376.setTop (mkF m 162 l367 [(.int (1 : Int32))])) := k376a
      have N376 := N369.app Nq376
      have e376 : T376.heap = h365 := eq376
      have k377 : To p.tables e below S0 (T376.setTop (mkF m 178 l367 [(.int (0 : Int32)), (.ref a355)])) := fun tt hq => k376 tt (by
        refine XS.iload X376.here hx rfl (hb hby at_162) rfl ?_
        refine XS.icmpYes X376.here hx rfl (pc0 := 164) (pc' := 169) rfl (hb hby at_164) rfl (teq (by decide)).1 (by decide) (by decide) ?_
        refine XS.iload X376.here hx rfl (hb hby at_169) rfl ?_
        refine XS.iconst X376.here hx rfl (hb hby at_171) ?_
        refine XS.icmpNo X376.here hx rfl (hb hby at_172) rfl (flt (by decide)).1 ?_
        refine XS.aload X376.here hx rfl (hb hby at_175) rfl rfl ?_
        refine XS.iconst X376.here hx rfl (hb hby at_177) ?_
        exact hq)
      obtain ⟨_, T378, L378, X378, ⟨rfl, Nq378, eq378⟩, k378a⟩ := callV' X376 hx hZ365 (y := (⟨"java/lang/String", "charAt", "(I)C"⟩ : MethodName)) (z := (⟨"java/lang/String", "charAt", "(I)C"⟩ : MethodName)) hown365 (wq hw 168 rfl) (wq hw 169 rfl) (notFace_of_selects (args := #[]) (mvT hZ365 (wq hw 171 rfl))) (wq hw 171 rfl) (wq hw 170 rfl) (by decide) f372 (backC (W := 0) (rm_ca1_0 l Z a0 hw zc fm a355 t355 k355x (nar .byte ((p1 &&& (255 : Int32)).toInt8.toInt32)) (p1 &&& (255 : Int32)) h365 n0 (by omega) S_c hzc S_f hfm f371 f372 f373 f374 f375 (own_b255 (own_m255 _))) hZ365 (wq hw 172 rfl) (wq hw 3 rfl) (by decide) (by decide)) e376 (argsL := [(.int (0 : Int32))]) (rest := []) rfl rfl pd_25 rfl (by rw [hml]; rfl) (hb hby at_178) (Nat.le_of_eq rfl) (by decide) (by decide) k377
      have k378 : To p.tables e below S0 (T378.setTop (mkF m 181 l367 [(.int (p1 &&& (255 : Int32)))])) := k378a
      have N378 := N376.app Nq378
      have e378 : T378.heap = h365 := eq378
      have f379 : Arv Z h365 b3 c3 .char (3 : Int32) [(.int (p0 &&& (255 : Int32))), (.int (p1 &&& (255 : Int32))), (.int (p2 &&& (255 : Int32)))] (.int (0 : Int32)) := ((((((((((f18.keep Kq19 (nin1 (by omega))).ext E22).ext E24).ext E26).keep Kq32 (nin1 (by omega))).keep Kq39 (nin1 (by omega))).keep Kq335 (nin1 (by omega))).keep Kq345 (nin1 (by omega))).keep Kq355 nin0).keep Kq365 nin0)
      have k380 : To p.tables e below S0 (T378.setTop (mkF m 185 l367 [(.int (1 : Int32)), (.ref b3), (.int (p1 &&& (255 : Int32)))])) := fun tt hq => k378 tt (by
        refine XS.aload X378.here hx rfl (hb hby at_181) rfl rfl ?_
        refine XS.iload X378.here hx rfl (hb hby at_183) rfl ?_
        exact hq)
      obtain ⟨cl381, Ar381, -, S381, -, G381, -⟩ := id f379
      have hi381 := inb_of (j := (1 : Int32)) S381 ⟨by decide, by decide⟩
      have st381 := fun tt => X378.caload hx (j := (1 : Int32)) (v := (.int (p1 &&& (255 : Int32)))) (by rw [e378]; exact Ar381.1) (State.isArrayOf_alike hZ365.alike Ar381.2.1) Ar381.2.2 hi381 (G381.at hi381 rfl) (g := (mkF m 185 l367 [(.int (1 : Int32)), (.ref b3), (.int (p1 &&& (255 : Int32)))])) rfl rfl (hb hby at_185) tt
      have k381 : To p.tables e below S0 (T378.setTop (mkF m 186 l367 [(.int (p1 &&& (255 : Int32))), (.int (p1 &&& (255 : Int32)))])) := fun tt hq => k380 tt (st381 tt hq)
      have k382 : To p.tables e below S0 (T378.setTop (mkF m 240 l367 [(.int (1 : Int32))])) := fun tt hq => k381 tt (by
        refine XS.icmpYes X378.here hx rfl (pc0 := 186) (pc' := 191) rfl (hb hby at_186) rfl (teq rfl).1 (by decide) (by decide) ?_
        refine XS.iload X378.here hx rfl (hb hby at_191) rfl ?_
        refine XS.iconst X378.here hx rfl (hb hby at_193) ?_
        refine XS.icmpYes X378.here hx rfl (pc0 := 194) (pc' := 215) rfl (hb hby at_194) rfl (tlt (by decide)).1 (by decide) (by decide) ?_
        refine XS.iload X378.here hx rfl (hb hby at_215) rfl ?_
        refine XS.iconst X378.here hx rfl (hb hby at_217) ?_
        refine XS.icmpYes X378.here hx rfl (pc0 := 218) (pc' := 239) rfl (hb hby at_218) rfl (tlt (by decide)).1 (by decide) (by decide) ?_
        refine XS.iconst X378.here hx rfl (hb hby at_239) ?_
        exact hq)
      refine retIntW X378 hx hZ365 (own_EW hw) hS365 (by omega) C365 e378 hret hlk (by simp) rfl (hb hby at_240) k382 ?_ (by decide) (by decide)
      exact ⟨rfl, N378⟩
    · -- pc 80: (2 : Int32)
      have k383 : To p.tables e below S0 (T274.setTop (mkF m 80 l272 [(.int (2 : Int32))])) := by have hq := k274; rw [ht275] at hq; exact hq
      let l384 : Array Slot := #[.val (.int p0), .val (.int p1), .val (.int p2), .val (.int mv_), .val (.ref b3), .val (.ref b15), .val (.ref b22), .val (.int (1 : Int32)), .val (.int (2 : Int32)), .unset, .unset, .unset, .unset]
      have k385 : To p.tables e below S0 (T274.setTop (mkF m 86 l384 [(.int (1 : Int32)), (.ref b22)])) := fun tt hq => k383 tt (by
        refine XS.istore X274.here hx rfl (hb hby at_80) rfl (l' := l384) rfl ?_
        refine XS.aload X274.here hx rfl (hb hby at_82) rfl rfl ?_
        refine XS.iload X274.here hx rfl (hb hby at_84) rfl ?_
        exact hq)
      have f386 : Old Z n0 h39 := ((((((f17.keep Kq19 (allS (by omega) all0)).ext E22).ext E24).ext E26).keep Kq32 (allS (by omega) all0)).keep Kq39 (allS (by omega) all0))
      have f387 : Exa Z h39 b15 "java/lang/String" := (((((P190.ext E22).ext E24).ext E26).keep Kq32).keep Kq39)
      have f388 : Fld Z h39 b15 "java/lang/String" "value" "[B" (.ref t19) := (((((P191.ext E22).ext E24).ext E26).keep Kq32 (nin1 (by omega))).keep Kq39 (nin1 (by omega)))
      have f389 : Fld Z h39 b15 "java/lang/String" "coder" "B" (.int (0 : Int32)) := (((((P192.ext E22).ext E24).ext E26).keep Kq32 (nin1 (by omega))).keep Kq39 (nin1 (by omega)))
      have f390 : Arv Z h39 t19 kt19 .byte (3 : Int32) [(.int (nar .byte ((p0 &&& (255 : Int32)).toInt8.toInt32))), (.int (nar .byte ((p1 &&& (255 : Int32)).toInt8.toInt32))), (.int (nar .byte ((p2 &&& (255 : Int32)).toInt8.toInt32)))] (.int 0) := (((((P193.ext E22).ext E24).ext E26).keep Kq32 (nin1 (by omega))).keep Kq39 (nin1 (by omega)))
      obtain ⟨_, T391, L391, X391, ⟨x391, y391x, rfl, Nq391, Kq391, P391_0, P391_1, P391_2, P391_3, P391_4, P391_5⟩, k391a⟩ := callS' X274 hx hZ26 (y := (⟨"com/example/ceruline/ceruline/parsing/SourceReaderTextFromPinLaw", "steps", "(Lcom/example/ceruline/ceruline/parsing/SourceReader;I)V"⟩ : MethodName)) hown26 (wq hw 73 rfl) (wq hw 74 rfl) (wq hw 75 rfl) (wq hw 76 rfl) (by decide) (backC (W := 0) (rm_st0_1 l Z a0 hw zc fm b22 b24 b15 t19 kt19 (nar .byte ((p0 &&& (255 : Int32)).toInt8.toInt32)) (nar .byte ((p1 &&& (255 : Int32)).toInt8.toInt32)) (nar .byte ((p2 &&& (255 : Int32)).toInt8.toInt32)) (1 : Int32) (1 : Int32) h39 n0 (by omega) S_c hzc S_f hfm f386 P39_0 P39_1 P39_2 P39_3 P39_4 P39_5 f387 f388 f389 f390 (by omega) (by omega) (by omega)) hZ26 (wq hw 76 rfl) (wq hw 75 rfl) (by decide) (by decide)) e274 (argsL := [(.ref b22), (.int (1 : Int32))]) (rest := []) rfl rfl pd_16 rfl (by rw [hml]; rfl) (hb hby at_86) (Nat.le_of_eq rfl) (by decide) (by decide) k385
      have k391 : To p.tables e below S0 (T391.setTop (mkF m 89 l384 [])) := k391a
      have N391 := N274.app Nq391
      obtain ⟨h391, e391⟩ : ∃ z, T391.heap = z := ⟨_, rfl⟩
      rw [e391] at Kq391 P391_0 P391_1 P391_2 P391_3 P391_4 P391_5
      have z391 : h39.size ≤ h391.size := Kq391.1
      have C391 := C39.trans (CHr.keep Kq391 (sfS (Safe.exa hZ26.alike P39_0 (by decide) (by decide)) sf0) C39.1)
      have k392 : To p.tables e below S0 (T391.setTop (mkF m 91 l384 [(.ref b22)])) := fun tt hq => k391 tt (by
        refine XS.aload X391.here hx rfl (hb hby at_89) rfl rfl ?_
        exact hq)
      obtain ⟨_, T393, L393, X393, ⟨rfl, Nq393, eq393⟩, k393a⟩ := callV' X391 hx hZ26 (y := (⟨"com/example/ceruline/ceruline/parsing/SourceReader", "offset", "()I"⟩ : MethodName)) (z := (⟨"com/example/ceruline/ceruline/parsing/SourceReader", "offset", "()I"⟩ : MethodName)) hown26 (wq hw 107 rfl) (wq hw 108 rfl) (notFace_of_selects (args := #[]) (mvT hZ26 (wq hw 110 rfl))) (wq hw 110 rfl) (wq hw 109 rfl) (by decide) P391_0 (backC (W := 0) (rm_off l Z a0 hw b22 (1 : Int32) h391 n0 (by omega) P391_3) hZ26 (wq hw 111 rfl) (wq hw 32 rfl) (by decide) (by decide)) e391 (argsL := []) (rest := []) rfl rfl pd_17 rfl (by rw [hml]; rfl) (hb hby at_91) (Nat.le_of_eq rfl) (by decide) (by decide) k392
      have k393 : To p.tables e below S0 (T393.setTop (mkF m 94 l384 [(.int (1 : Int32))])) := k393a
      have N393 := N391.app Nq393
      have e393 : T393.heap = h391 := eq393
      let l394 : Array Slot := #[.val (.int p0), .val (.int p1), .val (.int p2), .val (.int mv_), .val (.ref b3), .val (.ref b15), .val (.ref b22), .val (.int (1 : Int32)), .val (.int (2 : Int32)), .val (.int (1 : Int32)), .unset, .unset, .unset]
      have k395 : To p.tables e below S0 (T393.setTop (mkF m 100 l394 [(.int (2 : Int32)), (.ref b22)])) := fun tt hq => k393 tt (by
        refine XS.istore X393.here hx rfl (hb hby at_94) rfl (l' := l394) rfl ?_
        refine XS.aload X393.here hx rfl (hb hby at_96) rfl rfl ?_
        refine XS.iload X393.here hx rfl (hb hby at_98) rfl ?_
        exact hq)
      have f396 : Old Z n0 h391 := (f386.keep Kq391 (allS (by omega) all0))
      have f397 : Exa Z h391 b15 "java/lang/String" := (f387.keep Kq391)
      have f398 : Fld Z h391 b15 "java/lang/String" "value" "[B" (.ref t19) := (f388.keep Kq391 (nin1 (by omega)))
      have f399 : Fld Z h391 b15 "java/lang/String" "coder" "B" (.int (0 : Int32)) := (f389.keep Kq391 (nin1 (by omega)))
      have f400 : Arv Z h391 t19 kt19 .byte (3 : Int32) [(.int (nar .byte ((p0 &&& (255 : Int32)).toInt8.toInt32))), (.int (nar .byte ((p1 &&& (255 : Int32)).toInt8.toInt32))), (.int (nar .byte ((p2 &&& (255 : Int32)).toInt8.toInt32)))] (.int 0) := (f390.keep Kq391 (nin1 (by omega)))
      obtain ⟨_, T401, L401, X401, ⟨x401, y401x, rfl, Nq401, Kq401, P401_0, P401_1, P401_2, P401_3, P401_4, P401_5⟩, k401a⟩ := callS' X393 hx hZ26 (y := (⟨"com/example/ceruline/ceruline/parsing/SourceReaderTextFromPinLaw", "steps", "(Lcom/example/ceruline/ceruline/parsing/SourceReader;I)V"⟩ : MethodName)) hown26 (wq hw 73 rfl) (wq hw 74 rfl) (wq hw 75 rfl) (wq hw 76 rfl) (by decide) (backC (W := 0) (rm_st1_2 l Z a0 hw zc fm b22 b24 b15 t19 kt19 (nar .byte ((p0 &&& (255 : Int32)).toInt8.toInt32)) (nar .byte ((p1 &&& (255 : Int32)).toInt8.toInt32)) (nar .byte ((p2 &&& (255 : Int32)).toInt8.toInt32)) x391 y391x h391 n0 (by omega) S_c hzc S_f hfm f396 P391_0 P391_1 P391_2 P391_3 P391_4 P391_5 f397 f398 f399 f400 (by omega) (by omega) (by omega)) hZ26 (wq hw 76 rfl) (wq hw 75 rfl) (by decide) (by decide)) e393 (argsL := [(.ref b22), (.int (2 : Int32))]) (rest := []) rfl rfl pd_16 rfl (by rw [hml]; rfl) (hb hby at_100) (Nat.le_of_eq rfl) (by decide) (by decide) k395
      have k401 : To p.tables e below S0 (T401.setTop (mkF m 103 l394 [])) := k401a
      have N401 := N393.app Nq401
      obtain ⟨h401, e401⟩ : ∃ z, T401.heap = z := ⟨_, rfl⟩
      rw [e401] at Kq401 P401_0 P401_1 P401_2 P401_3 P401_4 P401_5
      have z401 : h391.size ≤ h401.size := Kq401.1
      have C401 := C391.trans (CHr.keep Kq401 (sfS (Safe.exa hZ26.alike P391_0 (by decide) (by decide)) sf0) C391.1)
      have k402 : To p.tables e below S0 (T401.setTop (mkF m 105 l394 [(.ref b22)])) := fun tt hq => k401 tt (by
        refine XS.aload X401.here hx rfl (hb hby at_103) rfl rfl ?_
        exact hq)
      obtain ⟨_, T403, L403, X403, ⟨rfl, Nq403, eq403⟩, k403a⟩ := callV' X401 hx hZ26 (y := (⟨"com/example/ceruline/ceruline/parsing/SourceReader", "offset", "()I"⟩ : MethodName)) (z := (⟨"com/example/ceruline/ceruline/parsing/SourceReader", "offset", "()I"⟩ : MethodName)) hown26 (wq hw 107 rfl) (wq hw 108 rfl) (notFace_of_selects (args := #[]) (mvT hZ26 (wq hw 110 rfl))) (wq hw 110 rfl) (wq hw 109 rfl) (by decide) P401_0 (backC (W := 0) (rm_off l Z a0 hw b22 (3 : Int32) h401 n0 (by omega) P401_3) hZ26 (wq hw 111 rfl) (wq hw 32 rfl) (by decide) (by decide)) e401 (argsL := []) (rest := []) rfl rfl pd_17 rfl (by rw [hml]; rfl) (hb hby at_105) (Nat.le_of_eq rfl) (by decide) (by decide) k402
      have k403 : To p.tables e below S0 (T403.setTop (mkF m 108 l394 [(.int (3 : Int32))])) := k403a
      have N403 := N401.app Nq403
      have e403 : T403.heap = h401 := eq403
      let l404 : Array Slot := #[.val (.int p0), .val (.int p1), .val (.int p2), .val (.int mv_), .val (.ref b3), .val (.ref b15), .val (.ref b22), .val (.int (1 : Int32)), .val (.int (2 : Int32)), .val (.int (1 : Int32)), .val (.int (3 : Int32)), .unset, .unset]
      have k405 : To p.tables e below S0 (T403.setTop (mkF m 114 l404 [(.int (1 : Int32)), (.ref b22)])) := fun tt hq => k403 tt (by
        refine XS.istore X403.here hx rfl (hb hby at_108) rfl (l' := l404) rfl ?_
        refine XS.aload X403.here hx rfl (hb hby at_110) rfl rfl ?_
        refine XS.iload X403.here hx rfl (hb hby at_112) rfl ?_
        exact hq)
      have f406 : Old Z n0 h401 := (f396.keep Kq401 (allS (by omega) all0))
      have f407 : Exa Z h401 b15 "java/lang/String" := (f397.keep Kq401)
      have f408 : Fld Z h401 b15 "java/lang/String" "value" "[B" (.ref t19) := (f398.keep Kq401 (nin1 (by omega)))
      have f409 : Fld Z h401 b15 "java/lang/String" "coder" "B" (.int (0 : Int32)) := (f399.keep Kq401 (nin1 (by omega)))
      have f410 : Arv Z h401 t19 kt19 .byte (3 : Int32) [(.int (nar .byte ((p0 &&& (255 : Int32)).toInt8.toInt32))), (.int (nar .byte ((p1 &&& (255 : Int32)).toInt8.toInt32))), (.int (nar .byte ((p2 &&& (255 : Int32)).toInt8.toInt32)))] (.int 0) := (f400.keep Kq401 (nin1 (by omega)))
      obtain ⟨_, T411, L411, X411, ⟨a411, t411, k411x, rfl, Nq411, ya411, yt411, Kq411, P4110, P4111, P4112, P4113⟩, k411a⟩ := callV' X403 hx hZ26 (y := (⟨"com/example/ceruline/ceruline/parsing/SourceReader", "textFrom", "(I)Ljava/lang/String;"⟩ : MethodName)) (z := (⟨"com/example/ceruline/ceruline/parsing/SourceReader", "textFrom", "(I)Ljava/lang/String;"⟩ : MethodName)) hown26 (wq hw 112 rfl) (wq hw 113 rfl) (notFace_of_selects (args := #[]) (mvT hZ26 (wq hw 115 rfl))) (wq hw 115 rfl) (wq hw 114 rfl) (by decide) P401_0 (backC (W := 0) (rm_tf1_3 l Z a0 hw zc fm b22 b15 t19 kt19 (nar .byte ((p0 &&& (255 : Int32)).toInt8.toInt32)) (nar .byte ((p1 &&& (255 : Int32)).toInt8.toInt32)) (nar .byte ((p2 &&& (255 : Int32)).toInt8.toInt32)) h401 n0 (by omega) S_c hzc S_f hfm f406 P401_2 P401_3 f407 f408 f409 f410 (by omega)) hZ26 (wq hw 116 rfl) (wq hw 32 rfl) (by decide) (by decide)) e403 (argsL := [(.int (1 : Int32))]) (rest := []) rfl rfl pd_21 rfl (by rw [hml]; rfl) (hb hby at_114) (Nat.le_of_eq rfl) (by decide) (by decide) k405
      have k411 : To p.tables e below S0 (T411.setTop (mkF m 117 l404 [(.ref a411)])) := k411a
      have N411 := N403.app Nq411
      obtain ⟨h411, e411⟩ : ∃ z, T411.heap = z := ⟨_, rfl⟩
      rw [e411] at Kq411 ya411 yt411 P4110 P4111 P4112 P4113
      have z411 : h401.size ≤ h411.size := Kq411.1
      have C411 := C401.trans (CHr.keep Kq411 sf0 C401.1)
      let l412 : Array Slot := #[.val (.int p0), .val (.int p1), .val (.int p2), .val (.int mv_), .val (.ref b3), .val (.ref b15), .val (.ref b22), .val (.int (1 : Int32)), .val (.int (2 : Int32)), .val (.int (1 : Int32)), .val (.int (3 : Int32)), .val (.ref a411), .unset]
      have k413 : To p.tables e below S0 (T411.setTop (mkF m 123 l412 [(.int (3 : Int32)), (.ref b22)])) := fun tt hq => k411 tt (by
        refine XS.astore X411.here hx rfl (hb hby at_117) rfl rfl (l' := l412) rfl ?_
        refine XS.aload X411.here hx rfl (hb hby at_119) rfl rfl ?_
        refine XS.iload X411.here hx rfl (hb hby at_121) rfl ?_
        exact hq)
      have f414 : Old Z n0 h411 := (f406.keep Kq411 all0)
      have f415 : Fld Z h411 b22 "com/example/ceruline/ceruline/parsing/SourceReader" "text" "Ljava/lang/String;" (.ref b15) := (P401_2.keep Kq411 nin0)
      have f416 : Fld Z h411 b22 "com/example/ceruline/ceruline/parsing/SourceReader" "offset" "I" (.int (3 : Int32)) := (P401_3.keep Kq411 nin0)
      have f417 : Exa Z h411 b15 "java/lang/String" := (f407.keep Kq411)
      have f418 : Fld Z h411 b15 "java/lang/String" "value" "[B" (.ref t19) := (f408.keep Kq411 nin0)
      have f419 : Fld Z h411 b15 "java/lang/String" "coder" "B" (.int (0 : Int32)) := (f409.keep Kq411 nin0)
      have f420 : Arv Z h411 t19 kt19 .byte (3 : Int32) [(.int (nar .byte ((p0 &&& (255 : Int32)).toInt8.toInt32))), (.int (nar .byte ((p1 &&& (255 : Int32)).toInt8.toInt32))), (.int (nar .byte ((p2 &&& (255 : Int32)).toInt8.toInt32)))] (.int 0) := (f410.keep Kq411 nin0)
      have f422 : Exa Z h411 b22 "com/example/ceruline/ceruline/parsing/SourceReader" := (P401_0.keep Kq411)
      obtain ⟨_, T421, L421, X421, ⟨a421, t421, k421x, rfl, Nq421, ya421, yt421, Kq421, P4210, P4211, P4212, P4213⟩, k421a, Cq421, hS421, hZ421, hown421⟩ := callVW X411 hx hZ26 (y := (⟨"com/example/ceruline/ceruline/parsing/SourceReader", "textFrom", "(I)Ljava/lang/String;"⟩ : MethodName)) (z := (⟨"com/example/ceruline/ceruline/parsing/SourceReader", "textFrom", "(I)Ljava/lang/String;"⟩ : MethodName)) hown26 hS26 (by omega) (wq hw 112 rfl) (wq hw 113 rfl) (notFace_of_selects (args := #[]) (mvT hZ26 (wq hw 115 rfl))) (wq hw 115 rfl) (wq hw 114 rfl) (by decide) f422 (backOfW (W := 0) (rm_tf3_3 l Z a0 hw zc fm b22 b15 t19 kt19 (nar .byte ((p0 &&& (255 : Int32)).toInt8.toInt32)) (nar .byte ((p1 &&& (255 : Int32)).toInt8.toInt32)) (nar .byte ((p2 &&& (255 : Int32)).toInt8.toInt32)) h411 n0 (by omega) S_c hzc S_f hfm f414 f415 f416 f417 f418 f419 f420 (by omega)) hZ26 (wq hw 116 rfl) (wq hw 32 rfl) (by decide) (by decide) (own_EW hw) C411.1 all0) e411 (argsL := [(.int (3 : Int32))]) (rest := []) rfl rfl pd_21 rfl (by rw [hml]; rfl) (hb hby at_123) (Nat.le_of_eq rfl) (by decide) (by decide) k413
      have k421 : To p.tables e below S0 (T421.setTop (mkF m 126 l412 [(.ref a421)])) := k421a
      have N421 := N411.app Nq421
      obtain ⟨h421, e421⟩ : ∃ z, T421.heap = z := ⟨_, rfl⟩
      rw [e421] at Kq421 ya421 yt421 P4210 P4211 P4212 P4213 Cq421 hS421
      have z421 : h411.size ≤ h421.size := Kq421.1
      have C421 := C411.trans Cq421
      let l423 : Array Slot := #[.val (.int p0), .val (.int p1), .val (.int p2), .val (.int mv_), .val (.ref b3), .val (.ref b15), .val (.ref b22), .val (.int (1 : Int32)), .val (.int (2 : Int32)), .val (.int (1 : Int32)), .val (.int (3 : Int32)), .val (.ref a411), .val (.ref a421)]
      have k424 : To p.tables e below S0 (T421.setTop (mkF m 149 l423 [(.ref a421)])) := fun tt hq => k421 tt (by
        refine XS.astore X421.here hx rfl (hb hby at_126) rfl rfl (l' := l423) rfl ?_
        refine XS.iload X421.here hx rfl (hb hby at_128) rfl ?_
        refine XS.iload X421.here hx rfl (hb hby at_130) rfl ?_
        refine XS.icmpNo X421.here hx rfl (hb hby at_132) rfl (teq (by decide)).2 ?_
        refine XS.iload X421.here hx rfl (hb hby at_135) rfl ?_
        refine XS.iload X421.here hx rfl (hb hby at_137) rfl ?_
        refine XS.iload X421.here hx rfl (hb hby at_139) rfl ?_
        refine XS.iadd X421.here hx rfl (hb hby at_141) rfl ?_
        refine XS.icmpYes X421.here hx rfl (pc0 := 142) (pc' := 147) rfl (hb hby at_142) rfl (teq (by decide)).1 (by decide) (by decide) ?_
        refine XS.aload X421.here hx rfl (hb hby at_147) rfl rfl ?_
        exact hq)
      obtain ⟨_, T425, L425, X425, ⟨rfl, Nq425, eq425⟩, k425a⟩ := callV' X421 hx hZ421 (y := (⟨"java/lang/String", "isEmpty", "()Z"⟩ : MethodName)) (z := (⟨"java/lang/String", "isEmpty", "()Z"⟩ : MethodName)) hown421 (wq hw 143 rfl) (wq hw 144 rfl) (notFace_of_selects (args := #[]) (mvT hZ421 (wq hw 146 rfl))) (wq hw 146 rfl) (wq hw 145 rfl) (by decide) P4210 (backC (W := 0) (rm_em l Z a0 hw a421 t421 k421x h421 n0 (by omega) P4210 P4211 P4212 P4213) hZ421 (wq hw 147 rfl) (wq hw 3 rfl) (by decide) (by decide)) e421 (argsL := []) (rest := []) rfl rfl pd_6 rfl (by rw [hml]; rfl) (hb hby at_149) (Nat.le_of_eq rfl) (by decide) (by decide) k424
      have k425 : To p.tables e below S0 (T425.setTop (mkF m 152 l423 [(.int (1 : Int32))])) := k425a
      have N425 := N421.app Nq425
      have e425 : T425.heap = h421 := eq425
      have k426 : To p.tables e below S0 (T425.setTop (mkF m 159 l423 [(.ref a411)])) := fun tt hq => k425 tt (by
        refine XS.ifYes X425.here hx rfl (pc0 := 152) (pc' := 157) rfl (hb hby at_152) rfl ((if0 _ _).trans (feq (by decide)).2) (by decide) (by decide) ?_
        refine XS.aload X425.here hx rfl (hb hby at_157) rfl rfl ?_
        exact hq)
      have f427 : Old Z n0 h421 := (f414.keep Kq421 all0)
      have f428 : Exa Z h421 a411 "java/lang/String" := (P4110.keep Kq421)
      have f429 : Fld Z h421 a411 "java/lang/String" "value" "[B" (.ref t411) := (P4111.keep Kq421 nin0)
      have f430 : Fld Z h421 a411 "java/lang/String" "coder" "B" (.int (0 : Int32)) := (P4112.keep Kq421 nin0)
      have f431 : Arv Z h421 t411 k411x .byte (2 : Int32) [(.int (nar .byte ((p1 &&& (255 : Int32)).toInt8.toInt32))), (.int (nar .byte ((p2 &&& (255 : Int32)).toInt8.toInt32)))] (.int 0) := (P4113.keep Kq421 nin0)
      obtain ⟨_, T432, L432, X432, ⟨rfl, Nq432, eq432⟩, k432a⟩ := callV' X425 hx hZ421 (y := (⟨"java/lang/String", "length", "()I"⟩ : MethodName)) (z := (⟨"java/lang/String", "length", "()I"⟩ : MethodName)) hown421 (wq hw 148 rfl) (wq hw 123 rfl) (notFace_of_selects (args := #[]) (mvT hZ421 (wq hw 125 rfl))) (wq hw 125 rfl) (wq hw 124 rfl) (by decide) f428 (backC (W := 0) (rm_len2 l Z a0 hw zc a411 t411 k411x (nar .byte ((p1 &&& (255 : Int32)).toInt8.toInt32)) (nar .byte ((p2 &&& (255 : Int32)).toInt8.toInt32)) h421 n0 (by omega) S_c hzc f427 f428 f429 f430 f431) hZ421 (wq hw 126 rfl) (wq hw 3 rfl) (by decide) (by decide)) e425 (argsL := []) (rest := []) rfl rfl pd_17 rfl (by rw [hml]; rfl) (hb hby at_159) (Nat.le_of_eq rfl) (by decide) (by decide) k426
      have k432 : To p.tables e below S0 (T432.setTop (mkF m 162 l423 [(.int (2 : Int32))])) := k432a
      have N432 := N425.app Nq432
      have e432 : T432.heap = h421 := eq432
      have k433 : To p.tables e below S0 (T432.setTop (mkF m 178 l423 [(.int (0 : Int32)), (.ref a411)])) := fun tt hq => k432 tt (by
        refine XS.iload X432.here hx rfl (hb hby at_162) rfl ?_
        refine XS.icmpYes X432.here hx rfl (pc0 := 164) (pc' := 169) rfl (hb hby at_164) rfl (teq (by decide)).1 (by decide) (by decide) ?_
        refine XS.iload X432.here hx rfl (hb hby at_169) rfl ?_
        refine XS.iconst X432.here hx rfl (hb hby at_171) ?_
        refine XS.icmpNo X432.here hx rfl (hb hby at_172) rfl (flt (by decide)).1 ?_
        refine XS.aload X432.here hx rfl (hb hby at_175) rfl rfl ?_
        refine XS.iconst X432.here hx rfl (hb hby at_177) ?_
        exact hq)
      obtain ⟨_, T434, L434, X434, ⟨rfl, Nq434, eq434⟩, k434a⟩ := callV' X432 hx hZ421 (y := (⟨"java/lang/String", "charAt", "(I)C"⟩ : MethodName)) (z := (⟨"java/lang/String", "charAt", "(I)C"⟩ : MethodName)) hown421 (wq hw 168 rfl) (wq hw 169 rfl) (notFace_of_selects (args := #[]) (mvT hZ421 (wq hw 171 rfl))) (wq hw 171 rfl) (wq hw 170 rfl) (by decide) f428 (backC (W := 0) (rm_ca2_0 l Z a0 hw zc fm a411 t411 k411x (nar .byte ((p1 &&& (255 : Int32)).toInt8.toInt32)) (nar .byte ((p2 &&& (255 : Int32)).toInt8.toInt32)) (p1 &&& (255 : Int32)) h421 n0 (by omega) S_c hzc S_f hfm f427 f428 f429 f430 f431 (own_b255 (own_m255 _))) hZ421 (wq hw 172 rfl) (wq hw 3 rfl) (by decide) (by decide)) e432 (argsL := [(.int (0 : Int32))]) (rest := []) rfl rfl pd_25 rfl (by rw [hml]; rfl) (hb hby at_178) (Nat.le_of_eq rfl) (by decide) (by decide) k433
      have k434 : To p.tables e below S0 (T434.setTop (mkF m 181 l423 [(.int (p1 &&& (255 : Int32)))])) := k434a
      have N434 := N432.app Nq434
      have e434 : T434.heap = h421 := eq434
      have f435 : Arv Z h421 b3 c3 .char (3 : Int32) [(.int (p0 &&& (255 : Int32))), (.int (p1 &&& (255 : Int32))), (.int (p2 &&& (255 : Int32)))] (.int (0 : Int32)) := ((((((((((f18.keep Kq19 (nin1 (by omega))).ext E22).ext E24).ext E26).keep Kq32 (nin1 (by omega))).keep Kq39 (nin1 (by omega))).keep Kq391 (nin1 (by omega))).keep Kq401 (nin1 (by omega))).keep Kq411 nin0).keep Kq421 nin0)
      have k436 : To p.tables e below S0 (T434.setTop (mkF m 185 l423 [(.int (1 : Int32)), (.ref b3), (.int (p1 &&& (255 : Int32)))])) := fun tt hq => k434 tt (by
        refine XS.aload X434.here hx rfl (hb hby at_181) rfl rfl ?_
        refine XS.iload X434.here hx rfl (hb hby at_183) rfl ?_
        exact hq)
      obtain ⟨cl437, Ar437, -, S437, -, G437, -⟩ := id f435
      have hi437 := inb_of (j := (1 : Int32)) S437 ⟨by decide, by decide⟩
      have st437 := fun tt => X434.caload hx (j := (1 : Int32)) (v := (.int (p1 &&& (255 : Int32)))) (by rw [e434]; exact Ar437.1) (State.isArrayOf_alike hZ421.alike Ar437.2.1) Ar437.2.2 hi437 (G437.at hi437 rfl) (g := (mkF m 185 l423 [(.int (1 : Int32)), (.ref b3), (.int (p1 &&& (255 : Int32)))])) rfl rfl (hb hby at_185) tt
      have k437 : To p.tables e below S0 (T434.setTop (mkF m 186 l423 [(.int (p1 &&& (255 : Int32))), (.int (p1 &&& (255 : Int32)))])) := fun tt hq => k436 tt (st437 tt hq)
      have k438 : To p.tables e below S0 (T434.setTop (mkF m 200 l423 [(.int (1 : Int32)), (.ref a411)])) := fun tt hq => k437 tt (by
        refine XS.icmpYes X434.here hx rfl (pc0 := 186) (pc' := 191) rfl (hb hby at_186) rfl (teq rfl).1 (by decide) (by decide) ?_
        refine XS.iload X434.here hx rfl (hb hby at_191) rfl ?_
        refine XS.iconst X434.here hx rfl (hb hby at_193) ?_
        refine XS.icmpNo X434.here hx rfl (hb hby at_194) rfl (flt (by decide)).1 ?_
        refine XS.aload X434.here hx rfl (hb hby at_197) rfl rfl ?_
        refine XS.iconst X434.here hx rfl (hb hby at_199) ?_
        exact hq)
      obtain ⟨_, T439, L439, X439, ⟨rfl, Nq439, eq439⟩, k439a⟩ := callV' X434 hx hZ421 (y := (⟨"java/lang/String", "charAt", "(I)C"⟩ : MethodName)) (z := (⟨"java/lang/String", "charAt", "(I)C"⟩ : MethodName)) hown421 (wq hw 168 rfl) (wq hw 169 rfl) (notFace_of_selects (args := #[]) (mvT hZ421 (wq hw 171 rfl))) (wq hw 171 rfl) (wq hw 170 rfl) (by decide) f428 (backC (W := 0) (rm_ca2_1 l Z a0 hw zc fm a411 t411 k411x (nar .byte ((p1 &&& (255 : Int32)).toInt8.toInt32)) (nar .byte ((p2 &&& (255 : Int32)).toInt8.toInt32)) (p2 &&& (255 : Int32)) h421 n0 (by omega) S_c hzc S_f hfm f427 f428 f429 f430 f431 (own_b255 (own_m255 _))) hZ421 (wq hw 172 rfl) (wq hw 3 rfl) (by decide) (by decide)) e434 (argsL := [(.int (1 : Int32))]) (rest := []) rfl rfl pd_25 rfl (by rw [hml]; rfl) (hb hby at_200) (Nat.le_of_eq rfl) (by decide) (by decide) k438
      have k439 : To p.tables e below S0 (T439.setTop (mkF m 203 l423 [(.int (p2 &&& (255 : Int32)))])) := k439a
      have N439 := N434.app Nq439
      have e439 : T439.heap = h421 := eq439
      have k440 : To p.tables e below S0 (T439.setTop (mkF m 209 l423 [(.int (2 : Int32)), (.ref b3), (.int (p2 &&& (255 : Int32)))])) := fun tt hq => k439 tt (by
        refine XS.aload X439.here hx rfl (hb hby at_203) rfl rfl ?_
        refine XS.iload X439.here hx rfl (hb hby at_205) rfl ?_
        refine XS.iconst X439.here hx rfl (hb hby at_207) ?_
        refine XS.iadd X439.here hx rfl (hb hby at_208) rfl ?_
        exact hq)
      obtain ⟨cl441, Ar441, -, S441, -, G441, -⟩ := id f435
      have hi441 := inb_of (j := (2 : Int32)) S441 ⟨by decide, by decide⟩
      have st441 := fun tt => X439.caload hx (j := (2 : Int32)) (v := (.int (p2 &&& (255 : Int32)))) (by rw [e439]; exact Ar441.1) (State.isArrayOf_alike hZ421.alike Ar441.2.1) Ar441.2.2 hi441 (G441.at hi441 rfl) (g := (mkF m 209 l423 [(.int (2 : Int32)), (.ref b3), (.int (p2 &&& (255 : Int32)))])) rfl rfl (hb hby at_209) tt
      have k441 : To p.tables e below S0 (T439.setTop (mkF m 210 l423 [(.int (p2 &&& (255 : Int32))), (.int (p2 &&& (255 : Int32)))])) := fun tt hq => k440 tt (st441 tt hq)
      have k442 : To p.tables e below S0 (T439.setTop (mkF m 240 l423 [(.int (1 : Int32))])) := fun tt hq => k441 tt (by
        refine XS.icmpYes X439.here hx rfl (pc0 := 210) (pc' := 215) rfl (hb hby at_210) rfl (teq rfl).1 (by decide) (by decide) ?_
        refine XS.iload X439.here hx rfl (hb hby at_215) rfl ?_
        refine XS.iconst X439.here hx rfl (hb hby at_217) ?_
        refine XS.icmpYes X439.here hx rfl (pc0 := 218) (pc' := 239) rfl (hb hby at_218) rfl (tlt (by decide)).1 (by decide) (by decide) ?_
        refine XS.iconst X439.here hx rfl (hb hby at_239) ?_
        exact hq)
      refine retIntW X439 hx hZ421 (own_EW hw) hS421 (by omega) C421 e439 hret hlk (by simp) rfl (hb hby at_240) k442 ?_ (by decide) (by decide)
      exact ⟨rfl, N439⟩
  · -- pc 66: (2 : Int32)
    have k443 : To p.tables e below S0 (T39.setTop (mkF m 66 l40 [(.int (2 : Int32))])) := by have hq := k41; rw [ht42] at hq; exact hq
    let l444 : Array Slot := #[.val (.int p0), .val (.int p1), .val (.int p2), .val (.int mv_), .val (.ref b3), .val (.ref b15), .val (.ref b22), .val (.int (2 : Int32)), .unset, .unset, .unset, .unset, .unset]
    have k445 : To p.tables e below S0 (T39.setTop (mkF m 77 l444 [(.int (1 : Int32)), (.int (((mv_.toUInt32 >>> ((2 : Int32) &&& 31).toUInt32).toInt32) &&& (3 : Int32)))])) := fun tt hq => k443 tt (by
      refine XS.istore X39.here hx rfl (hb hby at_66) rfl (l' := l444) rfl ?_
      refine XS.iloadN X39.here hx rfl (hb hby at_68) rfl ?_
      refine XS.iconst X39.here hx rfl (hb hby at_69) ?_
      refine XS.iushr X39.here hx rfl (hb hby at_70) rfl ?_
      refine XS.iconst X39.here hx rfl (hb hby at_71) ?_
      refine XS.iand X39.here hx rfl (hb hby at_72) rfl ?_
      refine XS.iconst X39.here hx rfl (hb hby at_73) ?_
      refine XS.iload X39.here hx rfl (hb hby at_74) rfl ?_
      refine XS.isub X39.here hx rfl (hb hby at_76) rfl ?_
      exact hq)
    obtain ⟨_, T446, L446, X446, ⟨rfl, Nq446, eq446⟩, k446a⟩ := callS' X39 hx hZ26 (y := (⟨"java/lang/Math", "min", "(II)I"⟩ : MethodName)) hown26 (wq hw 69 rfl) (wq hw 70 rfl) (wq hw 71 rfl) (wq hw 72 rfl) (by decide) (backC (W := 0) (rm_min l Z a0 hw (((mv_.toUInt32 >>> ((2 : Int32) &&& 31).toUInt32).toInt32) &&& (3 : Int32)) (1 : Int32) (if (1 : Int32) < (((mv_.toUInt32 >>> ((2 : Int32) &&& 31).toUInt32).toInt32) &&& (3 : Int32)) then (1 : Int32) else (((mv_.toUInt32 >>> ((2 : Int32) &&& 31).toUInt32).toInt32) &&& (3 : Int32))) h39 n0 (by omega) rfl) hZ26 (wq hw 72 rfl) (wq hw 71 rfl) (by decide) (by decide)) e39 (argsL := [(.int (((mv_.toUInt32 >>> ((2 : Int32) &&& 31).toUInt32).toInt32) &&& (3 : Int32))), (.int (1 : Int32))]) (rest := []) rfl rfl pd_15 rfl (by rw [hml]; rfl) (hb hby at_77) (Nat.le_of_eq rfl) (by decide) (by decide) k445
    have k446 : To p.tables e below S0 (T446.setTop (mkF m 80 l444 [(.int (if (1 : Int32) < (((mv_.toUInt32 >>> ((2 : Int32) &&& 31).toUInt32).toInt32) &&& (3 : Int32)) then (1 : Int32) else (((mv_.toUInt32 >>> ((2 : Int32) &&& 31).toUInt32).toInt32) &&& (3 : Int32))))])) := k446a
    have N446 := N39.app Nq446
    have e446 : T446.heap = h39 := eq446
    rcases own_b2 _ with ht447 | ht447
    · -- pc 80: (0 : Int32)
      have k448 : To p.tables e below S0 (T446.setTop (mkF m 80 l444 [(.int (0 : Int32))])) := by have hq := k446; rw [ht447] at hq; exact hq
      let l449 : Array Slot := #[.val (.int p0), .val (.int p1), .val (.int p2), .val (.int mv_), .val (.ref b3), .val (.ref b15), .val (.ref b22), .val (.int (2 : Int32)), .val (.int (0 : Int32)), .unset, .unset, .unset, .unset]
      have k450 : To p.tables e below S0 (T446.setTop (mkF m 86 l449 [(.int (2 : Int32)), (.ref b22)])) := fun tt hq => k448 tt (by
        refine XS.istore X446.here hx rfl (hb hby at_80) rfl (l' := l449) rfl ?_
        refine XS.aload X446.here hx rfl (hb hby at_82) rfl rfl ?_
        refine XS.iload X446.here hx rfl (hb hby at_84) rfl ?_
        exact hq)
      have f451 : Old Z n0 h39 := ((((((f17.keep Kq19 (allS (by omega) all0)).ext E22).ext E24).ext E26).keep Kq32 (allS (by omega) all0)).keep Kq39 (allS (by omega) all0))
      have f452 : Exa Z h39 b15 "java/lang/String" := (((((P190.ext E22).ext E24).ext E26).keep Kq32).keep Kq39)
      have f453 : Fld Z h39 b15 "java/lang/String" "value" "[B" (.ref t19) := (((((P191.ext E22).ext E24).ext E26).keep Kq32 (nin1 (by omega))).keep Kq39 (nin1 (by omega)))
      have f454 : Fld Z h39 b15 "java/lang/String" "coder" "B" (.int (0 : Int32)) := (((((P192.ext E22).ext E24).ext E26).keep Kq32 (nin1 (by omega))).keep Kq39 (nin1 (by omega)))
      have f455 : Arv Z h39 t19 kt19 .byte (3 : Int32) [(.int (nar .byte ((p0 &&& (255 : Int32)).toInt8.toInt32))), (.int (nar .byte ((p1 &&& (255 : Int32)).toInt8.toInt32))), (.int (nar .byte ((p2 &&& (255 : Int32)).toInt8.toInt32)))] (.int 0) := (((((P193.ext E22).ext E24).ext E26).keep Kq32 (nin1 (by omega))).keep Kq39 (nin1 (by omega)))
      obtain ⟨_, T456, L456, X456, ⟨x456, y456x, rfl, Nq456, Kq456, P456_0, P456_1, P456_2, P456_3, P456_4, P456_5⟩, k456a⟩ := callS' X446 hx hZ26 (y := (⟨"com/example/ceruline/ceruline/parsing/SourceReaderTextFromPinLaw", "steps", "(Lcom/example/ceruline/ceruline/parsing/SourceReader;I)V"⟩ : MethodName)) hown26 (wq hw 73 rfl) (wq hw 74 rfl) (wq hw 75 rfl) (wq hw 76 rfl) (by decide) (backC (W := 0) (rm_st0_2 l Z a0 hw zc fm b22 b24 b15 t19 kt19 (nar .byte ((p0 &&& (255 : Int32)).toInt8.toInt32)) (nar .byte ((p1 &&& (255 : Int32)).toInt8.toInt32)) (nar .byte ((p2 &&& (255 : Int32)).toInt8.toInt32)) (1 : Int32) (1 : Int32) h39 n0 (by omega) S_c hzc S_f hfm f451 P39_0 P39_1 P39_2 P39_3 P39_4 P39_5 f452 f453 f454 f455 (by omega) (by omega) (by omega)) hZ26 (wq hw 76 rfl) (wq hw 75 rfl) (by decide) (by decide)) e446 (argsL := [(.ref b22), (.int (2 : Int32))]) (rest := []) rfl rfl pd_16 rfl (by rw [hml]; rfl) (hb hby at_86) (Nat.le_of_eq rfl) (by decide) (by decide) k450
      have k456 : To p.tables e below S0 (T456.setTop (mkF m 89 l449 [])) := k456a
      have N456 := N446.app Nq456
      obtain ⟨h456, e456⟩ : ∃ z, T456.heap = z := ⟨_, rfl⟩
      rw [e456] at Kq456 P456_0 P456_1 P456_2 P456_3 P456_4 P456_5
      have z456 : h39.size ≤ h456.size := Kq456.1
      have C456 := C39.trans (CHr.keep Kq456 (sfS (Safe.exa hZ26.alike P39_0 (by decide) (by decide)) sf0) C39.1)
      have k457 : To p.tables e below S0 (T456.setTop (mkF m 91 l449 [(.ref b22)])) := fun tt hq => k456 tt (by
        refine XS.aload X456.here hx rfl (hb hby at_89) rfl rfl ?_
        exact hq)
      obtain ⟨_, T458, L458, X458, ⟨rfl, Nq458, eq458⟩, k458a⟩ := callV' X456 hx hZ26 (y := (⟨"com/example/ceruline/ceruline/parsing/SourceReader", "offset", "()I"⟩ : MethodName)) (z := (⟨"com/example/ceruline/ceruline/parsing/SourceReader", "offset", "()I"⟩ : MethodName)) hown26 (wq hw 107 rfl) (wq hw 108 rfl) (notFace_of_selects (args := #[]) (mvT hZ26 (wq hw 110 rfl))) (wq hw 110 rfl) (wq hw 109 rfl) (by decide) P456_0 (backC (W := 0) (rm_off l Z a0 hw b22 (2 : Int32) h456 n0 (by omega) P456_3) hZ26 (wq hw 111 rfl) (wq hw 32 rfl) (by decide) (by decide)) e456 (argsL := []) (rest := []) rfl rfl pd_17 rfl (by rw [hml]; rfl) (hb hby at_91) (Nat.le_of_eq rfl) (by decide) (by decide) k457
      have k458 : To p.tables e below S0 (T458.setTop (mkF m 94 l449 [(.int (2 : Int32))])) := k458a
      have N458 := N456.app Nq458
      have e458 : T458.heap = h456 := eq458
      let l459 : Array Slot := #[.val (.int p0), .val (.int p1), .val (.int p2), .val (.int mv_), .val (.ref b3), .val (.ref b15), .val (.ref b22), .val (.int (2 : Int32)), .val (.int (0 : Int32)), .val (.int (2 : Int32)), .unset, .unset, .unset]
      have k460 : To p.tables e below S0 (T458.setTop (mkF m 100 l459 [(.int (0 : Int32)), (.ref b22)])) := fun tt hq => k458 tt (by
        refine XS.istore X458.here hx rfl (hb hby at_94) rfl (l' := l459) rfl ?_
        refine XS.aload X458.here hx rfl (hb hby at_96) rfl rfl ?_
        refine XS.iload X458.here hx rfl (hb hby at_98) rfl ?_
        exact hq)
      have f461 : Old Z n0 h456 := (f451.keep Kq456 (allS (by omega) all0))
      have f462 : Exa Z h456 b15 "java/lang/String" := (f452.keep Kq456)
      have f463 : Fld Z h456 b15 "java/lang/String" "value" "[B" (.ref t19) := (f453.keep Kq456 (nin1 (by omega)))
      have f464 : Fld Z h456 b15 "java/lang/String" "coder" "B" (.int (0 : Int32)) := (f454.keep Kq456 (nin1 (by omega)))
      have f465 : Arv Z h456 t19 kt19 .byte (3 : Int32) [(.int (nar .byte ((p0 &&& (255 : Int32)).toInt8.toInt32))), (.int (nar .byte ((p1 &&& (255 : Int32)).toInt8.toInt32))), (.int (nar .byte ((p2 &&& (255 : Int32)).toInt8.toInt32)))] (.int 0) := (f455.keep Kq456 (nin1 (by omega)))
      obtain ⟨_, T466, L466, X466, ⟨x466, y466x, rfl, Nq466, Kq466, P466_0, P466_1, P466_2, P466_3, P466_4, P466_5⟩, k466a⟩ := callS' X458 hx hZ26 (y := (⟨"com/example/ceruline/ceruline/parsing/SourceReaderTextFromPinLaw", "steps", "(Lcom/example/ceruline/ceruline/parsing/SourceReader;I)V"⟩ : MethodName)) hown26 (wq hw 73 rfl) (wq hw 74 rfl) (wq hw 75 rfl) (wq hw 76 rfl) (by decide) (backC (W := 0) (rm_st2_0 l Z a0 hw zc fm b22 b24 b15 t19 kt19 (nar .byte ((p0 &&& (255 : Int32)).toInt8.toInt32)) (nar .byte ((p1 &&& (255 : Int32)).toInt8.toInt32)) (nar .byte ((p2 &&& (255 : Int32)).toInt8.toInt32)) x456 y456x h456 n0 (by omega) S_c hzc S_f hfm f461 P456_0 P456_1 P456_2 P456_3 P456_4 P456_5 f462 f463 f464 f465 (by omega) (by omega) (by omega)) hZ26 (wq hw 76 rfl) (wq hw 75 rfl) (by decide) (by decide)) e458 (argsL := [(.ref b22), (.int (0 : Int32))]) (rest := []) rfl rfl pd_16 rfl (by rw [hml]; rfl) (hb hby at_100) (Nat.le_of_eq rfl) (by decide) (by decide) k460
      have k466 : To p.tables e below S0 (T466.setTop (mkF m 103 l459 [])) := k466a
      have N466 := N458.app Nq466
      obtain ⟨h466, e466⟩ : ∃ z, T466.heap = z := ⟨_, rfl⟩
      rw [e466] at Kq466 P466_0 P466_1 P466_2 P466_3 P466_4 P466_5
      have z466 : h456.size ≤ h466.size := Kq466.1
      have C466 := C456.trans (CHr.keep Kq466 (sfS (Safe.exa hZ26.alike P456_0 (by decide) (by decide)) sf0) C456.1)
      have k467 : To p.tables e below S0 (T466.setTop (mkF m 105 l459 [(.ref b22)])) := fun tt hq => k466 tt (by
        refine XS.aload X466.here hx rfl (hb hby at_103) rfl rfl ?_
        exact hq)
      obtain ⟨_, T468, L468, X468, ⟨rfl, Nq468, eq468⟩, k468a⟩ := callV' X466 hx hZ26 (y := (⟨"com/example/ceruline/ceruline/parsing/SourceReader", "offset", "()I"⟩ : MethodName)) (z := (⟨"com/example/ceruline/ceruline/parsing/SourceReader", "offset", "()I"⟩ : MethodName)) hown26 (wq hw 107 rfl) (wq hw 108 rfl) (notFace_of_selects (args := #[]) (mvT hZ26 (wq hw 110 rfl))) (wq hw 110 rfl) (wq hw 109 rfl) (by decide) P466_0 (backC (W := 0) (rm_off l Z a0 hw b22 (2 : Int32) h466 n0 (by omega) P466_3) hZ26 (wq hw 111 rfl) (wq hw 32 rfl) (by decide) (by decide)) e466 (argsL := []) (rest := []) rfl rfl pd_17 rfl (by rw [hml]; rfl) (hb hby at_105) (Nat.le_of_eq rfl) (by decide) (by decide) k467
      have k468 : To p.tables e below S0 (T468.setTop (mkF m 108 l459 [(.int (2 : Int32))])) := k468a
      have N468 := N466.app Nq468
      have e468 : T468.heap = h466 := eq468
      let l469 : Array Slot := #[.val (.int p0), .val (.int p1), .val (.int p2), .val (.int mv_), .val (.ref b3), .val (.ref b15), .val (.ref b22), .val (.int (2 : Int32)), .val (.int (0 : Int32)), .val (.int (2 : Int32)), .val (.int (2 : Int32)), .unset, .unset]
      have k470 : To p.tables e below S0 (T468.setTop (mkF m 114 l469 [(.int (2 : Int32)), (.ref b22)])) := fun tt hq => k468 tt (by
        refine XS.istore X468.here hx rfl (hb hby at_108) rfl (l' := l469) rfl ?_
        refine XS.aload X468.here hx rfl (hb hby at_110) rfl rfl ?_
        refine XS.iload X468.here hx rfl (hb hby at_112) rfl ?_
        exact hq)
      have f471 : Old Z n0 h466 := (f461.keep Kq466 (allS (by omega) all0))
      have f472 : Exa Z h466 b15 "java/lang/String" := (f462.keep Kq466)
      have f473 : Fld Z h466 b15 "java/lang/String" "value" "[B" (.ref t19) := (f463.keep Kq466 (nin1 (by omega)))
      have f474 : Fld Z h466 b15 "java/lang/String" "coder" "B" (.int (0 : Int32)) := (f464.keep Kq466 (nin1 (by omega)))
      have f475 : Arv Z h466 t19 kt19 .byte (3 : Int32) [(.int (nar .byte ((p0 &&& (255 : Int32)).toInt8.toInt32))), (.int (nar .byte ((p1 &&& (255 : Int32)).toInt8.toInt32))), (.int (nar .byte ((p2 &&& (255 : Int32)).toInt8.toInt32)))] (.int 0) := (f465.keep Kq466 (nin1 (by omega)))
      obtain ⟨_, T476, L476, X476, ⟨a476, t476, k476x, rfl, Nq476, ya476, yt476, Kq476, P4760, P4761, P4762, P4763⟩, k476a, Cq476, hS476, hZ476, hown476⟩ := callVW X468 hx hZ26 (y := (⟨"com/example/ceruline/ceruline/parsing/SourceReader", "textFrom", "(I)Ljava/lang/String;"⟩ : MethodName)) (z := (⟨"com/example/ceruline/ceruline/parsing/SourceReader", "textFrom", "(I)Ljava/lang/String;"⟩ : MethodName)) hown26 hS26 (by omega) (wq hw 112 rfl) (wq hw 113 rfl) (notFace_of_selects (args := #[]) (mvT hZ26 (wq hw 115 rfl))) (wq hw 115 rfl) (wq hw 114 rfl) (by decide) P466_0 (backOfW (W := 0) (rm_tf2_2 l Z a0 hw zc fm b22 b15 t19 kt19 (nar .byte ((p0 &&& (255 : Int32)).toInt8.toInt32)) (nar .byte ((p1 &&& (255 : Int32)).toInt8.toInt32)) (nar .byte ((p2 &&& (255 : Int32)).toInt8.toInt32)) h466 n0 (by omega) S_c hzc S_f hfm f471 P466_2 P466_3 f472 f473 f474 f475 (by omega)) hZ26 (wq hw 116 rfl) (wq hw 32 rfl) (by decide) (by decide) (own_EW hw) C466.1 all0) e468 (argsL := [(.int (2 : Int32))]) (rest := []) rfl rfl pd_21 rfl (by rw [hml]; rfl) (hb hby at_114) (Nat.le_of_eq rfl) (by decide) (by decide) k470
      have k476 : To p.tables e below S0 (T476.setTop (mkF m 117 l469 [(.ref a476)])) := k476a
      have N476 := N468.app Nq476
      obtain ⟨h476, e476⟩ : ∃ z, T476.heap = z := ⟨_, rfl⟩
      rw [e476] at Kq476 ya476 yt476 P4760 P4761 P4762 P4763 Cq476 hS476
      have z476 : h466.size ≤ h476.size := Kq476.1
      have C476 := C466.trans Cq476
      let l477 : Array Slot := #[.val (.int p0), .val (.int p1), .val (.int p2), .val (.int mv_), .val (.ref b3), .val (.ref b15), .val (.ref b22), .val (.int (2 : Int32)), .val (.int (0 : Int32)), .val (.int (2 : Int32)), .val (.int (2 : Int32)), .val (.ref a476), .unset]
      have k478 : To p.tables e below S0 (T476.setTop (mkF m 123 l477 [(.int (2 : Int32)), (.ref b22)])) := fun tt hq => k476 tt (by
        refine XS.astore X476.here hx rfl (hb hby at_117) rfl rfl (l' := l477) rfl ?_
        refine XS.aload X476.here hx rfl (hb hby at_119) rfl rfl ?_
        refine XS.iload X476.here hx rfl (hb hby at_121) rfl ?_
        exact hq)
      have f479 : Old Z n0 h476 := (f471.keep Kq476 all0)
      have f480 : Fld Z h476 b22 "com/example/ceruline/ceruline/parsing/SourceReader" "text" "Ljava/lang/String;" (.ref b15) := (P466_2.keep Kq476 nin0)
      have f481 : Fld Z h476 b22 "com/example/ceruline/ceruline/parsing/SourceReader" "offset" "I" (.int (2 : Int32)) := (P466_3.keep Kq476 nin0)
      have f482 : Exa Z h476 b15 "java/lang/String" := (f472.keep Kq476)
      have f483 : Fld Z h476 b15 "java/lang/String" "value" "[B" (.ref t19) := (f473.keep Kq476 nin0)
      have f484 : Fld Z h476 b15 "java/lang/String" "coder" "B" (.int (0 : Int32)) := (f474.keep Kq476 nin0)
      have f485 : Arv Z h476 t19 kt19 .byte (3 : Int32) [(.int (nar .byte ((p0 &&& (255 : Int32)).toInt8.toInt32))), (.int (nar .byte ((p1 &&& (255 : Int32)).toInt8.toInt32))), (.int (nar .byte ((p2 &&& (255 : Int32)).toInt8.toInt32)))] (.int 0) := (f475.keep Kq476 nin0)
      have f487 : Exa Z h476 b22 "com/example/ceruline/ceruline/parsing/SourceReader" := (P466_0.keep Kq476)
      obtain ⟨_, T486, L486, X486, ⟨a486, t486, k486x, rfl, Nq486, ya486, yt486, Kq486, P4860, P4861, P4862, P4863⟩, k486a, Cq486, hS486, hZ486, hown486⟩ := callVW X476 hx hZ476 (y := (⟨"com/example/ceruline/ceruline/parsing/SourceReader", "textFrom", "(I)Ljava/lang/String;"⟩ : MethodName)) (z := (⟨"com/example/ceruline/ceruline/parsing/SourceReader", "textFrom", "(I)Ljava/lang/String;"⟩ : MethodName)) hown476 hS476 (by omega) (wq hw 112 rfl) (wq hw 113 rfl) (notFace_of_selects (args := #[]) (mvT hZ476 (wq hw 115 rfl))) (wq hw 115 rfl) (wq hw 114 rfl) (by decide) f487 (backOfW (W := 0) (rm_tf2_2 l Z a0 hw zc fm b22 b15 t19 kt19 (nar .byte ((p0 &&& (255 : Int32)).toInt8.toInt32)) (nar .byte ((p1 &&& (255 : Int32)).toInt8.toInt32)) (nar .byte ((p2 &&& (255 : Int32)).toInt8.toInt32)) h476 n0 (by omega) S_c hzc S_f hfm f479 f480 f481 f482 f483 f484 f485 (by omega)) hZ476 (wq hw 116 rfl) (wq hw 32 rfl) (by decide) (by decide) (own_EW hw) C476.1 all0) e476 (argsL := [(.int (2 : Int32))]) (rest := []) rfl rfl pd_21 rfl (by rw [hml]; rfl) (hb hby at_123) (Nat.le_of_eq rfl) (by decide) (by decide) k478
      have k486 : To p.tables e below S0 (T486.setTop (mkF m 126 l477 [(.ref a486)])) := k486a
      have N486 := N476.app Nq486
      obtain ⟨h486, e486⟩ : ∃ z, T486.heap = z := ⟨_, rfl⟩
      rw [e486] at Kq486 ya486 yt486 P4860 P4861 P4862 P4863 Cq486 hS486
      have z486 : h476.size ≤ h486.size := Kq486.1
      have C486 := C476.trans Cq486
      let l488 : Array Slot := #[.val (.int p0), .val (.int p1), .val (.int p2), .val (.int mv_), .val (.ref b3), .val (.ref b15), .val (.ref b22), .val (.int (2 : Int32)), .val (.int (0 : Int32)), .val (.int (2 : Int32)), .val (.int (2 : Int32)), .val (.ref a476), .val (.ref a486)]
      have k489 : To p.tables e below S0 (T486.setTop (mkF m 149 l488 [(.ref a486)])) := fun tt hq => k486 tt (by
        refine XS.astore X486.here hx rfl (hb hby at_126) rfl rfl (l' := l488) rfl ?_
        refine XS.iload X486.here hx rfl (hb hby at_128) rfl ?_
        refine XS.iload X486.here hx rfl (hb hby at_130) rfl ?_
        refine XS.icmpNo X486.here hx rfl (hb hby at_132) rfl (teq (by decide)).2 ?_
        refine XS.iload X486.here hx rfl (hb hby at_135) rfl ?_
        refine XS.iload X486.here hx rfl (hb hby at_137) rfl ?_
        refine XS.iload X486.here hx rfl (hb hby at_139) rfl ?_
        refine XS.iadd X486.here hx rfl (hb hby at_141) rfl ?_
        refine XS.icmpYes X486.here hx rfl (pc0 := 142) (pc' := 147) rfl (hb hby at_142) rfl (teq (by decide)).1 (by decide) (by decide) ?_
        refine XS.aload X486.here hx rfl (hb hby at_147) rfl rfl ?_
        exact hq)
      obtain ⟨_, T490, L490, X490, ⟨rfl, Nq490, eq490⟩, k490a⟩ := callV' X486 hx hZ486 (y := (⟨"java/lang/String", "isEmpty", "()Z"⟩ : MethodName)) (z := (⟨"java/lang/String", "isEmpty", "()Z"⟩ : MethodName)) hown486 (wq hw 143 rfl) (wq hw 144 rfl) (notFace_of_selects (args := #[]) (mvT hZ486 (wq hw 146 rfl))) (wq hw 146 rfl) (wq hw 145 rfl) (by decide) P4860 (backC (W := 0) (rm_em l Z a0 hw a486 t486 k486x h486 n0 (by omega) P4860 P4861 P4862 P4863) hZ486 (wq hw 147 rfl) (wq hw 3 rfl) (by decide) (by decide)) e486 (argsL := []) (rest := []) rfl rfl pd_6 rfl (by rw [hml]; rfl) (hb hby at_149) (Nat.le_of_eq rfl) (by decide) (by decide) k489
      have k490 : To p.tables e below S0 (T490.setTop (mkF m 152 l488 [(.int (1 : Int32))])) := k490a
      have N490 := N486.app Nq490
      have e490 : T490.heap = h486 := eq490
      have k491 : To p.tables e below S0 (T490.setTop (mkF m 159 l488 [(.ref a476)])) := fun tt hq => k490 tt (by
        refine XS.ifYes X490.here hx rfl (pc0 := 152) (pc' := 157) rfl (hb hby at_152) rfl ((if0 _ _).trans (feq (by decide)).2) (by decide) (by decide) ?_
        refine XS.aload X490.here hx rfl (hb hby at_157) rfl rfl ?_
        exact hq)
      have f492 : Old Z n0 h486 := (f479.keep Kq486 all0)
      have f493 : Exa Z h486 a476 "java/lang/String" := (P4760.keep Kq486)
      have f494 : Fld Z h486 a476 "java/lang/String" "value" "[B" (.ref t476) := (P4761.keep Kq486 nin0)
      have f495 : Fld Z h486 a476 "java/lang/String" "coder" "B" (.int (0 : Int32)) := (P4762.keep Kq486 nin0)
      have f496 : Arv Z h486 t476 k476x .byte (0 : Int32) [] (.int 0) := (P4763.keep Kq486 nin0)
      obtain ⟨_, T497, L497, X497, ⟨rfl, Nq497, eq497⟩, k497a⟩ := callV' X490 hx hZ486 (y := (⟨"java/lang/String", "length", "()I"⟩ : MethodName)) (z := (⟨"java/lang/String", "length", "()I"⟩ : MethodName)) hown486 (wq hw 148 rfl) (wq hw 123 rfl) (notFace_of_selects (args := #[]) (mvT hZ486 (wq hw 125 rfl))) (wq hw 125 rfl) (wq hw 124 rfl) (by decide) f493 (backC (W := 0) (rm_len0 l Z a0 hw zc a476 t476 k476x  h486 n0 (by omega) S_c hzc f492 f493 f494 f495 f496) hZ486 (wq hw 126 rfl) (wq hw 3 rfl) (by decide) (by decide)) e490 (argsL := []) (rest := []) rfl rfl pd_17 rfl (by rw [hml]; rfl) (hb hby at_159) (Nat.le_of_eq rfl) (by decide) (by decide) k491
      have k497 : To p.tables e below S0 (T497.setTop (mkF m 162 l488 [(.int (0 : Int32))])) := k497a
      have N497 := N490.app Nq497
      have e497 : T497.heap = h486 := eq497
      have k498 : To p.tables e below S0 (T497.setTop (mkF m 240 l488 [(.int (1 : Int32))])) := fun tt hq => k497 tt (by
        refine XS.iload X497.here hx rfl (hb hby at_162) rfl ?_
        refine XS.icmpYes X497.here hx rfl (pc0 := 164) (pc' := 169) rfl (hb hby at_164) rfl (teq (by decide)).1 (by decide) (by decide) ?_
        refine XS.iload X497.here hx rfl (hb hby at_169) rfl ?_
        refine XS.iconst X497.here hx rfl (hb hby at_171) ?_
        refine XS.icmpYes X497.here hx rfl (pc0 := 172) (pc' := 191) rfl (hb hby at_172) rfl (tlt (by decide)).1 (by decide) (by decide) ?_
        refine XS.iload X497.here hx rfl (hb hby at_191) rfl ?_
        refine XS.iconst X497.here hx rfl (hb hby at_193) ?_
        refine XS.icmpYes X497.here hx rfl (pc0 := 194) (pc' := 215) rfl (hb hby at_194) rfl (tlt (by decide)).1 (by decide) (by decide) ?_
        refine XS.iload X497.here hx rfl (hb hby at_215) rfl ?_
        refine XS.iconst X497.here hx rfl (hb hby at_217) ?_
        refine XS.icmpYes X497.here hx rfl (pc0 := 218) (pc' := 239) rfl (hb hby at_218) rfl (tlt (by decide)).1 (by decide) (by decide) ?_
        refine XS.iconst X497.here hx rfl (hb hby at_239) ?_
        exact hq)
      refine retIntW X497 hx hZ486 (own_EW hw) hS486 (by omega) C486 e497 hret hlk (by simp) rfl (hb hby at_240) k498 ?_ (by decide) (by decide)
      exact ⟨rfl, N497⟩
    · -- pc 80: (1 : Int32)
      have k499 : To p.tables e below S0 (T446.setTop (mkF m 80 l444 [(.int (1 : Int32))])) := by have hq := k446; rw [ht447] at hq; exact hq
      let l500 : Array Slot := #[.val (.int p0), .val (.int p1), .val (.int p2), .val (.int mv_), .val (.ref b3), .val (.ref b15), .val (.ref b22), .val (.int (2 : Int32)), .val (.int (1 : Int32)), .unset, .unset, .unset, .unset]
      have k501 : To p.tables e below S0 (T446.setTop (mkF m 86 l500 [(.int (2 : Int32)), (.ref b22)])) := fun tt hq => k499 tt (by
        refine XS.istore X446.here hx rfl (hb hby at_80) rfl (l' := l500) rfl ?_
        refine XS.aload X446.here hx rfl (hb hby at_82) rfl rfl ?_
        refine XS.iload X446.here hx rfl (hb hby at_84) rfl ?_
        exact hq)
      have f502 : Old Z n0 h39 := ((((((f17.keep Kq19 (allS (by omega) all0)).ext E22).ext E24).ext E26).keep Kq32 (allS (by omega) all0)).keep Kq39 (allS (by omega) all0))
      have f503 : Exa Z h39 b15 "java/lang/String" := (((((P190.ext E22).ext E24).ext E26).keep Kq32).keep Kq39)
      have f504 : Fld Z h39 b15 "java/lang/String" "value" "[B" (.ref t19) := (((((P191.ext E22).ext E24).ext E26).keep Kq32 (nin1 (by omega))).keep Kq39 (nin1 (by omega)))
      have f505 : Fld Z h39 b15 "java/lang/String" "coder" "B" (.int (0 : Int32)) := (((((P192.ext E22).ext E24).ext E26).keep Kq32 (nin1 (by omega))).keep Kq39 (nin1 (by omega)))
      have f506 : Arv Z h39 t19 kt19 .byte (3 : Int32) [(.int (nar .byte ((p0 &&& (255 : Int32)).toInt8.toInt32))), (.int (nar .byte ((p1 &&& (255 : Int32)).toInt8.toInt32))), (.int (nar .byte ((p2 &&& (255 : Int32)).toInt8.toInt32)))] (.int 0) := (((((P193.ext E22).ext E24).ext E26).keep Kq32 (nin1 (by omega))).keep Kq39 (nin1 (by omega)))
      obtain ⟨_, T507, L507, X507, ⟨x507, y507x, rfl, Nq507, Kq507, P507_0, P507_1, P507_2, P507_3, P507_4, P507_5⟩, k507a⟩ := callS' X446 hx hZ26 (y := (⟨"com/example/ceruline/ceruline/parsing/SourceReaderTextFromPinLaw", "steps", "(Lcom/example/ceruline/ceruline/parsing/SourceReader;I)V"⟩ : MethodName)) hown26 (wq hw 73 rfl) (wq hw 74 rfl) (wq hw 75 rfl) (wq hw 76 rfl) (by decide) (backC (W := 0) (rm_st0_2 l Z a0 hw zc fm b22 b24 b15 t19 kt19 (nar .byte ((p0 &&& (255 : Int32)).toInt8.toInt32)) (nar .byte ((p1 &&& (255 : Int32)).toInt8.toInt32)) (nar .byte ((p2 &&& (255 : Int32)).toInt8.toInt32)) (1 : Int32) (1 : Int32) h39 n0 (by omega) S_c hzc S_f hfm f502 P39_0 P39_1 P39_2 P39_3 P39_4 P39_5 f503 f504 f505 f506 (by omega) (by omega) (by omega)) hZ26 (wq hw 76 rfl) (wq hw 75 rfl) (by decide) (by decide)) e446 (argsL := [(.ref b22), (.int (2 : Int32))]) (rest := []) rfl rfl pd_16 rfl (by rw [hml]; rfl) (hb hby at_86) (Nat.le_of_eq rfl) (by decide) (by decide) k501
      have k507 : To p.tables e below S0 (T507.setTop (mkF m 89 l500 [])) := k507a
      have N507 := N446.app Nq507
      obtain ⟨h507, e507⟩ : ∃ z, T507.heap = z := ⟨_, rfl⟩
      rw [e507] at Kq507 P507_0 P507_1 P507_2 P507_3 P507_4 P507_5
      have z507 : h39.size ≤ h507.size := Kq507.1
      have C507 := C39.trans (CHr.keep Kq507 (sfS (Safe.exa hZ26.alike P39_0 (by decide) (by decide)) sf0) C39.1)
      have k508 : To p.tables e below S0 (T507.setTop (mkF m 91 l500 [(.ref b22)])) := fun tt hq => k507 tt (by
        refine XS.aload X507.here hx rfl (hb hby at_89) rfl rfl ?_
        exact hq)
      obtain ⟨_, T509, L509, X509, ⟨rfl, Nq509, eq509⟩, k509a⟩ := callV' X507 hx hZ26 (y := (⟨"com/example/ceruline/ceruline/parsing/SourceReader", "offset", "()I"⟩ : MethodName)) (z := (⟨"com/example/ceruline/ceruline/parsing/SourceReader", "offset", "()I"⟩ : MethodName)) hown26 (wq hw 107 rfl) (wq hw 108 rfl) (notFace_of_selects (args := #[]) (mvT hZ26 (wq hw 110 rfl))) (wq hw 110 rfl) (wq hw 109 rfl) (by decide) P507_0 (backC (W := 0) (rm_off l Z a0 hw b22 (2 : Int32) h507 n0 (by omega) P507_3) hZ26 (wq hw 111 rfl) (wq hw 32 rfl) (by decide) (by decide)) e507 (argsL := []) (rest := []) rfl rfl pd_17 rfl (by rw [hml]; rfl) (hb hby at_91) (Nat.le_of_eq rfl) (by decide) (by decide) k508
      have k509 : To p.tables e below S0 (T509.setTop (mkF m 94 l500 [(.int (2 : Int32))])) := k509a
      have N509 := N507.app Nq509
      have e509 : T509.heap = h507 := eq509
      let l510 : Array Slot := #[.val (.int p0), .val (.int p1), .val (.int p2), .val (.int mv_), .val (.ref b3), .val (.ref b15), .val (.ref b22), .val (.int (2 : Int32)), .val (.int (1 : Int32)), .val (.int (2 : Int32)), .unset, .unset, .unset]
      have k511 : To p.tables e below S0 (T509.setTop (mkF m 100 l510 [(.int (1 : Int32)), (.ref b22)])) := fun tt hq => k509 tt (by
        refine XS.istore X509.here hx rfl (hb hby at_94) rfl (l' := l510) rfl ?_
        refine XS.aload X509.here hx rfl (hb hby at_96) rfl rfl ?_
        refine XS.iload X509.here hx rfl (hb hby at_98) rfl ?_
        exact hq)
      have f512 : Old Z n0 h507 := (f502.keep Kq507 (allS (by omega) all0))
      have f513 : Exa Z h507 b15 "java/lang/String" := (f503.keep Kq507)
      have f514 : Fld Z h507 b15 "java/lang/String" "value" "[B" (.ref t19) := (f504.keep Kq507 (nin1 (by omega)))
      have f515 : Fld Z h507 b15 "java/lang/String" "coder" "B" (.int (0 : Int32)) := (f505.keep Kq507 (nin1 (by omega)))
      have f516 : Arv Z h507 t19 kt19 .byte (3 : Int32) [(.int (nar .byte ((p0 &&& (255 : Int32)).toInt8.toInt32))), (.int (nar .byte ((p1 &&& (255 : Int32)).toInt8.toInt32))), (.int (nar .byte ((p2 &&& (255 : Int32)).toInt8.toInt32)))] (.int 0) := (f506.keep Kq507 (nin1 (by omega)))
      obtain ⟨_, T517, L517, X517, ⟨x517, y517x, rfl, Nq517, Kq517, P517_0, P517_1, P517_2, P517_3, P517_4, P517_5⟩, k517a⟩ := callS' X509 hx hZ26 (y := (⟨"com/example/ceruline/ceruline/parsing/SourceReaderTextFromPinLaw", "steps", "(Lcom/example/ceruline/ceruline/parsing/SourceReader;I)V"⟩ : MethodName)) hown26 (wq hw 73 rfl) (wq hw 74 rfl) (wq hw 75 rfl) (wq hw 76 rfl) (by decide) (backC (W := 0) (rm_st2_1 l Z a0 hw zc fm b22 b24 b15 t19 kt19 (nar .byte ((p0 &&& (255 : Int32)).toInt8.toInt32)) (nar .byte ((p1 &&& (255 : Int32)).toInt8.toInt32)) (nar .byte ((p2 &&& (255 : Int32)).toInt8.toInt32)) x507 y507x h507 n0 (by omega) S_c hzc S_f hfm f512 P507_0 P507_1 P507_2 P507_3 P507_4 P507_5 f513 f514 f515 f516 (by omega) (by omega) (by omega)) hZ26 (wq hw 76 rfl) (wq hw 75 rfl) (by decide) (by decide)) e509 (argsL := [(.ref b22), (.int (1 : Int32))]) (rest := []) rfl rfl pd_16 rfl (by rw [hml]; rfl) (hb hby at_100) (Nat.le_of_eq rfl) (by decide) (by decide) k511
      have k517 : To p.tables e below S0 (T517.setTop (mkF m 103 l510 [])) := k517a
      have N517 := N509.app Nq517
      obtain ⟨h517, e517⟩ : ∃ z, T517.heap = z := ⟨_, rfl⟩
      rw [e517] at Kq517 P517_0 P517_1 P517_2 P517_3 P517_4 P517_5
      have z517 : h507.size ≤ h517.size := Kq517.1
      have C517 := C507.trans (CHr.keep Kq517 (sfS (Safe.exa hZ26.alike P507_0 (by decide) (by decide)) sf0) C507.1)
      have k518 : To p.tables e below S0 (T517.setTop (mkF m 105 l510 [(.ref b22)])) := fun tt hq => k517 tt (by
        refine XS.aload X517.here hx rfl (hb hby at_103) rfl rfl ?_
        exact hq)
      obtain ⟨_, T519, L519, X519, ⟨rfl, Nq519, eq519⟩, k519a⟩ := callV' X517 hx hZ26 (y := (⟨"com/example/ceruline/ceruline/parsing/SourceReader", "offset", "()I"⟩ : MethodName)) (z := (⟨"com/example/ceruline/ceruline/parsing/SourceReader", "offset", "()I"⟩ : MethodName)) hown26 (wq hw 107 rfl) (wq hw 108 rfl) (notFace_of_selects (args := #[]) (mvT hZ26 (wq hw 110 rfl))) (wq hw 110 rfl) (wq hw 109 rfl) (by decide) P517_0 (backC (W := 0) (rm_off l Z a0 hw b22 (3 : Int32) h517 n0 (by omega) P517_3) hZ26 (wq hw 111 rfl) (wq hw 32 rfl) (by decide) (by decide)) e517 (argsL := []) (rest := []) rfl rfl pd_17 rfl (by rw [hml]; rfl) (hb hby at_105) (Nat.le_of_eq rfl) (by decide) (by decide) k518
      have k519 : To p.tables e below S0 (T519.setTop (mkF m 108 l510 [(.int (3 : Int32))])) := k519a
      have N519 := N517.app Nq519
      have e519 : T519.heap = h517 := eq519
      let l520 : Array Slot := #[.val (.int p0), .val (.int p1), .val (.int p2), .val (.int mv_), .val (.ref b3), .val (.ref b15), .val (.ref b22), .val (.int (2 : Int32)), .val (.int (1 : Int32)), .val (.int (2 : Int32)), .val (.int (3 : Int32)), .unset, .unset]
      have k521 : To p.tables e below S0 (T519.setTop (mkF m 114 l520 [(.int (2 : Int32)), (.ref b22)])) := fun tt hq => k519 tt (by
        refine XS.istore X519.here hx rfl (hb hby at_108) rfl (l' := l520) rfl ?_
        refine XS.aload X519.here hx rfl (hb hby at_110) rfl rfl ?_
        refine XS.iload X519.here hx rfl (hb hby at_112) rfl ?_
        exact hq)
      have f522 : Old Z n0 h517 := (f512.keep Kq517 (allS (by omega) all0))
      have f523 : Exa Z h517 b15 "java/lang/String" := (f513.keep Kq517)
      have f524 : Fld Z h517 b15 "java/lang/String" "value" "[B" (.ref t19) := (f514.keep Kq517 (nin1 (by omega)))
      have f525 : Fld Z h517 b15 "java/lang/String" "coder" "B" (.int (0 : Int32)) := (f515.keep Kq517 (nin1 (by omega)))
      have f526 : Arv Z h517 t19 kt19 .byte (3 : Int32) [(.int (nar .byte ((p0 &&& (255 : Int32)).toInt8.toInt32))), (.int (nar .byte ((p1 &&& (255 : Int32)).toInt8.toInt32))), (.int (nar .byte ((p2 &&& (255 : Int32)).toInt8.toInt32)))] (.int 0) := (f516.keep Kq517 (nin1 (by omega)))
      obtain ⟨_, T527, L527, X527, ⟨a527, t527, k527x, rfl, Nq527, ya527, yt527, Kq527, P5270, P5271, P5272, P5273⟩, k527a⟩ := callV' X519 hx hZ26 (y := (⟨"com/example/ceruline/ceruline/parsing/SourceReader", "textFrom", "(I)Ljava/lang/String;"⟩ : MethodName)) (z := (⟨"com/example/ceruline/ceruline/parsing/SourceReader", "textFrom", "(I)Ljava/lang/String;"⟩ : MethodName)) hown26 (wq hw 112 rfl) (wq hw 113 rfl) (notFace_of_selects (args := #[]) (mvT hZ26 (wq hw 115 rfl))) (wq hw 115 rfl) (wq hw 114 rfl) (by decide) P517_0 (backC (W := 0) (rm_tf2_3 l Z a0 hw zc fm b22 b15 t19 kt19 (nar .byte ((p0 &&& (255 : Int32)).toInt8.toInt32)) (nar .byte ((p1 &&& (255 : Int32)).toInt8.toInt32)) (nar .byte ((p2 &&& (255 : Int32)).toInt8.toInt32)) h517 n0 (by omega) S_c hzc S_f hfm f522 P517_2 P517_3 f523 f524 f525 f526 (by omega)) hZ26 (wq hw 116 rfl) (wq hw 32 rfl) (by decide) (by decide)) e519 (argsL := [(.int (2 : Int32))]) (rest := []) rfl rfl pd_21 rfl (by rw [hml]; rfl) (hb hby at_114) (Nat.le_of_eq rfl) (by decide) (by decide) k521
      have k527 : To p.tables e below S0 (T527.setTop (mkF m 117 l520 [(.ref a527)])) := k527a
      have N527 := N519.app Nq527
      obtain ⟨h527, e527⟩ : ∃ z, T527.heap = z := ⟨_, rfl⟩
      rw [e527] at Kq527 ya527 yt527 P5270 P5271 P5272 P5273
      have z527 : h517.size ≤ h527.size := Kq527.1
      have C527 := C517.trans (CHr.keep Kq527 sf0 C517.1)
      let l528 : Array Slot := #[.val (.int p0), .val (.int p1), .val (.int p2), .val (.int mv_), .val (.ref b3), .val (.ref b15), .val (.ref b22), .val (.int (2 : Int32)), .val (.int (1 : Int32)), .val (.int (2 : Int32)), .val (.int (3 : Int32)), .val (.ref a527), .unset]
      have k529 : To p.tables e below S0 (T527.setTop (mkF m 123 l528 [(.int (3 : Int32)), (.ref b22)])) := fun tt hq => k527 tt (by
        refine XS.astore X527.here hx rfl (hb hby at_117) rfl rfl (l' := l528) rfl ?_
        refine XS.aload X527.here hx rfl (hb hby at_119) rfl rfl ?_
        refine XS.iload X527.here hx rfl (hb hby at_121) rfl ?_
        exact hq)
      have f530 : Old Z n0 h527 := (f522.keep Kq527 all0)
      have f531 : Fld Z h527 b22 "com/example/ceruline/ceruline/parsing/SourceReader" "text" "Ljava/lang/String;" (.ref b15) := (P517_2.keep Kq527 nin0)
      have f532 : Fld Z h527 b22 "com/example/ceruline/ceruline/parsing/SourceReader" "offset" "I" (.int (3 : Int32)) := (P517_3.keep Kq527 nin0)
      have f533 : Exa Z h527 b15 "java/lang/String" := (f523.keep Kq527)
      have f534 : Fld Z h527 b15 "java/lang/String" "value" "[B" (.ref t19) := (f524.keep Kq527 nin0)
      have f535 : Fld Z h527 b15 "java/lang/String" "coder" "B" (.int (0 : Int32)) := (f525.keep Kq527 nin0)
      have f536 : Arv Z h527 t19 kt19 .byte (3 : Int32) [(.int (nar .byte ((p0 &&& (255 : Int32)).toInt8.toInt32))), (.int (nar .byte ((p1 &&& (255 : Int32)).toInt8.toInt32))), (.int (nar .byte ((p2 &&& (255 : Int32)).toInt8.toInt32)))] (.int 0) := (f526.keep Kq527 nin0)
      have f538 : Exa Z h527 b22 "com/example/ceruline/ceruline/parsing/SourceReader" := (P517_0.keep Kq527)
      obtain ⟨_, T537, L537, X537, ⟨a537, t537, k537x, rfl, Nq537, ya537, yt537, Kq537, P5370, P5371, P5372, P5373⟩, k537a, Cq537, hS537, hZ537, hown537⟩ := callVW X527 hx hZ26 (y := (⟨"com/example/ceruline/ceruline/parsing/SourceReader", "textFrom", "(I)Ljava/lang/String;"⟩ : MethodName)) (z := (⟨"com/example/ceruline/ceruline/parsing/SourceReader", "textFrom", "(I)Ljava/lang/String;"⟩ : MethodName)) hown26 hS26 (by omega) (wq hw 112 rfl) (wq hw 113 rfl) (notFace_of_selects (args := #[]) (mvT hZ26 (wq hw 115 rfl))) (wq hw 115 rfl) (wq hw 114 rfl) (by decide) f538 (backOfW (W := 0) (rm_tf3_3 l Z a0 hw zc fm b22 b15 t19 kt19 (nar .byte ((p0 &&& (255 : Int32)).toInt8.toInt32)) (nar .byte ((p1 &&& (255 : Int32)).toInt8.toInt32)) (nar .byte ((p2 &&& (255 : Int32)).toInt8.toInt32)) h527 n0 (by omega) S_c hzc S_f hfm f530 f531 f532 f533 f534 f535 f536 (by omega)) hZ26 (wq hw 116 rfl) (wq hw 32 rfl) (by decide) (by decide) (own_EW hw) C527.1 all0) e527 (argsL := [(.int (3 : Int32))]) (rest := []) rfl rfl pd_21 rfl (by rw [hml]; rfl) (hb hby at_123) (Nat.le_of_eq rfl) (by decide) (by decide) k529
      have k537 : To p.tables e below S0 (T537.setTop (mkF m 126 l528 [(.ref a537)])) := k537a
      have N537 := N527.app Nq537
      obtain ⟨h537, e537⟩ : ∃ z, T537.heap = z := ⟨_, rfl⟩
      rw [e537] at Kq537 ya537 yt537 P5370 P5371 P5372 P5373 Cq537 hS537
      have z537 : h527.size ≤ h537.size := Kq537.1
      have C537 := C527.trans Cq537
      let l539 : Array Slot := #[.val (.int p0), .val (.int p1), .val (.int p2), .val (.int mv_), .val (.ref b3), .val (.ref b15), .val (.ref b22), .val (.int (2 : Int32)), .val (.int (1 : Int32)), .val (.int (2 : Int32)), .val (.int (3 : Int32)), .val (.ref a527), .val (.ref a537)]
      have k540 : To p.tables e below S0 (T537.setTop (mkF m 149 l539 [(.ref a537)])) := fun tt hq => k537 tt (by
        refine XS.astore X537.here hx rfl (hb hby at_126) rfl rfl (l' := l539) rfl ?_
        refine XS.iload X537.here hx rfl (hb hby at_128) rfl ?_
        refine XS.iload X537.here hx rfl (hb hby at_130) rfl ?_
        refine XS.icmpNo X537.here hx rfl (hb hby at_132) rfl (teq (by decide)).2 ?_
        refine XS.iload X537.here hx rfl (hb hby at_135) rfl ?_
        refine XS.iload X537.here hx rfl (hb hby at_137) rfl ?_
        refine XS.iload X537.here hx rfl (hb hby at_139) rfl ?_
        refine XS.iadd X537.here hx rfl (hb hby at_141) rfl ?_
        refine XS.icmpYes X537.here hx rfl (pc0 := 142) (pc' := 147) rfl (hb hby at_142) rfl (teq (by decide)).1 (by decide) (by decide) ?_
        refine XS.aload X537.here hx rfl (hb hby at_147) rfl rfl ?_
        exact hq)
      obtain ⟨_, T541, L541, X541, ⟨rfl, Nq541, eq541⟩, k541a⟩ := callV' X537 hx hZ537 (y := (⟨"java/lang/String", "isEmpty", "()Z"⟩ : MethodName)) (z := (⟨"java/lang/String", "isEmpty", "()Z"⟩ : MethodName)) hown537 (wq hw 143 rfl) (wq hw 144 rfl) (notFace_of_selects (args := #[]) (mvT hZ537 (wq hw 146 rfl))) (wq hw 146 rfl) (wq hw 145 rfl) (by decide) P5370 (backC (W := 0) (rm_em l Z a0 hw a537 t537 k537x h537 n0 (by omega) P5370 P5371 P5372 P5373) hZ537 (wq hw 147 rfl) (wq hw 3 rfl) (by decide) (by decide)) e537 (argsL := []) (rest := []) rfl rfl pd_6 rfl (by rw [hml]; rfl) (hb hby at_149) (Nat.le_of_eq rfl) (by decide) (by decide) k540
      have k541 : To p.tables e below S0 (T541.setTop (mkF m 152 l539 [(.int (1 : Int32))])) := k541a
      have N541 := N537.app Nq541
      have e541 : T541.heap = h537 := eq541
      have k542 : To p.tables e below S0 (T541.setTop (mkF m 159 l539 [(.ref a527)])) := fun tt hq => k541 tt (by
        refine XS.ifYes X541.here hx rfl (pc0 := 152) (pc' := 157) rfl (hb hby at_152) rfl ((if0 _ _).trans (feq (by decide)).2) (by decide) (by decide) ?_
        refine XS.aload X541.here hx rfl (hb hby at_157) rfl rfl ?_
        exact hq)
      have f543 : Old Z n0 h537 := (f530.keep Kq537 all0)
      have f544 : Exa Z h537 a527 "java/lang/String" := (P5270.keep Kq537)
      have f545 : Fld Z h537 a527 "java/lang/String" "value" "[B" (.ref t527) := (P5271.keep Kq537 nin0)
      have f546 : Fld Z h537 a527 "java/lang/String" "coder" "B" (.int (0 : Int32)) := (P5272.keep Kq537 nin0)
      have f547 : Arv Z h537 t527 k527x .byte (1 : Int32) [(.int (nar .byte ((p2 &&& (255 : Int32)).toInt8.toInt32)))] (.int 0) := (P5273.keep Kq537 nin0)
      obtain ⟨_, T548, L548, X548, ⟨rfl, Nq548, eq548⟩, k548a⟩ := callV' X541 hx hZ537 (y := (⟨"java/lang/String", "length", "()I"⟩ : MethodName)) (z := (⟨"java/lang/String", "length", "()I"⟩ : MethodName)) hown537 (wq hw 148 rfl) (wq hw 123 rfl) (notFace_of_selects (args := #[]) (mvT hZ537 (wq hw 125 rfl))) (wq hw 125 rfl) (wq hw 124 rfl) (by decide) f544 (backC (W := 0) (rm_len1 l Z a0 hw zc a527 t527 k527x (nar .byte ((p2 &&& (255 : Int32)).toInt8.toInt32)) h537 n0 (by omega) S_c hzc f543 f544 f545 f546 f547) hZ537 (wq hw 126 rfl) (wq hw 3 rfl) (by decide) (by decide)) e541 (argsL := []) (rest := []) rfl rfl pd_17 rfl (by rw [hml]; rfl) (hb hby at_159) (Nat.le_of_eq rfl) (by decide) (by decide) k542
      have k548 : To p.tables e below S0 (T548.setTop (mkF m 162 l539 [(.int (1 : Int32))])) := k548a
      have N548 := N541.app Nq548
      have e548 : T548.heap = h537 := eq548
      have k549 : To p.tables e below S0 (T548.setTop (mkF m 178 l539 [(.int (0 : Int32)), (.ref a527)])) := fun tt hq => k548 tt (by
        refine XS.iload X548.here hx rfl (hb hby at_162) rfl ?_
        refine XS.icmpYes X548.here hx rfl (pc0 := 164) (pc' := 169) rfl (hb hby at_164) rfl (teq (by decide)).1 (by decide) (by decide) ?_
        refine XS.iload X548.here hx rfl (hb hby at_169) rfl ?_
        refine XS.iconst X548.here hx rfl (hb hby at_171) ?_
        refine XS.icmpNo X548.here hx rfl (hb hby at_172) rfl (flt (by decide)).1 ?_
        refine XS.aload X548.here hx rfl (hb hby at_175) rfl rfl ?_
        refine XS.iconst X548.here hx rfl (hb hby at_177) ?_
        exact hq)
      obtain ⟨_, T550, L550, X550, ⟨rfl, Nq550, eq550⟩, k550a⟩ := callV' X548 hx hZ537 (y := (⟨"java/lang/String", "charAt", "(I)C"⟩ : MethodName)) (z := (⟨"java/lang/String", "charAt", "(I)C"⟩ : MethodName)) hown537 (wq hw 168 rfl) (wq hw 169 rfl) (notFace_of_selects (args := #[]) (mvT hZ537 (wq hw 171 rfl))) (wq hw 171 rfl) (wq hw 170 rfl) (by decide) f544 (backC (W := 0) (rm_ca1_0 l Z a0 hw zc fm a527 t527 k527x (nar .byte ((p2 &&& (255 : Int32)).toInt8.toInt32)) (p2 &&& (255 : Int32)) h537 n0 (by omega) S_c hzc S_f hfm f543 f544 f545 f546 f547 (own_b255 (own_m255 _))) hZ537 (wq hw 172 rfl) (wq hw 3 rfl) (by decide) (by decide)) e548 (argsL := [(.int (0 : Int32))]) (rest := []) rfl rfl pd_25 rfl (by rw [hml]; rfl) (hb hby at_178) (Nat.le_of_eq rfl) (by decide) (by decide) k549
      have k550 : To p.tables e below S0 (T550.setTop (mkF m 181 l539 [(.int (p2 &&& (255 : Int32)))])) := k550a
      have N550 := N548.app Nq550
      have e550 : T550.heap = h537 := eq550
      have f551 : Arv Z h537 b3 c3 .char (3 : Int32) [(.int (p0 &&& (255 : Int32))), (.int (p1 &&& (255 : Int32))), (.int (p2 &&& (255 : Int32)))] (.int (0 : Int32)) := ((((((((((f18.keep Kq19 (nin1 (by omega))).ext E22).ext E24).ext E26).keep Kq32 (nin1 (by omega))).keep Kq39 (nin1 (by omega))).keep Kq507 (nin1 (by omega))).keep Kq517 (nin1 (by omega))).keep Kq527 nin0).keep Kq537 nin0)
      have k552 : To p.tables e below S0 (T550.setTop (mkF m 185 l539 [(.int (2 : Int32)), (.ref b3), (.int (p2 &&& (255 : Int32)))])) := fun tt hq => k550 tt (by
        refine XS.aload X550.here hx rfl (hb hby at_181) rfl rfl ?_
        refine XS.iload X550.here hx rfl (hb hby at_183) rfl ?_
        exact hq)
      obtain ⟨cl553, Ar553, -, S553, -, G553, -⟩ := id f551
      have hi553 := inb_of (j := (2 : Int32)) S553 ⟨by decide, by decide⟩
      have st553 := fun tt => X550.caload hx (j := (2 : Int32)) (v := (.int (p2 &&& (255 : Int32)))) (by rw [e550]; exact Ar553.1) (State.isArrayOf_alike hZ537.alike Ar553.2.1) Ar553.2.2 hi553 (G553.at hi553 rfl) (g := (mkF m 185 l539 [(.int (2 : Int32)), (.ref b3), (.int (p2 &&& (255 : Int32)))])) rfl rfl (hb hby at_185) tt
      have k553 : To p.tables e below S0 (T550.setTop (mkF m 186 l539 [(.int (p2 &&& (255 : Int32))), (.int (p2 &&& (255 : Int32)))])) := fun tt hq => k552 tt (st553 tt hq)
      have k554 : To p.tables e below S0 (T550.setTop (mkF m 240 l539 [(.int (1 : Int32))])) := fun tt hq => k553 tt (by
        refine XS.icmpYes X550.here hx rfl (pc0 := 186) (pc' := 191) rfl (hb hby at_186) rfl (teq rfl).1 (by decide) (by decide) ?_
        refine XS.iload X550.here hx rfl (hb hby at_191) rfl ?_
        refine XS.iconst X550.here hx rfl (hb hby at_193) ?_
        refine XS.icmpYes X550.here hx rfl (pc0 := 194) (pc' := 215) rfl (hb hby at_194) rfl (tlt (by decide)).1 (by decide) (by decide) ?_
        refine XS.iload X550.here hx rfl (hb hby at_215) rfl ?_
        refine XS.iconst X550.here hx rfl (hb hby at_217) ?_
        refine XS.icmpYes X550.here hx rfl (pc0 := 218) (pc' := 239) rfl (hb hby at_218) rfl (tlt (by decide)).1 (by decide) (by decide) ?_
        refine XS.iconst X550.here hx rfl (hb hby at_239) ?_
        exact hq)
      refine retIntW X550 hx hZ537 (own_EW hw) hS537 (by omega) C537 e550 hret hlk (by simp) rfl (hb hby at_240) k554 ?_ (by decide) (by decide)
      exact ⟨rfl, N550⟩
  · -- pc 66: (3 : Int32)
    have k555 : To p.tables e below S0 (T39.setTop (mkF m 66 l40 [(.int (3 : Int32))])) := by have hq := k41; rw [ht42] at hq; exact hq
    let l556 : Array Slot := #[.val (.int p0), .val (.int p1), .val (.int p2), .val (.int mv_), .val (.ref b3), .val (.ref b15), .val (.ref b22), .val (.int (3 : Int32)), .unset, .unset, .unset, .unset, .unset]
    have k557 : To p.tables e below S0 (T39.setTop (mkF m 77 l556 [(.int (0 : Int32)), (.int (((mv_.toUInt32 >>> ((2 : Int32) &&& 31).toUInt32).toInt32) &&& (3 : Int32)))])) := fun tt hq => k555 tt (by
      refine XS.istore X39.here hx rfl (hb hby at_66) rfl (l' := l556) rfl ?_
      refine XS.iloadN X39.here hx rfl (hb hby at_68) rfl ?_
      refine XS.iconst X39.here hx rfl (hb hby at_69) ?_
      refine XS.iushr X39.here hx rfl (hb hby at_70) rfl ?_
      refine XS.iconst X39.here hx rfl (hb hby at_71) ?_
      refine XS.iand X39.here hx rfl (hb hby at_72) rfl ?_
      refine XS.iconst X39.here hx rfl (hb hby at_73) ?_
      refine XS.iload X39.here hx rfl (hb hby at_74) rfl ?_
      refine XS.isub X39.here hx rfl (hb hby at_76) rfl ?_
      exact hq)
    obtain ⟨_, T558, L558, X558, ⟨rfl, Nq558, eq558⟩, k558a⟩ := callS' X39 hx hZ26 (y := (⟨"java/lang/Math", "min", "(II)I"⟩ : MethodName)) hown26 (wq hw 69 rfl) (wq hw 70 rfl) (wq hw 71 rfl) (wq hw 72 rfl) (by decide) (backC (W := 0) (rm_min l Z a0 hw (((mv_.toUInt32 >>> ((2 : Int32) &&& 31).toUInt32).toInt32) &&& (3 : Int32)) (0 : Int32) (if (0 : Int32) < (((mv_.toUInt32 >>> ((2 : Int32) &&& 31).toUInt32).toInt32) &&& (3 : Int32)) then (0 : Int32) else (((mv_.toUInt32 >>> ((2 : Int32) &&& 31).toUInt32).toInt32) &&& (3 : Int32))) h39 n0 (by omega) rfl) hZ26 (wq hw 72 rfl) (wq hw 71 rfl) (by decide) (by decide)) e39 (argsL := [(.int (((mv_.toUInt32 >>> ((2 : Int32) &&& 31).toUInt32).toInt32) &&& (3 : Int32))), (.int (0 : Int32))]) (rest := []) rfl rfl pd_15 rfl (by rw [hml]; rfl) (hb hby at_77) (Nat.le_of_eq rfl) (by decide) (by decide) k557
    have k558 : To p.tables e below S0 (T558.setTop (mkF m 80 l556 [(.int (if (0 : Int32) < (((mv_.toUInt32 >>> ((2 : Int32) &&& 31).toUInt32).toInt32) &&& (3 : Int32)) then (0 : Int32) else (((mv_.toUInt32 >>> ((2 : Int32) &&& 31).toUInt32).toInt32) &&& (3 : Int32))))])) := k558a
    have N558 := N39.app Nq558
    have e558 : T558.heap = h39 := eq558
    rcases own_b3 _ with ht559
    · -- pc 80: (0 : Int32)
      have k560 : To p.tables e below S0 (T558.setTop (mkF m 80 l556 [(.int (0 : Int32))])) := by have hq := k558; rw [ht559] at hq; exact hq
      let l561 : Array Slot := #[.val (.int p0), .val (.int p1), .val (.int p2), .val (.int mv_), .val (.ref b3), .val (.ref b15), .val (.ref b22), .val (.int (3 : Int32)), .val (.int (0 : Int32)), .unset, .unset, .unset, .unset]
      have k562 : To p.tables e below S0 (T558.setTop (mkF m 86 l561 [(.int (3 : Int32)), (.ref b22)])) := fun tt hq => k560 tt (by
        refine XS.istore X558.here hx rfl (hb hby at_80) rfl (l' := l561) rfl ?_
        refine XS.aload X558.here hx rfl (hb hby at_82) rfl rfl ?_
        refine XS.iload X558.here hx rfl (hb hby at_84) rfl ?_
        exact hq)
      have f563 : Old Z n0 h39 := ((((((f17.keep Kq19 (allS (by omega) all0)).ext E22).ext E24).ext E26).keep Kq32 (allS (by omega) all0)).keep Kq39 (allS (by omega) all0))
      have f564 : Exa Z h39 b15 "java/lang/String" := (((((P190.ext E22).ext E24).ext E26).keep Kq32).keep Kq39)
      have f565 : Fld Z h39 b15 "java/lang/String" "value" "[B" (.ref t19) := (((((P191.ext E22).ext E24).ext E26).keep Kq32 (nin1 (by omega))).keep Kq39 (nin1 (by omega)))
      have f566 : Fld Z h39 b15 "java/lang/String" "coder" "B" (.int (0 : Int32)) := (((((P192.ext E22).ext E24).ext E26).keep Kq32 (nin1 (by omega))).keep Kq39 (nin1 (by omega)))
      have f567 : Arv Z h39 t19 kt19 .byte (3 : Int32) [(.int (nar .byte ((p0 &&& (255 : Int32)).toInt8.toInt32))), (.int (nar .byte ((p1 &&& (255 : Int32)).toInt8.toInt32))), (.int (nar .byte ((p2 &&& (255 : Int32)).toInt8.toInt32)))] (.int 0) := (((((P193.ext E22).ext E24).ext E26).keep Kq32 (nin1 (by omega))).keep Kq39 (nin1 (by omega)))
      obtain ⟨_, T568, L568, X568, ⟨x568, y568x, rfl, Nq568, Kq568, P568_0, P568_1, P568_2, P568_3, P568_4, P568_5⟩, k568a⟩ := callS' X558 hx hZ26 (y := (⟨"com/example/ceruline/ceruline/parsing/SourceReaderTextFromPinLaw", "steps", "(Lcom/example/ceruline/ceruline/parsing/SourceReader;I)V"⟩ : MethodName)) hown26 (wq hw 73 rfl) (wq hw 74 rfl) (wq hw 75 rfl) (wq hw 76 rfl) (by decide) (backC (W := 0) (rm_st0_3 l Z a0 hw zc fm b22 b24 b15 t19 kt19 (nar .byte ((p0 &&& (255 : Int32)).toInt8.toInt32)) (nar .byte ((p1 &&& (255 : Int32)).toInt8.toInt32)) (nar .byte ((p2 &&& (255 : Int32)).toInt8.toInt32)) (1 : Int32) (1 : Int32) h39 n0 (by omega) S_c hzc S_f hfm f563 P39_0 P39_1 P39_2 P39_3 P39_4 P39_5 f564 f565 f566 f567 (by omega) (by omega) (by omega)) hZ26 (wq hw 76 rfl) (wq hw 75 rfl) (by decide) (by decide)) e558 (argsL := [(.ref b22), (.int (3 : Int32))]) (rest := []) rfl rfl pd_16 rfl (by rw [hml]; rfl) (hb hby at_86) (Nat.le_of_eq rfl) (by decide) (by decide) k562
      have k568 : To p.tables e below S0 (T568.setTop (mkF m 89 l561 [])) := k568a
      have N568 := N558.app Nq568
      obtain ⟨h568, e568⟩ : ∃ z, T568.heap = z := ⟨_, rfl⟩
      rw [e568] at Kq568 P568_0 P568_1 P568_2 P568_3 P568_4 P568_5
      have z568 : h39.size ≤ h568.size := Kq568.1
      have C568 := C39.trans (CHr.keep Kq568 (sfS (Safe.exa hZ26.alike P39_0 (by decide) (by decide)) sf0) C39.1)
      have k569 : To p.tables e below S0 (T568.setTop (mkF m 91 l561 [(.ref b22)])) := fun tt hq => k568 tt (by
        refine XS.aload X568.here hx rfl (hb hby at_89) rfl rfl ?_
        exact hq)
      obtain ⟨_, T570, L570, X570, ⟨rfl, Nq570, eq570⟩, k570a⟩ := callV' X568 hx hZ26 (y := (⟨"com/example/ceruline/ceruline/parsing/SourceReader", "offset", "()I"⟩ : MethodName)) (z := (⟨"com/example/ceruline/ceruline/parsing/SourceReader", "offset", "()I"⟩ : MethodName)) hown26 (wq hw 107 rfl) (wq hw 108 rfl) (notFace_of_selects (args := #[]) (mvT hZ26 (wq hw 110 rfl))) (wq hw 110 rfl) (wq hw 109 rfl) (by decide) P568_0 (backC (W := 0) (rm_off l Z a0 hw b22 (3 : Int32) h568 n0 (by omega) P568_3) hZ26 (wq hw 111 rfl) (wq hw 32 rfl) (by decide) (by decide)) e568 (argsL := []) (rest := []) rfl rfl pd_17 rfl (by rw [hml]; rfl) (hb hby at_91) (Nat.le_of_eq rfl) (by decide) (by decide) k569
      have k570 : To p.tables e below S0 (T570.setTop (mkF m 94 l561 [(.int (3 : Int32))])) := k570a
      have N570 := N568.app Nq570
      have e570 : T570.heap = h568 := eq570
      let l571 : Array Slot := #[.val (.int p0), .val (.int p1), .val (.int p2), .val (.int mv_), .val (.ref b3), .val (.ref b15), .val (.ref b22), .val (.int (3 : Int32)), .val (.int (0 : Int32)), .val (.int (3 : Int32)), .unset, .unset, .unset]
      have k572 : To p.tables e below S0 (T570.setTop (mkF m 100 l571 [(.int (0 : Int32)), (.ref b22)])) := fun tt hq => k570 tt (by
        refine XS.istore X570.here hx rfl (hb hby at_94) rfl (l' := l571) rfl ?_
        refine XS.aload X570.here hx rfl (hb hby at_96) rfl rfl ?_
        refine XS.iload X570.here hx rfl (hb hby at_98) rfl ?_
        exact hq)
      have f573 : Old Z n0 h568 := (f563.keep Kq568 (allS (by omega) all0))
      have f574 : Exa Z h568 b15 "java/lang/String" := (f564.keep Kq568)
      have f575 : Fld Z h568 b15 "java/lang/String" "value" "[B" (.ref t19) := (f565.keep Kq568 (nin1 (by omega)))
      have f576 : Fld Z h568 b15 "java/lang/String" "coder" "B" (.int (0 : Int32)) := (f566.keep Kq568 (nin1 (by omega)))
      have f577 : Arv Z h568 t19 kt19 .byte (3 : Int32) [(.int (nar .byte ((p0 &&& (255 : Int32)).toInt8.toInt32))), (.int (nar .byte ((p1 &&& (255 : Int32)).toInt8.toInt32))), (.int (nar .byte ((p2 &&& (255 : Int32)).toInt8.toInt32)))] (.int 0) := (f567.keep Kq568 (nin1 (by omega)))
      obtain ⟨_, T578, L578, X578, ⟨x578, y578x, rfl, Nq578, Kq578, P578_0, P578_1, P578_2, P578_3, P578_4, P578_5⟩, k578a⟩ := callS' X570 hx hZ26 (y := (⟨"com/example/ceruline/ceruline/parsing/SourceReaderTextFromPinLaw", "steps", "(Lcom/example/ceruline/ceruline/parsing/SourceReader;I)V"⟩ : MethodName)) hown26 (wq hw 73 rfl) (wq hw 74 rfl) (wq hw 75 rfl) (wq hw 76 rfl) (by decide) (backC (W := 0) (rm_st3_0 l Z a0 hw zc fm b22 b24 b15 t19 kt19 (nar .byte ((p0 &&& (255 : Int32)).toInt8.toInt32)) (nar .byte ((p1 &&& (255 : Int32)).toInt8.toInt32)) (nar .byte ((p2 &&& (255 : Int32)).toInt8.toInt32)) x568 y568x h568 n0 (by omega) S_c hzc S_f hfm f573 P568_0 P568_1 P568_2 P568_3 P568_4 P568_5 f574 f575 f576 f577 (by omega) (by omega) (by omega)) hZ26 (wq hw 76 rfl) (wq hw 75 rfl) (by decide) (by decide)) e570 (argsL := [(.ref b22), (.int (0 : Int32))]) (rest := []) rfl rfl pd_16 rfl (by rw [hml]; rfl) (hb hby at_100) (Nat.le_of_eq rfl) (by decide) (by decide) k572
      have k578 : To p.tables e below S0 (T578.setTop (mkF m 103 l571 [])) := k578a
      have N578 := N570.app Nq578
      obtain ⟨h578, e578⟩ : ∃ z, T578.heap = z := ⟨_, rfl⟩
      rw [e578] at Kq578 P578_0 P578_1 P578_2 P578_3 P578_4 P578_5
      have z578 : h568.size ≤ h578.size := Kq578.1
      have C578 := C568.trans (CHr.keep Kq578 (sfS (Safe.exa hZ26.alike P568_0 (by decide) (by decide)) sf0) C568.1)
      have k579 : To p.tables e below S0 (T578.setTop (mkF m 105 l571 [(.ref b22)])) := fun tt hq => k578 tt (by
        refine XS.aload X578.here hx rfl (hb hby at_103) rfl rfl ?_
        exact hq)
      obtain ⟨_, T580, L580, X580, ⟨rfl, Nq580, eq580⟩, k580a⟩ := callV' X578 hx hZ26 (y := (⟨"com/example/ceruline/ceruline/parsing/SourceReader", "offset", "()I"⟩ : MethodName)) (z := (⟨"com/example/ceruline/ceruline/parsing/SourceReader", "offset", "()I"⟩ : MethodName)) hown26 (wq hw 107 rfl) (wq hw 108 rfl) (notFace_of_selects (args := #[]) (mvT hZ26 (wq hw 110 rfl))) (wq hw 110 rfl) (wq hw 109 rfl) (by decide) P578_0 (backC (W := 0) (rm_off l Z a0 hw b22 (3 : Int32) h578 n0 (by omega) P578_3) hZ26 (wq hw 111 rfl) (wq hw 32 rfl) (by decide) (by decide)) e578 (argsL := []) (rest := []) rfl rfl pd_17 rfl (by rw [hml]; rfl) (hb hby at_105) (Nat.le_of_eq rfl) (by decide) (by decide) k579
      have k580 : To p.tables e below S0 (T580.setTop (mkF m 108 l571 [(.int (3 : Int32))])) := k580a
      have N580 := N578.app Nq580
      have e580 : T580.heap = h578 := eq580
      let l581 : Array Slot := #[.val (.int p0), .val (.int p1), .val (.int p2), .val (.int mv_), .val (.ref b3), .val (.ref b15), .val (.ref b22), .val (.int (3 : Int32)), .val (.int (0 : Int32)), .val (.int (3 : Int32)), .val (.int (3 : Int32)), .unset, .unset]
      have k582 : To p.tables e below S0 (T580.setTop (mkF m 114 l581 [(.int (3 : Int32)), (.ref b22)])) := fun tt hq => k580 tt (by
        refine XS.istore X580.here hx rfl (hb hby at_108) rfl (l' := l581) rfl ?_
        refine XS.aload X580.here hx rfl (hb hby at_110) rfl rfl ?_
        refine XS.iload X580.here hx rfl (hb hby at_112) rfl ?_
        exact hq)
      have f583 : Old Z n0 h578 := (f573.keep Kq578 (allS (by omega) all0))
      have f584 : Exa Z h578 b15 "java/lang/String" := (f574.keep Kq578)
      have f585 : Fld Z h578 b15 "java/lang/String" "value" "[B" (.ref t19) := (f575.keep Kq578 (nin1 (by omega)))
      have f586 : Fld Z h578 b15 "java/lang/String" "coder" "B" (.int (0 : Int32)) := (f576.keep Kq578 (nin1 (by omega)))
      have f587 : Arv Z h578 t19 kt19 .byte (3 : Int32) [(.int (nar .byte ((p0 &&& (255 : Int32)).toInt8.toInt32))), (.int (nar .byte ((p1 &&& (255 : Int32)).toInt8.toInt32))), (.int (nar .byte ((p2 &&& (255 : Int32)).toInt8.toInt32)))] (.int 0) := (f577.keep Kq578 (nin1 (by omega)))
      obtain ⟨_, T588, L588, X588, ⟨a588, t588, k588x, rfl, Nq588, ya588, yt588, Kq588, P5880, P5881, P5882, P5883⟩, k588a, Cq588, hS588, hZ588, hown588⟩ := callVW X580 hx hZ26 (y := (⟨"com/example/ceruline/ceruline/parsing/SourceReader", "textFrom", "(I)Ljava/lang/String;"⟩ : MethodName)) (z := (⟨"com/example/ceruline/ceruline/parsing/SourceReader", "textFrom", "(I)Ljava/lang/String;"⟩ : MethodName)) hown26 hS26 (by omega) (wq hw 112 rfl) (wq hw 113 rfl) (notFace_of_selects (args := #[]) (mvT hZ26 (wq hw 115 rfl))) (wq hw 115 rfl) (wq hw 114 rfl) (by decide) P578_0 (backOfW (W := 0) (rm_tf3_3 l Z a0 hw zc fm b22 b15 t19 kt19 (nar .byte ((p0 &&& (255 : Int32)).toInt8.toInt32)) (nar .byte ((p1 &&& (255 : Int32)).toInt8.toInt32)) (nar .byte ((p2 &&& (255 : Int32)).toInt8.toInt32)) h578 n0 (by omega) S_c hzc S_f hfm f583 P578_2 P578_3 f584 f585 f586 f587 (by omega)) hZ26 (wq hw 116 rfl) (wq hw 32 rfl) (by decide) (by decide) (own_EW hw) C578.1 all0) e580 (argsL := [(.int (3 : Int32))]) (rest := []) rfl rfl pd_21 rfl (by rw [hml]; rfl) (hb hby at_114) (Nat.le_of_eq rfl) (by decide) (by decide) k582
      have k588 : To p.tables e below S0 (T588.setTop (mkF m 117 l581 [(.ref a588)])) := k588a
      have N588 := N580.app Nq588
      obtain ⟨h588, e588⟩ : ∃ z, T588.heap = z := ⟨_, rfl⟩
      rw [e588] at Kq588 ya588 yt588 P5880 P5881 P5882 P5883 Cq588 hS588
      have z588 : h578.size ≤ h588.size := Kq588.1
      have C588 := C578.trans Cq588
      let l589 : Array Slot := #[.val (.int p0), .val (.int p1), .val (.int p2), .val (.int mv_), .val (.ref b3), .val (.ref b15), .val (.ref b22), .val (.int (3 : Int32)), .val (.int (0 : Int32)), .val (.int (3 : Int32)), .val (.int (3 : Int32)), .val (.ref a588), .unset]
      have k590 : To p.tables e below S0 (T588.setTop (mkF m 123 l589 [(.int (3 : Int32)), (.ref b22)])) := fun tt hq => k588 tt (by
        refine XS.astore X588.here hx rfl (hb hby at_117) rfl rfl (l' := l589) rfl ?_
        refine XS.aload X588.here hx rfl (hb hby at_119) rfl rfl ?_
        refine XS.iload X588.here hx rfl (hb hby at_121) rfl ?_
        exact hq)
      have f591 : Old Z n0 h588 := (f583.keep Kq588 all0)
      have f592 : Fld Z h588 b22 "com/example/ceruline/ceruline/parsing/SourceReader" "text" "Ljava/lang/String;" (.ref b15) := (P578_2.keep Kq588 nin0)
      have f593 : Fld Z h588 b22 "com/example/ceruline/ceruline/parsing/SourceReader" "offset" "I" (.int (3 : Int32)) := (P578_3.keep Kq588 nin0)
      have f594 : Exa Z h588 b15 "java/lang/String" := (f584.keep Kq588)
      have f595 : Fld Z h588 b15 "java/lang/String" "value" "[B" (.ref t19) := (f585.keep Kq588 nin0)
      have f596 : Fld Z h588 b15 "java/lang/String" "coder" "B" (.int (0 : Int32)) := (f586.keep Kq588 nin0)
      have f597 : Arv Z h588 t19 kt19 .byte (3 : Int32) [(.int (nar .byte ((p0 &&& (255 : Int32)).toInt8.toInt32))), (.int (nar .byte ((p1 &&& (255 : Int32)).toInt8.toInt32))), (.int (nar .byte ((p2 &&& (255 : Int32)).toInt8.toInt32)))] (.int 0) := (f587.keep Kq588 nin0)
      have f599 : Exa Z h588 b22 "com/example/ceruline/ceruline/parsing/SourceReader" := (P578_0.keep Kq588)
      obtain ⟨_, T598, L598, X598, ⟨a598, t598, k598x, rfl, Nq598, ya598, yt598, Kq598, P5980, P5981, P5982, P5983⟩, k598a, Cq598, hS598, hZ598, hown598⟩ := callVW X588 hx hZ588 (y := (⟨"com/example/ceruline/ceruline/parsing/SourceReader", "textFrom", "(I)Ljava/lang/String;"⟩ : MethodName)) (z := (⟨"com/example/ceruline/ceruline/parsing/SourceReader", "textFrom", "(I)Ljava/lang/String;"⟩ : MethodName)) hown588 hS588 (by omega) (wq hw 112 rfl) (wq hw 113 rfl) (notFace_of_selects (args := #[]) (mvT hZ588 (wq hw 115 rfl))) (wq hw 115 rfl) (wq hw 114 rfl) (by decide) f599 (backOfW (W := 0) (rm_tf3_3 l Z a0 hw zc fm b22 b15 t19 kt19 (nar .byte ((p0 &&& (255 : Int32)).toInt8.toInt32)) (nar .byte ((p1 &&& (255 : Int32)).toInt8.toInt32)) (nar .byte ((p2 &&& (255 : Int32)).toInt8.toInt32)) h588 n0 (by omega) S_c hzc S_f hfm f591 f592 f593 f594 f595 f596 f597 (by omega)) hZ588 (wq hw 116 rfl) (wq hw 32 rfl) (by decide) (by decide) (own_EW hw) C588.1 all0) e588 (argsL := [(.int (3 : Int32))]) (rest := []) rfl rfl pd_21 rfl (by rw [hml]; rfl) (hb hby at_123) (Nat.le_of_eq rfl) (by decide) (by decide) k590
      have k598 : To p.tables e below S0 (T598.setTop (mkF m 126 l589 [(.ref a598)])) := k598a
      have N598 := N588.app Nq598
      obtain ⟨h598, e598⟩ : ∃ z, T598.heap = z := ⟨_, rfl⟩
      rw [e598] at Kq598 ya598 yt598 P5980 P5981 P5982 P5983 Cq598 hS598
      have z598 : h588.size ≤ h598.size := Kq598.1
      have C598 := C588.trans Cq598
      let l600 : Array Slot := #[.val (.int p0), .val (.int p1), .val (.int p2), .val (.int mv_), .val (.ref b3), .val (.ref b15), .val (.ref b22), .val (.int (3 : Int32)), .val (.int (0 : Int32)), .val (.int (3 : Int32)), .val (.int (3 : Int32)), .val (.ref a588), .val (.ref a598)]
      have k601 : To p.tables e below S0 (T598.setTop (mkF m 149 l600 [(.ref a598)])) := fun tt hq => k598 tt (by
        refine XS.astore X598.here hx rfl (hb hby at_126) rfl rfl (l' := l600) rfl ?_
        refine XS.iload X598.here hx rfl (hb hby at_128) rfl ?_
        refine XS.iload X598.here hx rfl (hb hby at_130) rfl ?_
        refine XS.icmpNo X598.here hx rfl (hb hby at_132) rfl (teq (by decide)).2 ?_
        refine XS.iload X598.here hx rfl (hb hby at_135) rfl ?_
        refine XS.iload X598.here hx rfl (hb hby at_137) rfl ?_
        refine XS.iload X598.here hx rfl (hb hby at_139) rfl ?_
        refine XS.iadd X598.here hx rfl (hb hby at_141) rfl ?_
        refine XS.icmpYes X598.here hx rfl (pc0 := 142) (pc' := 147) rfl (hb hby at_142) rfl (teq (by decide)).1 (by decide) (by decide) ?_
        refine XS.aload X598.here hx rfl (hb hby at_147) rfl rfl ?_
        exact hq)
      obtain ⟨_, T602, L602, X602, ⟨rfl, Nq602, eq602⟩, k602a⟩ := callV' X598 hx hZ598 (y := (⟨"java/lang/String", "isEmpty", "()Z"⟩ : MethodName)) (z := (⟨"java/lang/String", "isEmpty", "()Z"⟩ : MethodName)) hown598 (wq hw 143 rfl) (wq hw 144 rfl) (notFace_of_selects (args := #[]) (mvT hZ598 (wq hw 146 rfl))) (wq hw 146 rfl) (wq hw 145 rfl) (by decide) P5980 (backC (W := 0) (rm_em l Z a0 hw a598 t598 k598x h598 n0 (by omega) P5980 P5981 P5982 P5983) hZ598 (wq hw 147 rfl) (wq hw 3 rfl) (by decide) (by decide)) e598 (argsL := []) (rest := []) rfl rfl pd_6 rfl (by rw [hml]; rfl) (hb hby at_149) (Nat.le_of_eq rfl) (by decide) (by decide) k601
      have k602 : To p.tables e below S0 (T602.setTop (mkF m 152 l600 [(.int (1 : Int32))])) := k602a
      have N602 := N598.app Nq602
      have e602 : T602.heap = h598 := eq602
      have k603 : To p.tables e below S0 (T602.setTop (mkF m 159 l600 [(.ref a588)])) := fun tt hq => k602 tt (by
        refine XS.ifYes X602.here hx rfl (pc0 := 152) (pc' := 157) rfl (hb hby at_152) rfl ((if0 _ _).trans (feq (by decide)).2) (by decide) (by decide) ?_
        refine XS.aload X602.here hx rfl (hb hby at_157) rfl rfl ?_
        exact hq)
      have f604 : Old Z n0 h598 := (f591.keep Kq598 all0)
      have f605 : Exa Z h598 a588 "java/lang/String" := (P5880.keep Kq598)
      have f606 : Fld Z h598 a588 "java/lang/String" "value" "[B" (.ref t588) := (P5881.keep Kq598 nin0)
      have f607 : Fld Z h598 a588 "java/lang/String" "coder" "B" (.int (0 : Int32)) := (P5882.keep Kq598 nin0)
      have f608 : Arv Z h598 t588 k588x .byte (0 : Int32) [] (.int 0) := (P5883.keep Kq598 nin0)
      obtain ⟨_, T609, L609, X609, ⟨rfl, Nq609, eq609⟩, k609a⟩ := callV' X602 hx hZ598 (y := (⟨"java/lang/String", "length", "()I"⟩ : MethodName)) (z := (⟨"java/lang/String", "length", "()I"⟩ : MethodName)) hown598 (wq hw 148 rfl) (wq hw 123 rfl) (notFace_of_selects (args := #[]) (mvT hZ598 (wq hw 125 rfl))) (wq hw 125 rfl) (wq hw 124 rfl) (by decide) f605 (backC (W := 0) (rm_len0 l Z a0 hw zc a588 t588 k588x  h598 n0 (by omega) S_c hzc f604 f605 f606 f607 f608) hZ598 (wq hw 126 rfl) (wq hw 3 rfl) (by decide) (by decide)) e602 (argsL := []) (rest := []) rfl rfl pd_17 rfl (by rw [hml]; rfl) (hb hby at_159) (Nat.le_of_eq rfl) (by decide) (by decide) k603
      have k609 : To p.tables e below S0 (T609.setTop (mkF m 162 l600 [(.int (0 : Int32))])) := k609a
      have N609 := N602.app Nq609
      have e609 : T609.heap = h598 := eq609
      have k610 : To p.tables e below S0 (T609.setTop (mkF m 240 l600 [(.int (1 : Int32))])) := fun tt hq => k609 tt (by
        refine XS.iload X609.here hx rfl (hb hby at_162) rfl ?_
        refine XS.icmpYes X609.here hx rfl (pc0 := 164) (pc' := 169) rfl (hb hby at_164) rfl (teq (by decide)).1 (by decide) (by decide) ?_
        refine XS.iload X609.here hx rfl (hb hby at_169) rfl ?_
        refine XS.iconst X609.here hx rfl (hb hby at_171) ?_
        refine XS.icmpYes X609.here hx rfl (pc0 := 172) (pc' := 191) rfl (hb hby at_172) rfl (tlt (by decide)).1 (by decide) (by decide) ?_
        refine XS.iload X609.here hx rfl (hb hby at_191) rfl ?_
        refine XS.iconst X609.here hx rfl (hb hby at_193) ?_
        refine XS.icmpYes X609.here hx rfl (pc0 := 194) (pc' := 215) rfl (hb hby at_194) rfl (tlt (by decide)).1 (by decide) (by decide) ?_
        refine XS.iload X609.here hx rfl (hb hby at_215) rfl ?_
        refine XS.iconst X609.here hx rfl (hb hby at_217) ?_
        refine XS.icmpYes X609.here hx rfl (pc0 := 218) (pc' := 239) rfl (hb hby at_218) rfl (tlt (by decide)).1 (by decide) (by decide) ?_
        refine XS.iconst X609.here hx rfl (hb hby at_239) ?_
        exact hq)
      refine retIntW X609 hx hZ598 (own_EW hw) hS598 (by omega) C598 e609 hret hlk (by simp) rfl (hb hby at_240) k610 ?_ (by decide) (by decide)
      exact ⟨rfl, N609⟩
set_option maxRecDepth 65536 in
set_option maxHeartbeats 40000000 in
theorem comes_1 {Post : Tables → Env → Array Value → State → Outcome → State → Prop} (hpost : ∀ tb e args s v u, (limb_1_1.after args s (.returned v) u = true ∧ limb_1_2.after args s (.returned v) u = true ∧ True) → ReturnedEndW s (.returned v) u (Jvm.fieldLocs frame_1_writes args s ++ Jvm.arrayLocs frame_1_arrays args s ++ Jvm.staticLocs frame_1_statics s) 32 2176 → Post tb e args s (.returned v) u) :
    ArmFor flags0 classFile x code maxLocals ret World_1 tables_1 room_1 Calls_1 rest_1 Pre_1 Post := by
  intro l hfl _ _ p e ha hc hk s m args below hf hA hF happ hP
  obtain ⟨hcalls, hrest, hpre⟩ := hP
  obtain ⟨-, -, -, hnamed, -, -, -, hat⟩ := (Spec.applies_iff hf).mp happ
  obtain ⟨hg, hn⟩ := and_e (Cond.before_iff.mp (show (Jvm.Cond.and given_1 narrow_1).before args s = true from hpre))
  obtain ⟨u1, u2⟩ := and_e hg
  obtain ⟨u3, u4⟩ := and_e u2
  obtain ⟨u5, u6⟩ := and_e u4
  obtain ⟨u7, u8⟩ := and_e u6
  obtain ⟨w0, w1, w2, w3, rfl⟩ : ∃ w0 w1 w2 w3 : Value, args = #[w0, w1, w2, w3] := by
    have hs : args.size = 4 := by simpa [Cond.value, given_1] using u1
    obtain ⟨L⟩ := args
    match L, hs with
    | [w0, w1, w2, w3], _ => exact ⟨w0, w1, w2, w3, rfl⟩
  have hw := fun d (hd : d ∈ tables_1) => atoms_spec (ws := Jvm.Cond.code x code maxLocals ret :: tables_1) hat d (List.mem_cons_of_mem _ hd)
  have hfit : Fit s := fun {y c} hc i hi => by
    obtain ⟨ha, rfl⟩ := Array.getElem?_eq_some_iff.mp hc
    have q := List.all_eq_true.mp ((Array.all_eq_true_iff_forall_mem.mp hF) _ (Array.getElem_mem ha)) i (List.mem_range.mpr hi)
    simpa [Array.getElem?_eq_getElem hi] using q
  obtain ⟨hsets, hown0⟩ := atoms_of _ (rest_1_c_eq ▸ (show rest_1_c.before _ s = true from hrest))
  obtain ⟨i0, ei0⟩ := is_v u3
  obtain rfl : w0 = (.int i0) := Option.some.inj ei0
  obtain ⟨i1, ei1⟩ := is_v u5
  obtain rfl : w1 = (.int i1) := Option.some.inj ei1
  obtain ⟨i2, ei2⟩ := is_v u7
  obtain rfl : w2 = (.int i2) := Option.some.inj ei2
  obtain ⟨i3, ei3⟩ := is_v u8
  obtain rfl : w3 = (.int i3) := Option.some.inj ei3
  obtain ⟨zc, ezc⟩ := is_v (Cond.before_iff.mp (hsets _ (List.mem_of_getElem? (i := 1) rfl)))
  have S_c := Sta.start ezc (Or.inl (hsets _ (List.mem_of_getElem? (i := 0) rfl)))
  have hzc : ¬ zc = (0 : Int32) := own_nz ezc (Cond.before_iff.mp (hsets _ (List.mem_of_getElem? (i := 2) rfl)))
  obtain ⟨fm, efm, hfm⟩ := isR_v (Cond.before_iff.mp (hsets _ (List.mem_of_getElem? (i := 8) rfl)))
  have S_f := Sta.start efm (Or.inl (hsets _ (List.mem_of_getElem? (i := 7) rfl)))
  obtain ⟨n, o, h1, h2, h3, _, L, rfl, ⟨rfl, N⟩, -, hq⟩ := rm0 l s _ hw zc fm i0 i1 i2 i3 s.heap s.heap.size (Nat.le_refl _) S_c hzc S_f hfm (Old.start s) p e ha hc hk s m _ below hf ((Spec.applies_iff_loose hf).mp happ).1 ⟨rfl, State.Warmed39.refl s, rfl, (CHv.start (own_EW hw) (fun q hq => hcalls.1 q hq) (hsets _ (List.mem_of_getElem? (i := 2) rfl)) (wq hw 19 rfl) (wq hw 2 rfl)), fun _ q => nomatch q⟩ trivial
  refine ⟨n, _, h1, h2, h3, hpost _ _ _ _ _ _ ⟨Cond.after_iff.mpr rfl, Cond.after_iff.mpr (eq_i res_at (Term.int_eval (1)) rfl), trivial⟩ ⟨hq.1, hq.2.1, hq.2.2.1, (hq.2.2.2.sift fun y hy => Or.inr (N y hy)).mono (by decide) (by decide)⟩⟩
theorem main_1_1 : Claimed_1_1 := comes_1 fun _ _ _ _ _ _ h hF => ⟨h.1, hF⟩
theorem main_1_2 : Claimed_1_2 := comes_1 fun _ _ _ _ _ _ h hF => ⟨h.2.1, hF⟩
end Jvm.Pilot.@@N@@
namespace Jvm.Pilot.@@N@@
open Jvm Jvm.ClassFile Sem Op Lib Jvm.Free Jvm.Stand Jvm.Pilot.@@N@@.Jvm.D
/-! MADE BY PROGRAM (witnessworld.py) out of the Statement's table words and the real class files: 26 classes; the members and pool entries that the words name. The judged class is class 1, her method 2. -/
namespace start1
open Jvm.ClassFile
def u (s : String) : CpInfo := .utf8 (stringToUtf16 s)
/-- a pool by its gaps: so many unusable entries, then the entry; so many at the end -/
def gap : Nat → List CpInfo → List CpInfo
  | 0, r => r
  | n + 1, r => .unusable :: gap n r
def poolList (es : List (Nat × CpInfo)) (last : Nat) : List CpInfo := es.foldr (fun e r => gap e.1 (e.2 :: r)) (gap last [])
def pool (es : List (Nat × CpInfo)) (last : Nat) : Array CpInfo := ⟨poolList es last⟩
def fileOf (pool : Array CpInfo) (this : Nat) (attrs : Array Attribute := #[]) (ms : Array MethodInfo := #[]) (fl : Nat := 33) (sup : Nat := 0) (ifs : Array Nat := #[]) (fds : Array FieldInfo := #[]) : ClassFile where
  minorVersion := 0
  majorVersion := 65
  constantPool := pool
  accessFlags := fl
  thisClass := this
  superClass := sup
  interfaces := ifs
  fields := fds
  methods := ms
  attributes := attrs
def plain (name : String) (sup : Option ClassId) : Class where
  name := name
  kind := .ordinary
  loader := none
  accessFlags := 33
  super := sup
  interfaces := #[]
  cf := none
  fields := #[]
  methods := #[]
  instanceTypes := #[]
  staticTypes := #[]
  resolved := #[]
  callSites := []
  init := .initialized
  statics := none
  mirror := none

def pool0 : Array CpInfo := pool [(5, u "<init>"), (0, u "()V"), (1, .class_ 10), (1, u "java/lang/Object")] 113

def k0c0 : Code := { maxStack := 0, maxLocals := 1, code := object_method_1_code, exceptionTable := #[], attributes := #[] }
def k0m0 : Method := { name := "<init>", desc := "()V", sig := { parameters := [], returnType := none }, accessFlags := 1, code := some k0c0 }
/-- java/lang/Object -/
def k0 : Class := { plain "java/lang/Object" none with
  accessFlags := 33
  interfaces := #[]
  cf := some (fileOf pool0 8 #[] #[{ accessFlags := 1, nameIndex := 5, descriptorIndex := 6, attributes := #[] }] 33 0 #[] #[])
  fields := #[]
  methods := #[k0m0]
  instanceTypes := #[]
  staticTypes := #[]
  resolved := Array.replicate 124 none
  statics := none }

def pool1 : Array CpInfo := pool [(2, .class_ 4), (1, u "java/lang/Object"), (0, u "<init>"), (0, u "()V"), (0, .methodref 8 9), (0, .class_ 10), (0, .nameAndType 11 6), (0, u "com/example/ceruline/ceruline/parsing/SourceReader"), (0, u "advance"), (0, .class_ 13), (0, u "java/lang/String"), (0, .methodref 12 15), (0, .nameAndType 5 16), (0, u "([C)V"), (0, .class_ 18), (0, u "com/example/ceruline/ceruline/source/SourceFile"), (0, .string 20), (0, u "f"), (0, .methodref 17 22), (0, .nameAndType 5 23), (0, u "(Ljava/lang/String;Ljava/lang/String;)V"), (0, .methodref 8 25), (0, .nameAndType 5 26), (0, u "(Lcom/example/ceruline/ceruline/source/SourceFile;)V"), (0, .methodref 28 29), (0, .class_ 30), (0, .nameAndType 31 32), (0, u "java/lang/Math"), (0, u "min"), (0, u "(II)I"), (0, .methodref 34 35), (0, .class_ 36), (0, .nameAndType 37 38), (0, u "com/example/ceruline/ceruline/parsing/SourceReaderTextFromPinLaw"), (0, u "steps"), (0, u "(Lcom/example/ceruline/ceruline/parsing/SourceReader;I)V"), (0, .methodref 8 40), (0, .nameAndType 41 42), (0, u "offset"), (0, u "()I"), (0, .methodref 8 44), (0, .nameAndType 45 46), (0, u "textFrom"), (0, u "(I)Ljava/lang/String;"), (0, .methodref 12 48), (0, .nameAndType 49 50), (0, u "isEmpty"), (0, u "()Z"), (0, .methodref 12 52), (0, .nameAndType 53 42), (0, u "length"), (0, .methodref 12 55), (0, .nameAndType 56 57), (0, u "charAt"), (0, u "(I)C"), (3, u "law"), (0, u "(IIII)Z")] 4

def k1m0 : Method := { name := "<init>", desc := "()V", sig := { parameters := [], returnType := none }, accessFlags := 1, code := none }
def k1c1 : Code := { maxStack := 2, maxLocals := 2, code := method_2_code, exceptionTable := #[], attributes := #[] }
def k1m1 : Method := { name := "steps", desc := "(Lcom/example/ceruline/ceruline/parsing/SourceReader;I)V", sig := { parameters := [(.object "com/example/ceruline/ceruline/parsing/SourceReader"), .int], returnType := none }, accessFlags := 10, code := some k1c1 }
def k1c2 : Code := { maxStack := 6, maxLocals := 13, code := code, exceptionTable := #[], attributes := #[] }
def k1m2 : Method := { name := "law", desc := "(IIII)Z", sig := { parameters := [.int, .int, .int, .int], returnType := some .boolean }, accessFlags := 9, code := some k1c2 }
/-- com/example/ceruline/ceruline/parsing/SourceReaderTextFromPinLaw -/
def k1 : Class := { plain "com/example/ceruline/ceruline/parsing/SourceReaderTextFromPinLaw" (some 0) with
  accessFlags := 49
  interfaces := #[]
  cf := some (fileOf pool1 34 #[] #[{ accessFlags := 1, nameIndex := 5, descriptorIndex := 6, attributes := #[] }, { accessFlags := 10, nameIndex := 37, descriptorIndex := 38, attributes := #[] }, { accessFlags := 9, nameIndex := 61, descriptorIndex := 62, attributes := #[] }] 49 2 #[] #[])
  fields := #[]
  methods := #[k1m0, k1m1, k1m2]
  instanceTypes := #[]
  staticTypes := #[]
  resolved := Array.replicate 67 none
  statics := none }

def pool2 : Array CpInfo := pool [(1, .class_ 2), (0, u "java/io/Serializable"), (0, .class_ 4), (0, u "java/lang/Object")] 2

/-- java/io/Serializable -/
def k2 : Class := { plain "java/io/Serializable" (some 0) with
  accessFlags := 1537
  interfaces := #[]
  cf := some (fileOf pool2 1 #[] #[] 1537 3 #[] #[])
  fields := #[]
  methods := #[]
  instanceTypes := #[]
  staticTypes := #[]
  resolved := Array.replicate 7 none
  statics := none }

def pool3 : Array CpInfo := pool [(1, .class_ 2), (0, u "java/lang/Comparable"), (0, .class_ 4), (0, u "java/lang/Object")] 7

/-- java/lang/Comparable -/
def k3 : Class := { plain "java/lang/Comparable" (some 0) with
  accessFlags := 1537
  interfaces := #[]
  cf := some (fileOf pool3 1 #[] #[] 1537 3 #[] #[])
  fields := #[]
  methods := #[]
  instanceTypes := #[]
  staticTypes := #[]
  resolved := Array.replicate 12 none
  statics := none }

def pool4 : Array CpInfo := pool [(2, .class_ 4), (1, u "java/lang/CharSequence"), (42, .class_ 48), (0, u "java/lang/CharSequence$1CodePointIterator"), (10, .class_ 60), (0, u "java/lang/CharSequence$1CharIterator"), (5, .class_ 67), (0, u "java/lang/Object")] 63

/-- java/lang/CharSequence -/
def k4 : Class := { plain "java/lang/CharSequence" (some 0) with
  accessFlags := 1537
  interfaces := #[]
  cf := some (fileOf pool4 2 #[.nestMembers #[47, 59]] #[] 1537 66 #[] #[])
  fields := #[]
  methods := #[]
  instanceTypes := #[]
  staticTypes := #[]
  resolved := Array.replicate 131 none
  statics := none }

def pool5 : Array CpInfo := pool [(1, .class_ 2), (0, u "java/lang/constant/Constable"), (0, .class_ 4), (0, u "java/lang/Object")] 6

/-- java/lang/constant/Constable -/
def k5 : Class := { plain "java/lang/constant/Constable" (some 0) with
  accessFlags := 1537
  interfaces := #[]
  cf := some (fileOf pool5 1 #[] #[] 1537 3 #[] #[])
  fields := #[]
  methods := #[]
  instanceTypes := #[]
  staticTypes := #[]
  resolved := Array.replicate 11 none
  statics := none }

def pool6 : Array CpInfo := pool [(1, .class_ 2), (0, u "java/lang/constant/ConstantDesc"), (0, .class_ 4), (0, u "java/lang/Object")] 32

/-- java/lang/constant/ConstantDesc -/
def k6 : Class := { plain "java/lang/constant/ConstantDesc" (some 0) with
  accessFlags := 1537
  interfaces := #[]
  cf := some (fileOf pool6 1 #[] #[] 1537 3 #[] #[])
  fields := #[]
  methods := #[]
  instanceTypes := #[]
  staticTypes := #[]
  resolved := Array.replicate 37 none
  statics := none }

def pool7 : Array CpInfo := pool [(1, .methodref 2 3), (0, .class_ 4), (0, .nameAndType 5 6), (0, u "java/lang/Object"), (0, u "<init>"), (0, u "()V"), (2, .fieldref 10 11), (0, .class_ 12), (0, .nameAndType 13 14), (0, u "java/lang/String"), (0, u "value"), (0, u "[B"), (0, .fieldref 10 16), (0, .nameAndType 17 18), (0, u "coder"), (0, u "B"), (2, u "hash"), (0, u "I"), (2, u "hashIsZero"), (0, u "Z"), (0, .methodref 10 28), (0, .nameAndType 5 29), (0, u "([CIILjava/lang/Void;)V"), (8, .fieldref 10 39), (0, .nameAndType 40 26), (0, u "COMPACT_STRINGS"), (1, .class_ 44), (1, u "java/lang/StringUTF16"), (0, u "compress"), (1, .methodref 42 48), (0, .nameAndType 49 50), (0, u "coderFromArrayLen"), (0, u "([BI)B"), (56, .class_ 109), (1, u "java/lang/StringLatin1"), (32, u "()Z"), (34, .methodref 42 178), (0, .nameAndType 45 179), (0, u "([CII)[B"), (31, u "([BB)V"), (122, u "()I"), (0, .methodref 10 336), (0, .nameAndType 17 337), (0, u "()B"), (25, u "([BI)C"), (27, u "(II)V"), (35, u "(I)C"), (64, .methodref 10 493), (0, .nameAndType 494 142), (0, u "isLatin1"), (0, .methodref 107 496), (0, .nameAndType 497 363), (0, u "charAt"), (1, .methodref 10 500), (0, .nameAndType 501 391), (0, u "checkIndex"), (2, u "codePointAt"), (0, .methodref 10 506), (0, .nameAndType 507 334), (0, u "length"), (5, u "checkFromToIndex"), (7, .methodref 10 522), (0, .nameAndType 523 524), (0, u "checkBoundsBeginEnd"), (0, u "(III)V"), (50, .class_ 576), (0, u "java/lang/CharSequence"), (22, u "CASE_INSENSITIVE_ORDER"), (0, u "Ljava/util/Comparator;"), (82, u "substring"), (0, u "(II)Ljava/lang/String;"), (0, .methodref 107 686), (0, .nameAndType 687 688), (0, u "newString"), (0, u "([BII)Ljava/lang/String;"), (3, u "isEmpty"), (72, u "(I)I"), (244, u "([C)V"), (42, .fieldref 1054 1055), (0, .class_ 1056), (0, .nameAndType 1057 1058), (0, u "jdk/internal/util/Preconditions"), (0, u "SIOOBE_FORMATTER"), (0, u "Ljava/util/function/BiFunction;"), (0, .methodref 1054 1060), (0, .nameAndType 501 1061), (0, u "(IILjava/util/function/BiFunction;)I"), (0, .methodref 1054 1063), (0, .nameAndType 513 1064), (0, u "(IIILjava/util/function/BiFunction;)I"), (36, u "serialPersistentFields"), (0, u "[Ljava/io/ObjectStreamField;"), (0, .class_ 1104), (0, u "java/lang/String$CaseInsensitiveComparator"), (1, .class_ 1107), (0, u "java/io/Serializable"), (0, .class_ 1109), (0, u "java/lang/Comparable"), (0, .class_ 1111), (0, u "java/lang/constant/Constable"), (0, .class_ 1113), (0, u "java/lang/constant/ConstantDesc"), (2, u "serialVersionUID"), (0, u "J"), (3, u "REPL"), (0, u "C"), (2, u "LATIN1"), (1, u "UTF16")] 323

def k7m0 : Method := { name := "<init>", desc := "()V", sig := { parameters := [], returnType := none }, accessFlags := 1, code := none }
def k7c1 : Code := { maxStack := 5, maxLocals := 2, code := jdk_42_method_3_code, exceptionTable := #[], attributes := #[] }
def k7m1 : Method := { name := "<init>", desc := "([C)V", sig := { parameters := [(.array .char)], returnType := none }, accessFlags := 1, code := some k7c1 }
def k7c2 : Code := { maxStack := 2, maxLocals := 1, code := jdk_42_method_54_code, exceptionTable := #[], attributes := #[] }
def k7m2 : Method := { name := "length", desc := "()I", sig := { parameters := [], returnType := some .int }, accessFlags := 1, code := some k7c2 }
def k7c3 : Code := { maxStack := 1, maxLocals := 1, code := jdk_42_method_55_code, exceptionTable := #[], attributes := #[] }
def k7m3 : Method := { name := "isEmpty", desc := "()Z", sig := { parameters := [], returnType := some .boolean }, accessFlags := 1, code := some k7c3 }
def k7c4 : Code := { maxStack := 2, maxLocals := 2, code := jdk_42_method_56_code, exceptionTable := #[], attributes := #[] }
def k7m4 : Method := { name := "charAt", desc := "(I)C", sig := { parameters := [.int], returnType := some .char }, accessFlags := 1, code := some k7c4 }
def k7c5 : Code := { maxStack := 3, maxLocals := 3, code := jdk_42_method_57_code, exceptionTable := #[], attributes := #[] }
def k7m5 : Method := { name := "codePointAt", desc := "(I)I", sig := { parameters := [.int], returnType := some .int }, accessFlags := 1, code := some k7c5 }
def k7c6 : Code := { maxStack := 3, maxLocals := 5, code := jdk_42_method_92_code, exceptionTable := #[], attributes := #[] }
def k7m6 : Method := { name := "substring", desc := "(II)Ljava/lang/String;", sig := { parameters := [.int, .int], returnType := some (.object "java/lang/String") }, accessFlags := 1, code := some k7c6 }
def k7c7 : Code := { maxStack := 4, maxLocals := 6, code := jdk_42_method_149_code, exceptionTable := #[], attributes := #[] }
def k7m7 : Method := { name := "<init>", desc := "([CIILjava/lang/Void;)V", sig := { parameters := [(.array .char), .int, .int, (.object "java/lang/Void")], returnType := none }, accessFlags := 2, code := some k7c7 }
def k7c8 : Code := { maxStack := 2, maxLocals := 3, code := jdk_42_method_151_code, exceptionTable := #[], attributes := #[] }
def k7m8 : Method := { name := "<init>", desc := "([BB)V", sig := { parameters := [(.array .byte), .byte], returnType := none }, accessFlags := 0, code := some k7c8 }
def k7c9 : Code := { maxStack := 1, maxLocals := 1, code := jdk_42_method_152_code, exceptionTable := #[], attributes := #[] }
def k7m9 : Method := { name := "coder", desc := "()B", sig := { parameters := [], returnType := some .byte }, accessFlags := 0, code := some k7c9 }
def k7c10 : Code := { maxStack := 1, maxLocals := 1, code := jdk_42_method_154_code, exceptionTable := #[], attributes := #[] }
def k7m10 : Method := { name := "isLatin1", desc := "()Z", sig := { parameters := [], returnType := some .boolean }, accessFlags := 0, code := some k7c10 }
def k7c11 : Code := { maxStack := 3, maxLocals := 2, code := jdk_42_method_155_code, exceptionTable := #[], attributes := #[] }
def k7m11 : Method := { name := "checkIndex", desc := "(II)V", sig := { parameters := [.int, .int], returnType := none }, accessFlags := 8, code := some k7c11 }
def k7c12 : Code := { maxStack := 4, maxLocals := 3, code := jdk_42_method_158_code, exceptionTable := #[], attributes := #[] }
def k7m12 : Method := { name := "checkBoundsBeginEnd", desc := "(III)V", sig := { parameters := [.int, .int, .int], returnType := none }, accessFlags := 8, code := some k7c12 }
/-- java/lang/String -/
def k7 : Class := { plain "java/lang/String" (some 0) with
  accessFlags := 49
  interfaces := #[2, 3, 4, 5, 6]
  cf := some (fileOf pool7 10 #[.nestMembers #[1103]] #[{ accessFlags := 1, nameIndex := 5, descriptorIndex := 6, attributes := #[] }, { accessFlags := 1, nameIndex := 5, descriptorIndex := 1010, attributes := #[] }, { accessFlags := 1, nameIndex := 507, descriptorIndex := 334, attributes := #[] }, { accessFlags := 1, nameIndex := 692, descriptorIndex := 142, attributes := #[] }, { accessFlags := 1, nameIndex := 497, descriptorIndex := 427, attributes := #[] }, { accessFlags := 1, nameIndex := 504, descriptorIndex := 765, attributes := #[] }, { accessFlags := 1, nameIndex := 683, descriptorIndex := 684, attributes := #[] }, { accessFlags := 2, nameIndex := 5, descriptorIndex := 29, attributes := #[] }, { accessFlags := 0, nameIndex := 5, descriptorIndex := 211, attributes := #[] }, { accessFlags := 0, nameIndex := 17, descriptorIndex := 337, attributes := #[] }, { accessFlags := 0, nameIndex := 494, descriptorIndex := 142, attributes := #[] }, { accessFlags := 8, nameIndex := 501, descriptorIndex := 391, attributes := #[] }, { accessFlags := 8, nameIndex := 523, descriptorIndex := 524, attributes := #[] }] 49 2 #[1106, 1108, 575, 1110, 1112] #[{ accessFlags := 18, nameIndex := 13, descriptorIndex := 14, attributes := #[] }, { accessFlags := 18, nameIndex := 17, descriptorIndex := 18, attributes := #[] }, { accessFlags := 2, nameIndex := 21, descriptorIndex := 22, attributes := #[] }, { accessFlags := 2, nameIndex := 25, descriptorIndex := 26, attributes := #[] }, { accessFlags := 26, nameIndex := 1116, descriptorIndex := 1117, attributes := #[] }, { accessFlags := 24, nameIndex := 40, descriptorIndex := 26, attributes := #[] }, { accessFlags := 26, nameIndex := 1101, descriptorIndex := 1102, attributes := #[] }, { accessFlags := 26, nameIndex := 1121, descriptorIndex := 1122, attributes := #[] }, { accessFlags := 25, nameIndex := 599, descriptorIndex := 600, attributes := #[] }, { accessFlags := 24, nameIndex := 1125, descriptorIndex := 18, attributes := #[] }, { accessFlags := 24, nameIndex := 1127, descriptorIndex := 18, attributes := #[] }])
  fields := #[{ name := "value", type := (.array .byte), accessFlags := 18, slot := 0, constantValue := 0 }, { name := "coder", type := .byte, accessFlags := 18, slot := 1, constantValue := 0 }, { name := "hash", type := .int, accessFlags := 2, slot := 2, constantValue := 0 }, { name := "hashIsZero", type := .boolean, accessFlags := 2, slot := 3, constantValue := 0 }, { name := "serialVersionUID", type := .long, accessFlags := 26, slot := 0, constantValue := 0 }, { name := "COMPACT_STRINGS", type := .boolean, accessFlags := 24, slot := 1, constantValue := 0 }, { name := "serialPersistentFields", type := (.array (.object "java/io/ObjectStreamField")), accessFlags := 26, slot := 2, constantValue := 0 }, { name := "REPL", type := .char, accessFlags := 26, slot := 3, constantValue := 0 }, { name := "CASE_INSENSITIVE_ORDER", type := (.object "java/util/Comparator"), accessFlags := 25, slot := 4, constantValue := 0 }, { name := "LATIN1", type := .byte, accessFlags := 24, slot := 5, constantValue := 0 }, { name := "UTF16", type := .byte, accessFlags := 24, slot := 6, constantValue := 0 }]
  methods := #[k7m0, k7m1, k7m2, k7m3, k7m4, k7m5, k7m6, k7m7, k7m8, k7m9, k7m10, k7m11, k7m12]
  instanceTypes := #[(.array .byte), .byte, .int, .boolean]
  staticTypes := #[.long, .boolean, (.array (.object "java/io/ObjectStreamField")), .char, (.object "java/util/Comparator"), .byte, .byte]
  resolved := Array.replicate 1451 none
  statics := some 0 }

def pool8 : Array CpInfo := pool [(6, .class_ 8), (1, u "java/lang/Object"), (0, u "<init>"), (0, u "()V"), (1, .class_ 14), (1, u "java/lang/StringUTF16"), (31, u "$assertionsDisabled"), (0, u "Z"), (13, u "HI_BYTE_SHIFT"), (0, u "I"), (2, u "LO_BYTE_SHIFT"), (49, .methodref 12 116), (0, .nameAndType 117 118), (0, u "compress"), (0, u "([CI[BII)I"), (3, u "([CII)[B"), (138, u "coderFromArrayLen"), (0, u "([BI)B"), (106, .class_ 371), (1, u "java/lang/StringUTF16$LinesSpliterator"), (58, u "MAX_LENGTH"), (196, .class_ 628), (0, u "java/lang/StringUTF16$CodePointsSpliterator"), (0, .class_ 630), (0, u "java/lang/StringUTF16$CharsSpliterator")] 4

def k8m0 : Method := { name := "<init>", desc := "()V", sig := { parameters := [], returnType := none }, accessFlags := 0, code := none }
def k8c1 : Code := { maxStack := 2, maxLocals := 2, code := jdk_52_method_15_code, exceptionTable := #[], attributes := #[] }
def k8m1 : Method := { name := "coderFromArrayLen", desc := "([BI)B", sig := { parameters := [(.array .byte), .int], returnType := some .byte }, accessFlags := 8, code := some k8c1 }
def k8c2 : Code := { maxStack := 5, maxLocals := 6, code := jdk_52_method_16_code, exceptionTable := #[], attributes := #[] }
def k8m2 : Method := { name := "compress", desc := "([CII)[B", sig := { parameters := [(.array .char), .int, .int], returnType := some (.array .byte) }, accessFlags := 9, code := some k8c2 }
def k8c3 : Code := { maxStack := 3, maxLocals := 7, code := jdk_52_method_21_code, exceptionTable := #[], attributes := #[] }
def k8m3 : Method := { name := "compress", desc := "([CI[BII)I", sig := { parameters := [(.array .char), .int, (.array .byte), .int, .int], returnType := some .int }, accessFlags := 9, code := some k8c3 }
/-- java/lang/StringUTF16 -/
def k8 : Class := { plain "java/lang/StringUTF16" (some 0) with
  accessFlags := 48
  interfaces := #[]
  cf := some (fileOf pool8 12 #[.nestMembers #[627, 629, 369]] #[{ accessFlags := 0, nameIndex := 9, descriptorIndex := 10, attributes := #[] }, { accessFlags := 8, nameIndex := 261, descriptorIndex := 262, attributes := #[] }, { accessFlags := 9, nameIndex := 117, descriptorIndex := 122, attributes := #[] }, { accessFlags := 9, nameIndex := 117, descriptorIndex := 118, attributes := #[] }] 48 6 #[] #[{ accessFlags := 26, nameIndex := 61, descriptorIndex := 62, attributes := #[] }, { accessFlags := 26, nameIndex := 65, descriptorIndex := 62, attributes := #[] }, { accessFlags := 24, nameIndex := 430, descriptorIndex := 62, attributes := #[] }, { accessFlags := 4120, nameIndex := 46, descriptorIndex := 47, attributes := #[] }])
  fields := #[{ name := "HI_BYTE_SHIFT", type := .int, accessFlags := 26, slot := 0, constantValue := 0 }, { name := "LO_BYTE_SHIFT", type := .int, accessFlags := 26, slot := 1, constantValue := 0 }, { name := "MAX_LENGTH", type := .int, accessFlags := 24, slot := 2, constantValue := 0 }, { name := "$assertionsDisabled", type := .boolean, accessFlags := 4120, slot := 3, constantValue := 0 }]
  methods := #[k8m0, k8m1, k8m2, k8m3]
  instanceTypes := #[]
  staticTypes := #[.int, .int, .int, .boolean]
  resolved := Array.replicate 635 none
  statics := none }

def pool9 : Array CpInfo := pool [(1, .methodref 2 3), (0, .class_ 4), (0, .nameAndType 5 6), (0, u "java/lang/Object"), (0, u "<init>"), (0, u "()V"), (0, .fieldref 8 9), (0, .class_ 10), (0, .nameAndType 11 12), (0, u "com/example/ceruline/ceruline/parsing/SourceReader"), (0, u "line"), (0, u "I"), (0, .fieldref 8 14), (0, .nameAndType 15 12), (0, u "column"), (0, .fieldref 8 17), (0, .nameAndType 18 19), (0, u "source"), (0, u "Lcom/example/ceruline/ceruline/source/SourceFile;"), (0, .methodref 21 22), (0, .class_ 23), (0, .nameAndType 24 25), (0, u "com/example/ceruline/ceruline/source/SourceFile"), (0, u "text"), (0, u "()Ljava/lang/String;"), (0, .fieldref 8 27), (0, .nameAndType 24 28), (0, u "Ljava/lang/String;"), (0, .fieldref 8 30), (0, .nameAndType 31 12), (0, u "offset"), (1, .class_ 35), (1, u "java/lang/String"), (1, u "()I"), (4, .methodref 33 43), (0, .nameAndType 44 45), (0, u "codePointAt"), (0, u "(I)I"), (0, .methodref 47 48), (0, .class_ 49), (0, .nameAndType 50 45), (0, u "java/lang/Character"), (0, u "charCount"), (13, .methodref 33 65), (0, .nameAndType 66 67), (0, u "substring"), (0, u "(II)Ljava/lang/String;"), (6, u "END"), (2, u "(Lcom/example/ceruline/ceruline/source/SourceFile;)V"), (4, u "advance"), (4, u "textFrom"), (0, u "(I)Ljava/lang/String;")] 4

def k9c0 : Code := { maxStack := 2, maxLocals := 2, code := prog_66_method_1_code, exceptionTable := #[], attributes := #[] }
def k9m0 : Method := { name := "<init>", desc := "(Lcom/example/ceruline/ceruline/source/SourceFile;)V", sig := { parameters := [(.object "com/example/ceruline/ceruline/source/SourceFile")], returnType := none }, accessFlags := 1, code := some k9c0 }
def k9c1 : Code := { maxStack := 3, maxLocals := 2, code := prog_66_method_4_code, exceptionTable := #[], attributes := #[] }
def k9m1 : Method := { name := "advance", desc := "()V", sig := { parameters := [], returnType := none }, accessFlags := 1, code := some k9c1 }
def k9c2 : Code := { maxStack := 1, maxLocals := 1, code := prog_66_method_7_code, exceptionTable := #[], attributes := #[] }
def k9m2 : Method := { name := "offset", desc := "()I", sig := { parameters := [], returnType := some .int }, accessFlags := 1, code := some k9c2 }
def k9c3 : Code := { maxStack := 3, maxLocals := 2, code := prog_66_method_8_code, exceptionTable := #[], attributes := #[] }
def k9m3 : Method := { name := "textFrom", desc := "(I)Ljava/lang/String;", sig := { parameters := [.int], returnType := some (.object "java/lang/String") }, accessFlags := 1, code := some k9c3 }
/-- com/example/ceruline/ceruline/parsing/SourceReader -/
def k9 : Class := { plain "com/example/ceruline/ceruline/parsing/SourceReader" (some 0) with
  accessFlags := 49
  interfaces := #[]
  cf := some (fileOf pool9 8 #[] #[{ accessFlags := 1, nameIndex := 5, descriptorIndex := 77, attributes := #[] }, { accessFlags := 1, nameIndex := 82, descriptorIndex := 6, attributes := #[] }, { accessFlags := 1, nameIndex := 31, descriptorIndex := 37, attributes := #[] }, { accessFlags := 1, nameIndex := 87, descriptorIndex := 88, attributes := #[] }] 49 2 #[] #[{ accessFlags := 25, nameIndex := 74, descriptorIndex := 12, attributes := #[] }, { accessFlags := 18, nameIndex := 18, descriptorIndex := 19, attributes := #[] }, { accessFlags := 18, nameIndex := 24, descriptorIndex := 28, attributes := #[] }, { accessFlags := 2, nameIndex := 31, descriptorIndex := 12, attributes := #[] }, { accessFlags := 2, nameIndex := 11, descriptorIndex := 12, attributes := #[] }, { accessFlags := 2, nameIndex := 15, descriptorIndex := 12, attributes := #[] }])
  fields := #[{ name := "END", type := .int, accessFlags := 25, slot := 0, constantValue := 0 }, { name := "source", type := (.object "com/example/ceruline/ceruline/source/SourceFile"), accessFlags := 18, slot := 0, constantValue := 0 }, { name := "text", type := (.object "java/lang/String"), accessFlags := 18, slot := 1, constantValue := 0 }, { name := "offset", type := .int, accessFlags := 2, slot := 2, constantValue := 0 }, { name := "line", type := .int, accessFlags := 2, slot := 3, constantValue := 0 }, { name := "column", type := .int, accessFlags := 2, slot := 4, constantValue := 0 }]
  methods := #[k9m0, k9m1, k9m2, k9m3]
  instanceTypes := #[(.object "com/example/ceruline/ceruline/source/SourceFile"), (.object "java/lang/String"), .int, .int, .int]
  staticTypes := #[.int]
  resolved := Array.replicate 93 none
  statics := none }

def pool10 : Array CpInfo := pool [(1, .methodref 2 3), (0, .class_ 4), (0, .nameAndType 5 6), (0, u "java/lang/Object"), (0, u "<init>"), (0, u "()V"), (0, .class_ 8), (0, u "java/lang/Record")] 13

def k10c0 : Code := { maxStack := 1, maxLocals := 1, code := jdk_30_method_1_code, exceptionTable := #[], attributes := #[] }
def k10m0 : Method := { name := "<init>", desc := "()V", sig := { parameters := [], returnType := none }, accessFlags := 4, code := some k10c0 }
/-- java/lang/Record -/
def k10 : Class := { plain "java/lang/Record" (some 0) with
  accessFlags := 1057
  interfaces := #[]
  cf := some (fileOf pool10 7 #[] #[{ accessFlags := 4, nameIndex := 5, descriptorIndex := 6, attributes := #[] }] 1057 2 #[] #[])
  fields := #[]
  methods := #[k10m0]
  instanceTypes := #[]
  staticTypes := #[]
  resolved := Array.replicate 22 none
  statics := none }

def pool11 : Array CpInfo := pool [(1, .methodref 2 3), (0, .class_ 4), (0, .nameAndType 5 6), (0, u "java/lang/Record"), (0, u "<init>"), (0, u "()V"), (0, .fieldref 8 9), (0, .class_ 10), (0, .nameAndType 11 12), (0, u "com/example/ceruline/ceruline/source/SourceFile"), (0, u "name"), (0, u "Ljava/lang/String;"), (0, .fieldref 8 14), (0, .nameAndType 15 12), (0, u "text"), (16, u "(Ljava/lang/String;Ljava/lang/String;)V"), (20, u "()Ljava/lang/String;")] 23

def k11c0 : Code := { maxStack := 2, maxLocals := 3, code := prog_120_method_1_code, exceptionTable := #[], attributes := #[] }
def k11m0 : Method := { name := "<init>", desc := "(Ljava/lang/String;Ljava/lang/String;)V", sig := { parameters := [(.object "java/lang/String"), (.object "java/lang/String")], returnType := none }, accessFlags := 1, code := some k11c0 }
def k11c1 : Code := { maxStack := 1, maxLocals := 1, code := prog_120_method_7_code, exceptionTable := #[], attributes := #[] }
def k11m1 : Method := { name := "text", desc := "()Ljava/lang/String;", sig := { parameters := [], returnType := some (.object "java/lang/String") }, accessFlags := 1, code := some k11c1 }
/-- com/example/ceruline/ceruline/source/SourceFile -/
def k11 : Class := { plain "com/example/ceruline/ceruline/source/SourceFile" (some 10) with
  accessFlags := 49
  interfaces := #[]
  cf := some (fileOf pool11 8 #[] #[{ accessFlags := 1, nameIndex := 5, descriptorIndex := 32, attributes := #[] }, { accessFlags := 1, nameIndex := 15, descriptorIndex := 53, attributes := #[] }] 49 2 #[] #[{ accessFlags := 18, nameIndex := 11, descriptorIndex := 12, attributes := #[] }, { accessFlags := 18, nameIndex := 15, descriptorIndex := 12, attributes := #[] }])
  fields := #[{ name := "name", type := (.object "java/lang/String"), accessFlags := 18, slot := 0, constantValue := 0 }, { name := "text", type := (.object "java/lang/String"), accessFlags := 18, slot := 1, constantValue := 0 }]
  methods := #[k11m0, k11m1]
  instanceTypes := #[(.object "java/lang/String"), (.object "java/lang/String")]
  staticTypes := #[]
  resolved := Array.replicate 77 none
  statics := none }

def pool12 : Array CpInfo := pool [(1, .class_ 2), (0, u "java/lang/Math"), (1, .class_ 6), (1, u "java/lang/Object"), (0, u "<init>"), (0, u "()V"), (89, .class_ 100), (1, u "java/lang/Math$RandomNumberGeneratorHolder"), (71, u "negativeZeroFloatBits"), (0, u "J"), (2, u "negativeZeroDoubleBits"), (24, u "min"), (43, u "$assertionsDisabled"), (0, u "Z"), (88, u "(II)I"), (2, u "twoToTheDoubleScaleDown"), (0, u "D"), (4, u "twoToTheDoubleScaleUp"), (9, u "E"), (3, u "PI"), (2, u "TAU"), (2, u "DEGREES_TO_RADIANS"), (0, u "RADIANS_TO_DEGREES")] 94

def k12m0 : Method := { name := "<init>", desc := "()V", sig := { parameters := [], returnType := none }, accessFlags := 2, code := none }
def k12c1 : Code := { maxStack := 2, maxLocals := 2, code := jdk_29_method_69_code, exceptionTable := #[], attributes := #[] }
def k12m1 : Method := { name := "min", desc := "(II)I", sig := { parameters := [.int, .int], returnType := some .int }, accessFlags := 9, code := some k12c1 }
/-- java/lang/Math -/
def k12 : Class := { plain "java/lang/Math" (some 0) with
  accessFlags := 49
  interfaces := #[]
  cf := some (fileOf pool12 1 #[.nestMembers #[98]] #[{ accessFlags := 2, nameIndex := 7, descriptorIndex := 8, attributes := #[] }, { accessFlags := 9, nameIndex := 201, descriptorIndex := 335, attributes := #[] }] 49 4 #[] #[{ accessFlags := 25, nameIndex := 354, descriptorIndex := 339, attributes := #[] }, { accessFlags := 25, nameIndex := 358, descriptorIndex := 339, attributes := #[] }, { accessFlags := 25, nameIndex := 361, descriptorIndex := 339, attributes := #[] }, { accessFlags := 26, nameIndex := 364, descriptorIndex := 339, attributes := #[] }, { accessFlags := 26, nameIndex := 365, descriptorIndex := 339, attributes := #[] }, { accessFlags := 26, nameIndex := 172, descriptorIndex := 173, attributes := #[] }, { accessFlags := 26, nameIndex := 176, descriptorIndex := 173, attributes := #[] }, { accessFlags := 8, nameIndex := 344, descriptorIndex := 339, attributes := #[] }, { accessFlags := 8, nameIndex := 338, descriptorIndex := 339, attributes := #[] }, { accessFlags := 4120, nameIndex := 245, descriptorIndex := 246, attributes := #[] }])
  fields := #[{ name := "E", type := .double, accessFlags := 25, slot := 0, constantValue := 0 }, { name := "PI", type := .double, accessFlags := 25, slot := 1, constantValue := 0 }, { name := "TAU", type := .double, accessFlags := 25, slot := 2, constantValue := 0 }, { name := "DEGREES_TO_RADIANS", type := .double, accessFlags := 26, slot := 3, constantValue := 0 }, { name := "RADIANS_TO_DEGREES", type := .double, accessFlags := 26, slot := 4, constantValue := 0 }, { name := "negativeZeroFloatBits", type := .long, accessFlags := 26, slot := 5, constantValue := 0 }, { name := "negativeZeroDoubleBits", type := .long, accessFlags := 26, slot := 6, constantValue := 0 }, { name := "twoToTheDoubleScaleUp", type := .double, accessFlags := 8, slot := 7, constantValue := 0 }, { name := "twoToTheDoubleScaleDown", type := .double, accessFlags := 8, slot := 8, constantValue := 0 }, { name := "$assertionsDisabled", type := .boolean, accessFlags := 4120, slot := 9, constantValue := 0 }]
  methods := #[k12m0, k12m1]
  instanceTypes := #[]
  staticTypes := #[.double, .double, .double, .double, .double, .long, .long, .double, .double, .boolean]
  resolved := Array.replicate 460 none
  statics := none }

def pool13 : Array CpInfo := pool [(2, .class_ 4), (1, u "java/lang/Object"), (0, u "<init>"), (0, u "()V"), (17, .class_ 26), (1, u "jdk/internal/util/Preconditions"), (6, u "checkIndex"), (13, u "checkFromToIndex"), (7, .class_ 56), (0, u "jdk/internal/util/Preconditions$4"), (57, .class_ 115), (0, u "jdk/internal/util/Preconditions$1"), (7, u "SIOOBE_FORMATTER"), (0, u "Ljava/util/function/BiFunction;"), (0, .class_ 126), (0, u "jdk/internal/util/Preconditions$2"), (3, u "AIOOBE_FORMATTER"), (0, .class_ 132), (0, u "jdk/internal/util/Preconditions$3"), (3, u "IOOBE_FORMATTER"), (41, u "(IILjava/util/function/BiFunction;)I"), (4, u "(IIILjava/util/function/BiFunction;)I")] 10

def k13m0 : Method := { name := "<init>", desc := "()V", sig := { parameters := [], returnType := none }, accessFlags := 1, code := none }
def k13c1 : Code := { maxStack := 3, maxLocals := 3, code := jdk_41_method_11_code, exceptionTable := #[], attributes := #[] }
def k13m1 : Method := { name := "checkIndex", desc := "(IILjava/util/function/BiFunction;)I", sig := { parameters := [.int, .int, (.object "java/util/function/BiFunction")], returnType := some .int }, accessFlags := 9, code := some k13c1 }
def k13c2 : Code := { maxStack := 4, maxLocals := 4, code := jdk_41_method_12_code, exceptionTable := #[], attributes := #[] }
def k13m2 : Method := { name := "checkFromToIndex", desc := "(IIILjava/util/function/BiFunction;)I", sig := { parameters := [.int, .int, .int, (.object "java/util/function/BiFunction")], returnType := some .int }, accessFlags := 9, code := some k13c2 }
/-- jdk/internal/util/Preconditions -/
def k13 : Class := { plain "jdk/internal/util/Preconditions" (some 0) with
  accessFlags := 33
  interfaces := #[]
  cf := some (fileOf pool13 24 #[.nestMembers #[55, 131, 125, 114]] #[{ accessFlags := 1, nameIndex := 5, descriptorIndex := 6, attributes := #[] }, { accessFlags := 9, nameIndex := 33, descriptorIndex := 178, attributes := #[] }, { accessFlags := 9, nameIndex := 47, descriptorIndex := 183, attributes := #[] }] 33 2 #[] #[{ accessFlags := 25, nameIndex := 123, descriptorIndex := 124, attributes := #[] }, { accessFlags := 25, nameIndex := 130, descriptorIndex := 124, attributes := #[] }, { accessFlags := 25, nameIndex := 136, descriptorIndex := 124, attributes := #[] }])
  fields := #[{ name := "SIOOBE_FORMATTER", type := (.object "java/util/function/BiFunction"), accessFlags := 25, slot := 0, constantValue := 0 }, { name := "AIOOBE_FORMATTER", type := (.object "java/util/function/BiFunction"), accessFlags := 25, slot := 1, constantValue := 0 }, { name := "IOOBE_FORMATTER", type := (.object "java/util/function/BiFunction"), accessFlags := 25, slot := 2, constantValue := 0 }]
  methods := #[k13m0, k13m1, k13m2]
  instanceTypes := #[]
  staticTypes := #[(.object "java/util/function/BiFunction"), (.object "java/util/function/BiFunction"), (.object "java/util/function/BiFunction")]
  resolved := Array.replicate 194 none
  statics := some 1 }

def pool14 : Array CpInfo := pool [(1, .class_ 2), (0, u "java/lang/Character"), (18, u "value"), (0, u "C"), (19, .class_ 44), (1, u "java/lang/Object"), (3, .class_ 50), (1, u "java/lang/Character$CharacterCache"), (22, .integer 65536), (100, u "(I)I"), (109, u "$assertionsDisabled"), (0, u "Z"), (21, .class_ 309), (1, u "java/lang/Character$UnicodeBlock"), (73, u "TYPE"), (0, u "Ljava/lang/Class;"), (0, .class_ 386), (0, u "java/io/Serializable"), (0, .class_ 388), (0, u "java/lang/Comparable"), (0, .class_ 390), (0, u "java/lang/constant/Constable"), (0, u "MIN_RADIX"), (0, u "I"), (2, u "MAX_RADIX"), (1, u "MIN_VALUE"), (1, u "MAX_VALUE"), (3, u "UNASSIGNED"), (0, u "B"), (0, u "UPPERCASE_LETTER"), (1, u "LOWERCASE_LETTER"), (0, u "TITLECASE_LETTER"), (1, u "MODIFIER_LETTER"), (1, u "OTHER_LETTER"), (1, u "NON_SPACING_MARK"), (1, u "ENCLOSING_MARK"), (1, u "COMBINING_SPACING_MARK"), (1, u "DECIMAL_DIGIT_NUMBER"), (1, u "LETTER_NUMBER"), (1, u "OTHER_NUMBER"), (1, u "SPACE_SEPARATOR"), (1, u "LINE_SEPARATOR"), (1, u "PARAGRAPH_SEPARATOR"), (1, u "CONTROL"), (1, u "FORMAT"), (1, u "PRIVATE_USE"), (1, u "SURROGATE"), (1, u "DASH_PUNCTUATION"), (1, u "START_PUNCTUATION"), (1, u "END_PUNCTUATION"), (1, u "CONNECTOR_PUNCTUATION"), (1, u "OTHER_PUNCTUATION"), (1, u "MATH_SYMBOL"), (1, u "CURRENCY_SYMBOL"), (1, u "MODIFIER_SYMBOL"), (1, u "OTHER_SYMBOL"), (1, u "INITIAL_QUOTE_PUNCTUATION"), (1, u "FINAL_QUOTE_PUNCTUATION"), (1, u "ERROR"), (1, u "DIRECTIONALITY_UNDEFINED"), (0, u "DIRECTIONALITY_LEFT_TO_RIGHT"), (0, u "DIRECTIONALITY_RIGHT_TO_LEFT"), (0, u "DIRECTIONALITY_RIGHT_TO_LEFT_ARABIC"), (0, u "DIRECTIONALITY_EUROPEAN_NUMBER"), (0, u "DIRECTIONALITY_EUROPEAN_NUMBER_SEPARATOR"), (0, u "DIRECTIONALITY_EUROPEAN_NUMBER_TERMINATOR"), (0, u "DIRECTIONALITY_ARABIC_NUMBER"), (0, u "DIRECTIONALITY_COMMON_NUMBER_SEPARATOR"), (0, u "DIRECTIONALITY_NONSPACING_MARK"), (0, u "DIRECTIONALITY_BOUNDARY_NEUTRAL"), (0, u "DIRECTIONALITY_PARAGRAPH_SEPARATOR"), (0, u "DIRECTIONALITY_SEGMENT_SEPARATOR"), (0, u "DIRECTIONALITY_WHITESPACE"), (0, u "DIRECTIONALITY_OTHER_NEUTRALS"), (0, u "DIRECTIONALITY_LEFT_TO_RIGHT_EMBEDDING"), (0, u "DIRECTIONALITY_LEFT_TO_RIGHT_OVERRIDE"), (0, u "DIRECTIONALITY_RIGHT_TO_LEFT_EMBEDDING"), (0, u "DIRECTIONALITY_RIGHT_TO_LEFT_OVERRIDE"), (1, u "DIRECTIONALITY_POP_DIRECTIONAL_FORMAT"), (0, u "DIRECTIONALITY_LEFT_TO_RIGHT_ISOLATE"), (0, u "DIRECTIONALITY_RIGHT_TO_LEFT_ISOLATE"), (0, u "DIRECTIONALITY_FIRST_STRONG_ISOLATE"), (0, u "DIRECTIONALITY_POP_DIRECTIONAL_ISOLATE"), (0, u "MIN_HIGH_SURROGATE"), (0, u "MAX_HIGH_SURROGATE"), (1, u "MIN_LOW_SURROGATE"), (0, u "MAX_LOW_SURROGATE"), (1, u "MIN_SURROGATE"), (0, u "MAX_SURROGATE"), (0, u "MIN_SUPPLEMENTARY_CODE_POINT"), (0, u "MIN_CODE_POINT"), (0, u "MAX_CODE_POINT"), (1, u "serialVersionUID"), (0, u "J"), (2, u "SIZE"), (0, u "BYTES"), (29, u "charCount"), (58, .class_ 596), (0, u "java/lang/Character$UnicodeScript"), (0, .class_ 598), (0, u "java/lang/Character$Subset")] 5

def k14c0 : Code := { maxStack := 2, maxLocals := 1, code := jdk_89_method_18_code, exceptionTable := #[], attributes := #[] }
def k14m0 : Method := { name := "charCount", desc := "(I)I", sig := { parameters := [.int], returnType := some .int }, accessFlags := 9, code := some k14c0 }
/-- java/lang/Character -/
def k14 : Class := { plain "java/lang/Character" (some 0) with
  accessFlags := 49
  interfaces := #[2, 3, 5]
  cf := some (fileOf pool14 1 #[.nestMembers #[48, 595, 307, 597]] #[{ accessFlags := 9, nameIndex := 536, descriptorIndex := 174, attributes := #[] }] 49 42 #[385, 387, 389] #[{ accessFlags := 25, nameIndex := 391, descriptorIndex := 392, attributes := #[] }, { accessFlags := 25, nameIndex := 395, descriptorIndex := 392, attributes := #[] }, { accessFlags := 25, nameIndex := 397, descriptorIndex := 22, attributes := #[] }, { accessFlags := 25, nameIndex := 399, descriptorIndex := 22, attributes := #[] }, { accessFlags := 25, nameIndex := 383, descriptorIndex := 384, attributes := #[] }, { accessFlags := 25, nameIndex := 403, descriptorIndex := 404, attributes := #[] }, { accessFlags := 25, nameIndex := 405, descriptorIndex := 404, attributes := #[] }, { accessFlags := 25, nameIndex := 407, descriptorIndex := 404, attributes := #[] }, { accessFlags := 25, nameIndex := 408, descriptorIndex := 404, attributes := #[] }, { accessFlags := 25, nameIndex := 410, descriptorIndex := 404, attributes := #[] }, { accessFlags := 25, nameIndex := 412, descriptorIndex := 404, attributes := #[] }, { accessFlags := 25, nameIndex := 414, descriptorIndex := 404, attributes := #[] }, { accessFlags := 25, nameIndex := 416, descriptorIndex := 404, attributes := #[] }, { accessFlags := 25, nameIndex := 418, descriptorIndex := 404, attributes := #[] }, { accessFlags := 25, nameIndex := 420, descriptorIndex := 404, attributes := #[] }, { accessFlags := 25, nameIndex := 422, descriptorIndex := 404, attributes := #[] }, { accessFlags := 25, nameIndex := 424, descriptorIndex := 404, attributes := #[] }, { accessFlags := 25, nameIndex := 426, descriptorIndex := 404, attributes := #[] }, { accessFlags := 25, nameIndex := 428, descriptorIndex := 404, attributes := #[] }, { accessFlags := 25, nameIndex := 430, descriptorIndex := 404, attributes := #[] }, { accessFlags := 25, nameIndex := 432, descriptorIndex := 404, attributes := #[] }, { accessFlags := 25, nameIndex := 434, descriptorIndex := 404, attributes := #[] }, { accessFlags := 25, nameIndex := 436, descriptorIndex := 404, attributes := #[] }, { accessFlags := 25, nameIndex := 438, descriptorIndex := 404, attributes := #[] }, { accessFlags := 25, nameIndex := 440, descriptorIndex := 404, attributes := #[] }, { accessFlags := 25, nameIndex := 442, descriptorIndex := 404, attributes := #[] }, { accessFlags := 25, nameIndex := 444, descriptorIndex := 404, attributes := #[] }, { accessFlags := 25, nameIndex := 446, descriptorIndex := 404, attributes := #[] }, { accessFlags := 25, nameIndex := 448, descriptorIndex := 404, attributes := #[] }, { accessFlags := 25, nameIndex := 450, descriptorIndex := 404, attributes := #[] }, { accessFlags := 25, nameIndex := 452, descriptorIndex := 404, attributes := #[] }, { accessFlags := 25, nameIndex := 454, descriptorIndex := 404, attributes := #[] }, { accessFlags := 25, nameIndex := 456, descriptorIndex := 404, attributes := #[] }, { accessFlags := 25, nameIndex := 458, descriptorIndex := 404, attributes := #[] }, { accessFlags := 25, nameIndex := 460, descriptorIndex := 404, attributes := #[] }, { accessFlags := 24, nameIndex := 462, descriptorIndex := 392, attributes := #[] }, { accessFlags := 25, nameIndex := 464, descriptorIndex := 404, attributes := #[] }, { accessFlags := 25, nameIndex := 465, descriptorIndex := 404, attributes := #[] }, { accessFlags := 25, nameIndex := 466, descriptorIndex := 404, attributes := #[] }, { accessFlags := 25, nameIndex := 467, descriptorIndex := 404, attributes := #[] }, { accessFlags := 25, nameIndex := 468, descriptorIndex := 404, attributes := #[] }, { accessFlags := 25, nameIndex := 469, descriptorIndex := 404, attributes := #[] }, { accessFlags := 25, nameIndex := 470, descriptorIndex := 404, attributes := #[] }, { accessFlags := 25, nameIndex := 471, descriptorIndex := 404, attributes := #[] }, { accessFlags := 25, nameIndex := 472, descriptorIndex := 404, attributes := #[] }, { accessFlags := 25, nameIndex := 473, descriptorIndex := 404, attributes := #[] }, { accessFlags := 25, nameIndex := 474, descriptorIndex := 404, attributes := #[] }, { accessFlags := 25, nameIndex := 475, descriptorIndex := 404, attributes := #[] }, { accessFlags := 25, nameIndex := 476, descriptorIndex := 404, attributes := #[] }, { accessFlags := 25, nameIndex := 477, descriptorIndex := 404, attributes := #[] }, { accessFlags := 25, nameIndex := 478, descriptorIndex := 404, attributes := #[] }, { accessFlags := 25, nameIndex := 479, descriptorIndex := 404, attributes := #[] }, { accessFlags := 25, nameIndex := 480, descriptorIndex := 404, attributes := #[] }, { accessFlags := 25, nameIndex := 481, descriptorIndex := 404, attributes := #[] }, { accessFlags := 25, nameIndex := 482, descriptorIndex := 404, attributes := #[] }, { accessFlags := 25, nameIndex := 484, descriptorIndex := 404, attributes := #[] }, { accessFlags := 25, nameIndex := 485, descriptorIndex := 404, attributes := #[] }, { accessFlags := 25, nameIndex := 486, descriptorIndex := 404, attributes := #[] }, { accessFlags := 25, nameIndex := 487, descriptorIndex := 404, attributes := #[] }, { accessFlags := 25, nameIndex := 488, descriptorIndex := 404, attributes := #[] }, { accessFlags := 25, nameIndex := 489, descriptorIndex := 22, attributes := #[] }, { accessFlags := 25, nameIndex := 490, descriptorIndex := 22, attributes := #[] }, { accessFlags := 25, nameIndex := 492, descriptorIndex := 22, attributes := #[] }, { accessFlags := 25, nameIndex := 493, descriptorIndex := 22, attributes := #[] }, { accessFlags := 25, nameIndex := 495, descriptorIndex := 22, attributes := #[] }, { accessFlags := 25, nameIndex := 496, descriptorIndex := 22, attributes := #[] }, { accessFlags := 25, nameIndex := 497, descriptorIndex := 392, attributes := #[] }, { accessFlags := 25, nameIndex := 498, descriptorIndex := 392, attributes := #[] }, { accessFlags := 25, nameIndex := 499, descriptorIndex := 392, attributes := #[] }, { accessFlags := 18, nameIndex := 21, descriptorIndex := 22, attributes := #[] }, { accessFlags := 26, nameIndex := 501, descriptorIndex := 502, attributes := #[] }, { accessFlags := 25, nameIndex := 505, descriptorIndex := 392, attributes := #[] }, { accessFlags := 25, nameIndex := 506, descriptorIndex := 392, attributes := #[] }, { accessFlags := 4120, nameIndex := 284, descriptorIndex := 285, attributes := #[] }])
  fields := #[{ name := "MIN_RADIX", type := .int, accessFlags := 25, slot := 0, constantValue := 0 }, { name := "MAX_RADIX", type := .int, accessFlags := 25, slot := 1, constantValue := 0 }, { name := "MIN_VALUE", type := .char, accessFlags := 25, slot := 2, constantValue := 0 }, { name := "MAX_VALUE", type := .char, accessFlags := 25, slot := 3, constantValue := 0 }, { name := "TYPE", type := (.object "java/lang/Class"), accessFlags := 25, slot := 4, constantValue := 0 }, { name := "UNASSIGNED", type := .byte, accessFlags := 25, slot := 5, constantValue := 0 }, { name := "UPPERCASE_LETTER", type := .byte, accessFlags := 25, slot := 6, constantValue := 0 }, { name := "LOWERCASE_LETTER", type := .byte, accessFlags := 25, slot := 7, constantValue := 0 }, { name := "TITLECASE_LETTER", type := .byte, accessFlags := 25, slot := 8, constantValue := 0 }, { name := "MODIFIER_LETTER", type := .byte, accessFlags := 25, slot := 9, constantValue := 0 }, { name := "OTHER_LETTER", type := .byte, accessFlags := 25, slot := 10, constantValue := 0 }, { name := "NON_SPACING_MARK", type := .byte, accessFlags := 25, slot := 11, constantValue := 0 }, { name := "ENCLOSING_MARK", type := .byte, accessFlags := 25, slot := 12, constantValue := 0 }, { name := "COMBINING_SPACING_MARK", type := .byte, accessFlags := 25, slot := 13, constantValue := 0 }, { name := "DECIMAL_DIGIT_NUMBER", type := .byte, accessFlags := 25, slot := 14, constantValue := 0 }, { name := "LETTER_NUMBER", type := .byte, accessFlags := 25, slot := 15, constantValue := 0 }, { name := "OTHER_NUMBER", type := .byte, accessFlags := 25, slot := 16, constantValue := 0 }, { name := "SPACE_SEPARATOR", type := .byte, accessFlags := 25, slot := 17, constantValue := 0 }, { name := "LINE_SEPARATOR", type := .byte, accessFlags := 25, slot := 18, constantValue := 0 }, { name := "PARAGRAPH_SEPARATOR", type := .byte, accessFlags := 25, slot := 19, constantValue := 0 }, { name := "CONTROL", type := .byte, accessFlags := 25, slot := 20, constantValue := 0 }, { name := "FORMAT", type := .byte, accessFlags := 25, slot := 21, constantValue := 0 }, { name := "PRIVATE_USE", type := .byte, accessFlags := 25, slot := 22, constantValue := 0 }, { name := "SURROGATE", type := .byte, accessFlags := 25, slot := 23, constantValue := 0 }, { name := "DASH_PUNCTUATION", type := .byte, accessFlags := 25, slot := 24, constantValue := 0 }, { name := "START_PUNCTUATION", type := .byte, accessFlags := 25, slot := 25, constantValue := 0 }, { name := "END_PUNCTUATION", type := .byte, accessFlags := 25, slot := 26, constantValue := 0 }, { name := "CONNECTOR_PUNCTUATION", type := .byte, accessFlags := 25, slot := 27, constantValue := 0 }, { name := "OTHER_PUNCTUATION", type := .byte, accessFlags := 25, slot := 28, constantValue := 0 }, { name := "MATH_SYMBOL", type := .byte, accessFlags := 25, slot := 29, constantValue := 0 }, { name := "CURRENCY_SYMBOL", type := .byte, accessFlags := 25, slot := 30, constantValue := 0 }, { name := "MODIFIER_SYMBOL", type := .byte, accessFlags := 25, slot := 31, constantValue := 0 }, { name := "OTHER_SYMBOL", type := .byte, accessFlags := 25, slot := 32, constantValue := 0 }, { name := "INITIAL_QUOTE_PUNCTUATION", type := .byte, accessFlags := 25, slot := 33, constantValue := 0 }, { name := "FINAL_QUOTE_PUNCTUATION", type := .byte, accessFlags := 25, slot := 34, constantValue := 0 }, { name := "ERROR", type := .int, accessFlags := 24, slot := 35, constantValue := 0 }, { name := "DIRECTIONALITY_UNDEFINED", type := .byte, accessFlags := 25, slot := 36, constantValue := 0 }, { name := "DIRECTIONALITY_LEFT_TO_RIGHT", type := .byte, accessFlags := 25, slot := 37, constantValue := 0 }, { name := "DIRECTIONALITY_RIGHT_TO_LEFT", type := .byte, accessFlags := 25, slot := 38, constantValue := 0 }, { name := "DIRECTIONALITY_RIGHT_TO_LEFT_ARABIC", type := .byte, accessFlags := 25, slot := 39, constantValue := 0 }, { name := "DIRECTIONALITY_EUROPEAN_NUMBER", type := .byte, accessFlags := 25, slot := 40, constantValue := 0 }, { name := "DIRECTIONALITY_EUROPEAN_NUMBER_SEPARATOR", type := .byte, accessFlags := 25, slot := 41, constantValue := 0 }, { name := "DIRECTIONALITY_EUROPEAN_NUMBER_TERMINATOR", type := .byte, accessFlags := 25, slot := 42, constantValue := 0 }, { name := "DIRECTIONALITY_ARABIC_NUMBER", type := .byte, accessFlags := 25, slot := 43, constantValue := 0 }, { name := "DIRECTIONALITY_COMMON_NUMBER_SEPARATOR", type := .byte, accessFlags := 25, slot := 44, constantValue := 0 }, { name := "DIRECTIONALITY_NONSPACING_MARK", type := .byte, accessFlags := 25, slot := 45, constantValue := 0 }, { name := "DIRECTIONALITY_BOUNDARY_NEUTRAL", type := .byte, accessFlags := 25, slot := 46, constantValue := 0 }, { name := "DIRECTIONALITY_PARAGRAPH_SEPARATOR", type := .byte, accessFlags := 25, slot := 47, constantValue := 0 }, { name := "DIRECTIONALITY_SEGMENT_SEPARATOR", type := .byte, accessFlags := 25, slot := 48, constantValue := 0 }, { name := "DIRECTIONALITY_WHITESPACE", type := .byte, accessFlags := 25, slot := 49, constantValue := 0 }, { name := "DIRECTIONALITY_OTHER_NEUTRALS", type := .byte, accessFlags := 25, slot := 50, constantValue := 0 }, { name := "DIRECTIONALITY_LEFT_TO_RIGHT_EMBEDDING", type := .byte, accessFlags := 25, slot := 51, constantValue := 0 }, { name := "DIRECTIONALITY_LEFT_TO_RIGHT_OVERRIDE", type := .byte, accessFlags := 25, slot := 52, constantValue := 0 }, { name := "DIRECTIONALITY_RIGHT_TO_LEFT_EMBEDDING", type := .byte, accessFlags := 25, slot := 53, constantValue := 0 }, { name := "DIRECTIONALITY_RIGHT_TO_LEFT_OVERRIDE", type := .byte, accessFlags := 25, slot := 54, constantValue := 0 }, { name := "DIRECTIONALITY_POP_DIRECTIONAL_FORMAT", type := .byte, accessFlags := 25, slot := 55, constantValue := 0 }, { name := "DIRECTIONALITY_LEFT_TO_RIGHT_ISOLATE", type := .byte, accessFlags := 25, slot := 56, constantValue := 0 }, { name := "DIRECTIONALITY_RIGHT_TO_LEFT_ISOLATE", type := .byte, accessFlags := 25, slot := 57, constantValue := 0 }, { name := "DIRECTIONALITY_FIRST_STRONG_ISOLATE", type := .byte, accessFlags := 25, slot := 58, constantValue := 0 }, { name := "DIRECTIONALITY_POP_DIRECTIONAL_ISOLATE", type := .byte, accessFlags := 25, slot := 59, constantValue := 0 }, { name := "MIN_HIGH_SURROGATE", type := .char, accessFlags := 25, slot := 60, constantValue := 0 }, { name := "MAX_HIGH_SURROGATE", type := .char, accessFlags := 25, slot := 61, constantValue := 0 }, { name := "MIN_LOW_SURROGATE", type := .char, accessFlags := 25, slot := 62, constantValue := 0 }, { name := "MAX_LOW_SURROGATE", type := .char, accessFlags := 25, slot := 63, constantValue := 0 }, { name := "MIN_SURROGATE", type := .char, accessFlags := 25, slot := 64, constantValue := 0 }, { name := "MAX_SURROGATE", type := .char, accessFlags := 25, slot := 65, constantValue := 0 }, { name := "MIN_SUPPLEMENTARY_CODE_POINT", type := .int, accessFlags := 25, slot := 66, constantValue := 0 }, { name := "MIN_CODE_POINT", type := .int, accessFlags := 25, slot := 67, constantValue := 0 }, { name := "MAX_CODE_POINT", type := .int, accessFlags := 25, slot := 68, constantValue := 0 }, { name := "value", type := .char, accessFlags := 18, slot := 0, constantValue := 0 }, { name := "serialVersionUID", type := .long, accessFlags := 26, slot := 69, constantValue := 0 }, { name := "SIZE", type := .int, accessFlags := 25, slot := 70, constantValue := 0 }, { name := "BYTES", type := .int, accessFlags := 25, slot := 71, constantValue := 0 }, { name := "$assertionsDisabled", type := .boolean, accessFlags := 4120, slot := 72, constantValue := 0 }]
  methods := #[k14m0]
  instanceTypes := #[.char]
  staticTypes := #[.int, .int, .char, .char, (.object "java/lang/Class"), .byte, .byte, .byte, .byte, .byte, .byte, .byte, .byte, .byte, .byte, .byte, .byte, .byte, .byte, .byte, .byte, .byte, .byte, .byte, .byte, .byte, .byte, .byte, .byte, .byte, .byte, .byte, .byte, .byte, .byte, .int, .byte, .byte, .byte, .byte, .byte, .byte, .byte, .byte, .byte, .byte, .byte, .byte, .byte, .byte, .byte, .byte, .byte, .byte, .byte, .byte, .byte, .byte, .byte, .byte, .char, .char, .char, .char, .char, .char, .int, .int, .int, .long, .int, .int, .boolean]
  resolved := Array.replicate 604 none
  statics := none }

def pool15 : Array CpInfo := pool [(1, .class_ 2), (0, u "java/lang/String"), (1, .class_ 6), (1, u "java/lang/Object"), (0, u "<init>"), (0, u "()V"), (0, .methodref 1 10), (0, .nameAndType 11 12), (0, u "checkIndex"), (0, u "(II)V"), (1, .class_ 16), (1, u "java/lang/StringLatin1"), (36, u "([BI)C"), (58, .methodref 1 113), (0, .nameAndType 7 114), (0, u "([BB)V"), (6, u "$assertionsDisabled"), (0, u "Z"), (8, .class_ 133), (1, u "java/util/Arrays"), (17, .string 152), (0, u ""), (43, u "newString"), (0, u "([BII)Ljava/lang/String;"), (23, .class_ 223), (1, u "java/lang/StringLatin1$LinesSpliterator"), (8, .methodref 131 233), (0, .nameAndType 234 235), (0, u "copyOfRange"), (0, u "([BII)[B"), (16, u "charAt"), (137, .class_ 391), (0, u "java/lang/StringLatin1$CharsSpliterator")] 3

def k15m0 : Method := { name := "<init>", desc := "()V", sig := { parameters := [], returnType := none }, accessFlags := 0, code := none }
def k15c1 : Code := { maxStack := 2, maxLocals := 2, code := jdk_43_method_2_code, exceptionTable := #[], attributes := #[] }
def k15m1 : Method := { name := "charAt", desc := "([BI)C", sig := { parameters := [(.array .byte), .int], returnType := some .char }, accessFlags := 9, code := some k15c1 }
def k15c2 : Code := { maxStack := 6, maxLocals := 3, code := jdk_43_method_47_code, exceptionTable := #[], attributes := #[] }
def k15m2 : Method := { name := "newString", desc := "([BII)Ljava/lang/String;", sig := { parameters := [(.array .byte), .int, .int], returnType := some (.object "java/lang/String") }, accessFlags := 9, code := some k15c2 }
/-- java/lang/StringLatin1 -/
def k15 : Class := { plain "java/lang/StringLatin1" (some 0) with
  accessFlags := 48
  interfaces := #[]
  cf := some (fileOf pool15 14 #[.nestMembers #[390, 221]] #[{ accessFlags := 0, nameIndex := 7, descriptorIndex := 8, attributes := #[] }, { accessFlags := 9, nameIndex := 252, descriptorIndex := 53, attributes := #[] }, { accessFlags := 9, nameIndex := 196, descriptorIndex := 197, attributes := #[] }] 48 4 #[] #[{ accessFlags := 4120, nameIndex := 121, descriptorIndex := 122, attributes := #[] }])
  fields := #[{ name := "$assertionsDisabled", type := .boolean, accessFlags := 4120, slot := 0, constantValue := 0 }]
  methods := #[k15m0, k15m1, k15m2]
  instanceTypes := #[]
  staticTypes := #[.boolean]
  resolved := Array.replicate 395 none
  statics := none }

def pool16 : Array CpInfo := pool [(2, .class_ 4), (1, u "java/lang/Object"), (0, u "<init>"), (0, u "()V"), (7, .class_ 16), (1, u "java/util/Arrays"), (57, .class_ 76), (1, u "java/util/Arrays$NaturalOrder"), (36, .class_ 115), (1, u "java/util/Arrays$LegacyMergeSort"), (1, u "Z"), (21, u "copyOfRange"), (10, .methodref 151 152), (0, .class_ 153), (0, .nameAndType 154 155), (0, u "java/lang/System"), (0, u "arraycopy"), (0, u "(Ljava/lang/Object;ILjava/lang/Object;II)V"), (148, .methodref 305 306), (0, .class_ 307), (0, .nameAndType 308 309), (0, u "java/lang/Math"), (0, u "min"), (0, u "(II)I"), (29, .methodref 14 340), (0, .nameAndType 341 342), (0, u "copyOfRangeByte"), (0, u "([BII)[B"), (0, .methodref 14 344), (0, .nameAndType 345 346), (0, u "checkLength"), (0, u "(II)V"), (28, .class_ 376), (0, u "java/util/Arrays$ArrayList"), (68, u "$assertionsDisabled"), (269, u "MIN_ARRAY_SORT_GRAN"), (0, u "I"), (2, u "INSERTIONSORT_THRESHOLD"), (255, .class_ 976), (0, u "java/util/Arrays$ArrayItr")] 52

def k16m0 : Method := { name := "<init>", desc := "()V", sig := { parameters := [], returnType := none }, accessFlags := 2, code := none }
def k16c1 : Code := { maxStack := 4, maxLocals := 2, code := jdk_65_method_131_code, exceptionTable := #[], attributes := #[] }
def k16m1 : Method := { name := "checkLength", desc := "(II)V", sig := { parameters := [.int, .int], returnType := none }, accessFlags := 10, code := some k16c1 }
def k16c2 : Code := { maxStack := 3, maxLocals := 3, code := jdk_65_method_132_code, exceptionTable := #[], attributes := #[] }
def k16m2 : Method := { name := "copyOfRange", desc := "([BII)[B", sig := { parameters := [(.array .byte), .int, .int], returnType := some (.array .byte) }, accessFlags := 9, code := some k16c2 }
def k16c3 : Code := { maxStack := 6, maxLocals := 5, code := jdk_65_method_133_code, exceptionTable := #[], attributes := #[] }
def k16m3 : Method := { name := "copyOfRangeByte", desc := "([BII)[B", sig := { parameters := [(.array .byte), .int, .int], returnType := some (.array .byte) }, accessFlags := 10, code := some k16c3 }
/-- java/util/Arrays -/
def k16 : Class := { plain "java/util/Arrays" (some 0) with
  accessFlags := 49
  interfaces := #[]
  cf := some (fileOf pool16 14 #[.nestMembers #[975, 375, 113, 74]] #[{ accessFlags := 2, nameIndex := 5, descriptorIndex := 6, attributes := #[] }, { accessFlags := 10, nameIndex := 345, descriptorIndex := 346, attributes := #[] }, { accessFlags := 9, nameIndex := 139, descriptorIndex := 342, attributes := #[] }, { accessFlags := 10, nameIndex := 341, descriptorIndex := 342, attributes := #[] }] 49 2 #[] #[{ accessFlags := 26, nameIndex := 715, descriptorIndex := 716, attributes := #[] }, { accessFlags := 26, nameIndex := 719, descriptorIndex := 716, attributes := #[] }, { accessFlags := 4120, nameIndex := 445, descriptorIndex := 117, attributes := #[] }])
  fields := #[{ name := "MIN_ARRAY_SORT_GRAN", type := .int, accessFlags := 26, slot := 0, constantValue := 0 }, { name := "INSERTIONSORT_THRESHOLD", type := .int, accessFlags := 26, slot := 1, constantValue := 0 }, { name := "$assertionsDisabled", type := .boolean, accessFlags := 4120, slot := 2, constantValue := 0 }]
  methods := #[k16m0, k16m1, k16m2, k16m3]
  instanceTypes := #[]
  staticTypes := #[.int, .int, .boolean]
  resolved := Array.replicate 1029 none
  statics := none }

def pool17 : Array CpInfo := pool [(2, .class_ 4), (1, u "java/lang/Object"), (0, u "<init>"), (0, u "()V"), (1, .class_ 10), (1, u "java/lang/System"), (0, u "allowSecurityManager"), (0, u "I"), (16, u "cons"), (0, u "Ljava/io/Console;"), (77, .class_ 110), (1, u "java/lang/System$CallersHolder"), (43, u "initialErrStream"), (0, u "Ljava/io/PrintStream;"), (19, u "security"), (0, u "Ljava/lang/SecurityManager;"), (31, .class_ 209), (0, u "java/lang/System$1"), (7, u "props"), (0, u "Ljava/util/Properties;"), (2, u "lineSeparator"), (0, u "Ljava/lang/String;"), (96, .class_ 321), (1, u "java/lang/System$LoggerFinder"), (5, .class_ 328), (0, u "java/lang/System$Logger"), (67, u "err"), (2, u "out"), (91, u "notSupportedJnuEncoding"), (15, u "in"), (17, u "initialIn"), (0, u "Ljava/io/InputStream;"), (35, u "bootLayer"), (0, u "Ljava/lang/ModuleLayer;"), (99, .class_ 664), (0, u "java/lang/System$2"), (9, u "NEVER"), (2, u "MAYBE"), (49, u "arraycopy"), (0, u "(Ljava/lang/Object;ILjava/lang/Object;II)V"), (72, .class_ 802), (0, u "java/lang/System$Logger$Level")] 31

def k17m0 : Method := { name := "<init>", desc := "()V", sig := { parameters := [], returnType := none }, accessFlags := 2, code := none }
def k17m1 : Method := { name := "arraycopy", desc := "(Ljava/lang/Object;ILjava/lang/Object;II)V", sig := { parameters := [(.object "java/lang/Object"), .int, (.object "java/lang/Object"), .int, .int], returnType := none }, accessFlags := 265, code := none }
/-- java/lang/System -/
def k17 : Class := { plain "java/lang/System" (some 0) with
  accessFlags := 49
  interfaces := #[]
  cf := some (fileOf pool17 8 #[.nestMembers #[319, 327, 801, 108, 663, 208]] #[{ accessFlags := 2, nameIndex := 5, descriptorIndex := 6, attributes := #[] }, { accessFlags := 265, nameIndex := 727, descriptorIndex := 728, attributes := #[] }] 49 2 #[] #[{ accessFlags := 25, nameIndex := 507, descriptorIndex := 526, attributes := #[] }, { accessFlags := 25, nameIndex := 399, descriptorIndex := 155, attributes := #[] }, { accessFlags := 25, nameIndex := 396, descriptorIndex := 155, attributes := #[] }, { accessFlags := 10, nameIndex := 525, descriptorIndex := 526, attributes := #[] }, { accessFlags := 26, nameIndex := 674, descriptorIndex := 12, attributes := #[] }, { accessFlags := 26, nameIndex := 677, descriptorIndex := 12, attributes := #[] }, { accessFlags := 10, nameIndex := 11, descriptorIndex := 12, attributes := #[] }, { accessFlags := 74, nameIndex := 175, descriptorIndex := 176, attributes := #[] }, { accessFlags := 10, nameIndex := 491, descriptorIndex := 222, attributes := #[] }, { accessFlags := 74, nameIndex := 29, descriptorIndex := 30, attributes := #[] }, { accessFlags := 74, nameIndex := 154, descriptorIndex := 155, attributes := #[] }, { accessFlags := 10, nameIndex := 217, descriptorIndex := 218, attributes := #[] }, { accessFlags := 10, nameIndex := 221, descriptorIndex := 222, attributes := #[] }, { accessFlags := 8, nameIndex := 562, descriptorIndex := 563, attributes := #[] }])
  fields := #[{ name := "in", type := (.object "java/io/InputStream"), accessFlags := 25, slot := 0, constantValue := 0 }, { name := "out", type := (.object "java/io/PrintStream"), accessFlags := 25, slot := 1, constantValue := 0 }, { name := "err", type := (.object "java/io/PrintStream"), accessFlags := 25, slot := 2, constantValue := 0 }, { name := "initialIn", type := (.object "java/io/InputStream"), accessFlags := 10, slot := 3, constantValue := 0 }, { name := "NEVER", type := .int, accessFlags := 26, slot := 4, constantValue := 0 }, { name := "MAYBE", type := .int, accessFlags := 26, slot := 5, constantValue := 0 }, { name := "allowSecurityManager", type := .int, accessFlags := 10, slot := 6, constantValue := 0 }, { name := "security", type := (.object "java/lang/SecurityManager"), accessFlags := 74, slot := 7, constantValue := 0 }, { name := "notSupportedJnuEncoding", type := (.object "java/lang/String"), accessFlags := 10, slot := 8, constantValue := 0 }, { name := "cons", type := (.object "java/io/Console"), accessFlags := 74, slot := 9, constantValue := 0 }, { name := "initialErrStream", type := (.object "java/io/PrintStream"), accessFlags := 74, slot := 10, constantValue := 0 }, { name := "props", type := (.object "java/util/Properties"), accessFlags := 10, slot := 11, constantValue := 0 }, { name := "lineSeparator", type := (.object "java/lang/String"), accessFlags := 10, slot := 12, constantValue := 0 }, { name := "bootLayer", type := (.object "java/lang/ModuleLayer"), accessFlags := 8, slot := 13, constantValue := 0 }]
  methods := #[k17m0, k17m1]
  instanceTypes := #[]
  staticTypes := #[(.object "java/io/InputStream"), (.object "java/io/PrintStream"), (.object "java/io/PrintStream"), (.object "java/io/InputStream"), .int, .int, .int, (.object "java/lang/SecurityManager"), (.object "java/lang/String"), (.object "java/io/Console"), (.object "java/io/PrintStream"), (.object "java/util/Properties"), (.object "java/lang/String"), (.object "java/lang/ModuleLayer")]
  resolved := Array.replicate 834 none
  statics := none }

def pool18 : Array CpInfo := pool [(9, u "<init>"), (6, .class_ 18), (1, u "java/lang/Object"), (0, u "()V"), (1, .class_ 23), (1, u "jdk/internal/util/ArraysSupport"), (0, u "LOG2_ARRAY_LONG_INDEX_SCALE"), (0, u "I"), (2, u "U"), (0, u "Ljdk/internal/misc/Unsafe;"), (8, u "BIG_ENDIAN"), (0, u "Z"), (8, u "LOG2_BYTE_BIT_SIZE"), (4, u "LOG2_ARRAY_INT_INDEX_SCALE"), (54, u "JLA"), (0, u "Ljdk/internal/access/JavaLangAccess;"), (11, u "LOG2_ARRAY_BOOLEAN_INDEX_SCALE"), (9, u "LOG2_ARRAY_BYTE_INDEX_SCALE"), (5, u "LOG2_ARRAY_CHAR_INDEX_SCALE"), (5, u "LOG2_ARRAY_SHORT_INDEX_SCALE"), (18, u "LOG2_ARRAY_FLOAT_INDEX_SCALE"), (24, u "LOG2_ARRAY_DOUBLE_INDEX_SCALE"), (89, u "T_BOOLEAN"), (2, u "T_CHAR"), (1, u "T_FLOAT"), (1, u "T_DOUBLE"), (1, u "T_BYTE"), (1, u "T_SHORT"), (1, u "T_INT"), (1, u "T_LONG"), (1, u "SOFT_MAX_ARRAY_LENGTH")] 83

def k18m0 : Method := { name := "<init>", desc := "()V", sig := { parameters := [], returnType := none }, accessFlags := 2, code := none }
/-- jdk/internal/util/ArraysSupport -/
def k18 : Class := { plain "jdk/internal/util/ArraysSupport" (some 0) with
  accessFlags := 33
  interfaces := #[]
  cf := some (fileOf pool18 21 #[] #[{ accessFlags := 2, nameIndex := 9, descriptorIndex := 19, attributes := #[] }] 33 16 #[] #[{ accessFlags := 24, nameIndex := 28, descriptorIndex := 29, attributes := #[] }, { accessFlags := 26, nameIndex := 38, descriptorIndex := 39, attributes := #[] }, { accessFlags := 25, nameIndex := 121, descriptorIndex := 25, attributes := #[] }, { accessFlags := 25, nameIndex := 131, descriptorIndex := 25, attributes := #[] }, { accessFlags := 25, nameIndex := 137, descriptorIndex := 25, attributes := #[] }, { accessFlags := 25, nameIndex := 143, descriptorIndex := 25, attributes := #[] }, { accessFlags := 25, nameIndex := 53, descriptorIndex := 25, attributes := #[] }, { accessFlags := 25, nameIndex := 24, descriptorIndex := 25, attributes := #[] }, { accessFlags := 25, nameIndex := 162, descriptorIndex := 25, attributes := #[] }, { accessFlags := 25, nameIndex := 187, descriptorIndex := 25, attributes := #[] }, { accessFlags := 26, nameIndex := 48, descriptorIndex := 25, attributes := #[] }, { accessFlags := 25, nameIndex := 277, descriptorIndex := 25, attributes := #[] }, { accessFlags := 25, nameIndex := 280, descriptorIndex := 25, attributes := #[] }, { accessFlags := 25, nameIndex := 282, descriptorIndex := 25, attributes := #[] }, { accessFlags := 25, nameIndex := 284, descriptorIndex := 25, attributes := #[] }, { accessFlags := 25, nameIndex := 286, descriptorIndex := 25, attributes := #[] }, { accessFlags := 25, nameIndex := 288, descriptorIndex := 25, attributes := #[] }, { accessFlags := 25, nameIndex := 290, descriptorIndex := 25, attributes := #[] }, { accessFlags := 25, nameIndex := 292, descriptorIndex := 25, attributes := #[] }, { accessFlags := 26, nameIndex := 108, descriptorIndex := 109, attributes := #[] }, { accessFlags := 25, nameIndex := 294, descriptorIndex := 25, attributes := #[] }])
  fields := #[{ name := "U", type := (.object "jdk/internal/misc/Unsafe"), accessFlags := 24, slot := 0, constantValue := 0 }, { name := "BIG_ENDIAN", type := .boolean, accessFlags := 26, slot := 1, constantValue := 0 }, { name := "LOG2_ARRAY_BOOLEAN_INDEX_SCALE", type := .int, accessFlags := 25, slot := 2, constantValue := 0 }, { name := "LOG2_ARRAY_BYTE_INDEX_SCALE", type := .int, accessFlags := 25, slot := 3, constantValue := 0 }, { name := "LOG2_ARRAY_CHAR_INDEX_SCALE", type := .int, accessFlags := 25, slot := 4, constantValue := 0 }, { name := "LOG2_ARRAY_SHORT_INDEX_SCALE", type := .int, accessFlags := 25, slot := 5, constantValue := 0 }, { name := "LOG2_ARRAY_INT_INDEX_SCALE", type := .int, accessFlags := 25, slot := 6, constantValue := 0 }, { name := "LOG2_ARRAY_LONG_INDEX_SCALE", type := .int, accessFlags := 25, slot := 7, constantValue := 0 }, { name := "LOG2_ARRAY_FLOAT_INDEX_SCALE", type := .int, accessFlags := 25, slot := 8, constantValue := 0 }, { name := "LOG2_ARRAY_DOUBLE_INDEX_SCALE", type := .int, accessFlags := 25, slot := 9, constantValue := 0 }, { name := "LOG2_BYTE_BIT_SIZE", type := .int, accessFlags := 26, slot := 10, constantValue := 0 }, { name := "T_BOOLEAN", type := .int, accessFlags := 25, slot := 11, constantValue := 0 }, { name := "T_CHAR", type := .int, accessFlags := 25, slot := 12, constantValue := 0 }, { name := "T_FLOAT", type := .int, accessFlags := 25, slot := 13, constantValue := 0 }, { name := "T_DOUBLE", type := .int, accessFlags := 25, slot := 14, constantValue := 0 }, { name := "T_BYTE", type := .int, accessFlags := 25, slot := 15, constantValue := 0 }, { name := "T_SHORT", type := .int, accessFlags := 25, slot := 16, constantValue := 0 }, { name := "T_INT", type := .int, accessFlags := 25, slot := 17, constantValue := 0 }, { name := "T_LONG", type := .int, accessFlags := 25, slot := 18, constantValue := 0 }, { name := "JLA", type := (.object "jdk/internal/access/JavaLangAccess"), accessFlags := 26, slot := 19, constantValue := 0 }, { name := "SOFT_MAX_ARRAY_LENGTH", type := .int, accessFlags := 25, slot := 20, constantValue := 0 }]
  methods := #[k18m0]
  instanceTypes := #[]
  staticTypes := #[(.object "jdk/internal/misc/Unsafe"), .boolean, .int, .int, .int, .int, .int, .int, .int, .int, .int, .int, .int, .int, .int, .int, .int, .int, .int, (.object "jdk/internal/access/JavaLangAccess"), .int]
  resolved := Array.replicate 378 none
  statics := none }

def pool19 : Array CpInfo := pool [(1, u "java/lang/Cloneable"), (0, .class_ 1), (0, u "java/lang/Object"), (0, .class_ 3)] 3

/-- java/lang/Cloneable -/
def k19 : Class := { plain "java/lang/Cloneable" (some 0) with
  accessFlags := 1537
  interfaces := #[]
  cf := some (fileOf pool19 2 #[] #[] 1537 4 #[] #[])
  fields := #[]
  methods := #[]
  instanceTypes := #[]
  staticTypes := #[]
  resolved := Array.replicate 8 none
  statics := none }

/-- the primitive byte -/
def k20 : Class := { plain "byte" none with kind := .primitive 'B', accessFlags := 0x411 }
/-- [B -/
def k21 : Class := { plain "[B" (some 0) with kind := .array 20 .byte, interfaces := #[19, 2], accessFlags := 1041 }

/-- the primitive char -/
def k22 : Class := { plain "char" none with kind := .primitive 'C', accessFlags := 0x411 }
/-- [C -/
def k23 : Class := { plain "[C" (some 0) with kind := .array 22 .char, interfaces := #[19, 2], accessFlags := 1041 }

/-- the primitive int -/
def k24 : Class := { plain "int" none with kind := .primitive 'I', accessFlags := 0x411 }
/-- [I -/
def k25 : Class := { plain "[I" (some 0) with kind := .array 24 .int, interfaces := #[19, 2], accessFlags := 1041 }

def heap : Heap := #[{ cls := 7, slots := #[.long 0, .int 1, .null, .int 0, .null, .int 0, .int 0], vm := .statics 7 },
  { cls := 13, slots := #[.null, .null, .null], vm := .statics 13 }]
def classes : Array Class := #[k0, k1, k2, k3, k4, k5, k6, k7, k8, k9, k10, k11, k12, k13, k14, k15, k16, k17, k18, k19, k20, k21, k22, k23, k24, k25]
def interned : List (Array UInt16 × Addr) := []
def slotsUsed : Nat := 10
def theMethod : MethodId := ⟨1, 2⟩
def args0 : Array Value := #[.int 65, .int 66, .int 67, .int 5]
def aboutOver (below : List Frame) : State where
  vm := { classes := classes, interned := interned.toArray }
  heap := heap
  slotsUsed := slotsUsed
  threads := #[{ frames := .invoking theMethod args0 :: below }]
def below0 : List Frame := [.native { method := ⟨0, 0⟩, args := #[] }]
def about1 : State := aboutOver below0
def p0 : Program := .bare "" "" ""
def e0 : Env := launch0.env 0 0 0
theorem w_frames : about1.frames = Frame.invoking theMethod args0 :: below0 := rfl
set_option maxRecDepth 65536 in
theorem w_args : argsFit about1.vm theMethod args0 = true := by decide +kernel
set_option maxRecDepth 65536 in
theorem w_heap : heapFits about1 = true := by decide +kernel
set_option maxRecDepth 65536 in
theorem w_runnable : about1.curStatus? = some .runnable := by decide +kernel
set_option maxRecDepth 65536 in
theorem w_alone : about1.alone = true := by decide +kernel
set_option maxRecDepth 65536 in
theorem w_named : about1.methodNamed? x = some theMethod := by decide +kernel
set_option maxRecDepth 65536 in
theorem w_hears : about1.hears theMethod below0 = true := by decide +kernel
set_option maxRecDepth 65536 in
theorem w_ripe : about1.ripe theMethod args0 below0 = true := by decide +kernel
theorem w_running : about1.status = .running := rfl
set_option maxRecDepth 65536 in
theorem w_room : about1.hasRoom e0.platform room_1 = true :=
  launch0.hasRoom_least _ room_1 (by decide +kernel) (by decide +kernel) (by decide +kernel) (by decide +kernel) (by decide +kernel) (by decide +kernel)
theorem allAtoms_all (ts : List Jvm.Cond) (a : Array Jvm.Value) (st : Jvm.State) : (allAtoms ts).before a st = ts.all (fun c => c.before a st) := by
  induction ts with
  | nil => rfl
  | cons c t ih =>
    show (Jvm.Cond.and c (allAtoms t)).before a st = _
    rw [Jvm.Cond.before_and, ih, List.all_cons]
def words1 : List Jvm.Cond := Jvm.Cond.code x code maxLocals ret :: tables_1
/-- a 'code' word, met by the world's own term for the bytes: nothing is compared byte by byte -/
theorem code_word {y : MethodName} {bytes : ByteArray} {mx : Nat} {rt : Option FieldType} {a : Array Value} {s : State} {m : MethodId} {meth : Method} {c : Code} (h1 : s.methodNamed? y = some m) (h2 : s.vm.method? m = some meth) (h3 : meth.code = some c) (h4 : c.code = bytes)
    (h5 : (c.maxLocals == mx && c.exceptionTable.isEmpty && decide (c.maxStack ≤ mostOperands) && decide (meth.sig.returnType = rt) && !meth.locks && decide (parseMethodDescriptor y.desc = some meth.sig)) = true) : (Jvm.Cond.code y bytes mx rt).before a s = true := by
  simp only [Bool.and_eq_true, beq_iff_eq, Bool.not_eq_true', decide_eq_true_eq] at h5
  obtain ⟨⟨⟨⟨⟨g1, g2⟩, g3⟩, g4⟩, g5⟩, g6⟩ := h5
  simp [Cond.before, Cond.holds, Cond.value, h1, h2, h3, h4, g1, g2, g3, g4, g5, g6]
def isCode : Jvm.Cond → Bool
  | .code _ _ _ _ => true
  | _ => false
theorem all_split {L : List Jvm.Cond} {P : Jvm.Cond → Bool} (h1 : L.all (fun c => isCode c || P c) = true) (h2 : ∀ c ∈ L.filter isCode, P c = true) : L.all P = true := by
  refine List.all_eq_true.mpr fun c hc => ?_
  have h := List.all_eq_true.mp h1 c hc
  rcases Bool.eq_false_or_eq_true (isCode c) with hi | hi
  · exact h2 c (List.mem_filter.mpr ⟨hc, hi⟩)
  · simpa [hi] using h
set_option maxRecDepth 65536 in
theorem w_c0 : (Jvm.Cond.code x code maxLocals ret).before args0 about1 = true := code_word (m := ⟨1, 2⟩) (meth := k1m2) (c := k1c2) (by decide +kernel) rfl rfl rfl (by decide +kernel)
set_option maxRecDepth 65536 in
theorem w_c1 : (Jvm.Cond.code ({ cls := "java/lang/String", name := "<init>", desc := "([C)V" } : Jvm.MethodName) jdk_42_method_3_code (2 : Nat) (Option.none : Option Jvm.ClassFile.FieldType)).before args0 about1 = true := code_word (m := ⟨7, 1⟩) (meth := k7m1) (c := k7c1) (by decide +kernel) rfl rfl rfl (by decide +kernel)
set_option maxRecDepth 65536 in
theorem w_c2 : (Jvm.Cond.code ({ cls := "java/lang/String", name := "<init>", desc := "([CIILjava/lang/Void;)V" } : Jvm.MethodName) jdk_42_method_149_code (6 : Nat) (Option.none : Option Jvm.ClassFile.FieldType)).before args0 about1 = true := code_word (m := ⟨7, 7⟩) (meth := k7m7) (c := k7c7) (by decide +kernel) rfl rfl rfl (by decide +kernel)
set_option maxRecDepth 65536 in
theorem w_c3 : (Jvm.Cond.code ({ cls := "java/lang/Object", name := "<init>", desc := "()V" } : Jvm.MethodName) object_method_1_code (1 : Nat) (Option.none : Option Jvm.ClassFile.FieldType)).before args0 about1 = true := code_word (m := ⟨0, 0⟩) (meth := k0m0) (c := k0c0) (by decide +kernel) rfl rfl rfl (by decide +kernel)
set_option maxRecDepth 65536 in
theorem w_c4 : (Jvm.Cond.code ({ cls := "java/lang/StringUTF16", name := "compress", desc := "([CII)[B" } : Jvm.MethodName) jdk_52_method_16_code (6 : Nat) (Option.some (Jvm.ClassFile.FieldType.array Jvm.ClassFile.FieldType.byte))).before args0 about1 = true := code_word (m := ⟨8, 2⟩) (meth := k8m2) (c := k8c2) (by decide +kernel) rfl rfl rfl (by decide +kernel)
set_option maxRecDepth 65536 in
theorem w_c5 : (Jvm.Cond.code ({ cls := "java/lang/StringUTF16", name := "compress", desc := "([CI[BII)I" } : Jvm.MethodName) jdk_52_method_21_code (7 : Nat) (Option.some Jvm.ClassFile.FieldType.int)).before args0 about1 = true := code_word (m := ⟨8, 3⟩) (meth := k8m3) (c := k8c3) (by decide +kernel) rfl rfl rfl (by decide +kernel)
set_option maxRecDepth 65536 in
theorem w_c6 : (Jvm.Cond.code ({ cls := "java/lang/StringUTF16", name := "coderFromArrayLen", desc := "([BI)B" } : Jvm.MethodName) jdk_52_method_15_code (2 : Nat) (Option.some Jvm.ClassFile.FieldType.byte)).before args0 about1 = true := code_word (m := ⟨8, 1⟩) (meth := k8m1) (c := k8c1) (by decide +kernel) rfl rfl rfl (by decide +kernel)
set_option maxRecDepth 65536 in
theorem w_c7 : (Jvm.Cond.code ({ cls := "com/example/ceruline/ceruline/source/SourceFile", name := "<init>", desc := "(Ljava/lang/String;Ljava/lang/String;)V" } : Jvm.MethodName) prog_120_method_1_code (3 : Nat) (Option.none : Option Jvm.ClassFile.FieldType)).before args0 about1 = true := code_word (m := ⟨11, 0⟩) (meth := k11m0) (c := k11c0) (by decide +kernel) rfl rfl rfl (by decide +kernel)
set_option maxRecDepth 65536 in
theorem w_c8 : (Jvm.Cond.code ({ cls := "java/lang/Record", name := "<init>", desc := "()V" } : Jvm.MethodName) jdk_30_method_1_code (1 : Nat) (Option.none : Option Jvm.ClassFile.FieldType)).before args0 about1 = true := code_word (m := ⟨10, 0⟩) (meth := k10m0) (c := k10c0) (by decide +kernel) rfl rfl rfl (by decide +kernel)
set_option maxRecDepth 65536 in
theorem w_c9 : (Jvm.Cond.code ({ cls := "com/example/ceruline/ceruline/parsing/SourceReader", name := "<init>", desc := "(Lcom/example/ceruline/ceruline/source/SourceFile;)V" } : Jvm.MethodName) prog_66_method_1_code (2 : Nat) (Option.none : Option Jvm.ClassFile.FieldType)).before args0 about1 = true := code_word (m := ⟨9, 0⟩) (meth := k9m0) (c := k9c0) (by decide +kernel) rfl rfl rfl (by decide +kernel)
set_option maxRecDepth 65536 in
theorem w_c10 : (Jvm.Cond.code ({ cls := "com/example/ceruline/ceruline/source/SourceFile", name := "text", desc := "()Ljava/lang/String;" } : Jvm.MethodName) prog_120_method_7_code (1 : Nat) (Option.some (Jvm.ClassFile.FieldType.object "java/lang/String"))).before args0 about1 = true := code_word (m := ⟨11, 1⟩) (meth := k11m1) (c := k11c1) (by decide +kernel) rfl rfl rfl (by decide +kernel)
set_option maxRecDepth 65536 in
theorem w_c11 : (Jvm.Cond.code ({ cls := "java/lang/Math", name := "min", desc := "(II)I" } : Jvm.MethodName) jdk_29_method_69_code (2 : Nat) (Option.some Jvm.ClassFile.FieldType.int)).before args0 about1 = true := code_word (m := ⟨12, 1⟩) (meth := k12m1) (c := k12c1) (by decide +kernel) rfl rfl rfl (by decide +kernel)
set_option maxRecDepth 65536 in
theorem w_c12 : (Jvm.Cond.code ({ cls := "com/example/ceruline/ceruline/parsing/SourceReaderTextFromPinLaw", name := "steps", desc := "(Lcom/example/ceruline/ceruline/parsing/SourceReader;I)V" } : Jvm.MethodName) method_2_code (2 : Nat) (Option.none : Option Jvm.ClassFile.FieldType)).before args0 about1 = true := code_word (m := ⟨1, 1⟩) (meth := k1m1) (c := k1c1) (by decide +kernel) rfl rfl rfl (by decide +kernel)
set_option maxRecDepth 65536 in
theorem w_c13 : (Jvm.Cond.code ({ cls := "com/example/ceruline/ceruline/parsing/SourceReader", name := "advance", desc := "()V" } : Jvm.MethodName) prog_66_method_4_code (2 : Nat) (Option.none : Option Jvm.ClassFile.FieldType)).before args0 about1 = true := code_word (m := ⟨9, 1⟩) (meth := k9m1) (c := k9c1) (by decide +kernel) rfl rfl rfl (by decide +kernel)
set_option maxRecDepth 65536 in
theorem w_c14 : (Jvm.Cond.code ({ cls := "java/lang/String", name := "codePointAt", desc := "(I)I" } : Jvm.MethodName) jdk_42_method_57_code (3 : Nat) (Option.some Jvm.ClassFile.FieldType.int)).before args0 about1 = true := code_word (m := ⟨7, 5⟩) (meth := k7m5) (c := k7c5) (by decide +kernel) rfl rfl rfl (by decide +kernel)
set_option maxRecDepth 65536 in
theorem w_c15 : (Jvm.Cond.code ({ cls := "java/lang/String", name := "isLatin1", desc := "()Z" } : Jvm.MethodName) jdk_42_method_154_code (1 : Nat) (Option.some Jvm.ClassFile.FieldType.boolean)).before args0 about1 = true := code_word (m := ⟨7, 10⟩) (meth := k7m10) (c := k7c10) (by decide +kernel) rfl rfl rfl (by decide +kernel)
set_option maxRecDepth 65536 in
theorem w_c16 : (Jvm.Cond.code ({ cls := "java/lang/String", name := "checkIndex", desc := "(II)V" } : Jvm.MethodName) jdk_42_method_155_code (2 : Nat) (Option.none : Option Jvm.ClassFile.FieldType)).before args0 about1 = true := code_word (m := ⟨7, 11⟩) (meth := k7m11) (c := k7c11) (by decide +kernel) rfl rfl rfl (by decide +kernel)
set_option maxRecDepth 65536 in
theorem w_c17 : (Jvm.Cond.code ({ cls := "jdk/internal/util/Preconditions", name := "checkIndex", desc := "(IILjava/util/function/BiFunction;)I" } : Jvm.MethodName) jdk_41_method_11_code (3 : Nat) (Option.some Jvm.ClassFile.FieldType.int)).before args0 about1 = true := code_word (m := ⟨13, 1⟩) (meth := k13m1) (c := k13c1) (by decide +kernel) rfl rfl rfl (by decide +kernel)
set_option maxRecDepth 65536 in
theorem w_c18 : (Jvm.Cond.code ({ cls := "java/lang/Character", name := "charCount", desc := "(I)I" } : Jvm.MethodName) jdk_89_method_18_code (1 : Nat) (Option.some Jvm.ClassFile.FieldType.int)).before args0 about1 = true := code_word (m := ⟨14, 0⟩) (meth := k14m0) (c := k14c0) (by decide +kernel) rfl rfl rfl (by decide +kernel)
set_option maxRecDepth 65536 in
theorem w_c19 : (Jvm.Cond.code ({ cls := "com/example/ceruline/ceruline/parsing/SourceReader", name := "offset", desc := "()I" } : Jvm.MethodName) prog_66_method_7_code (1 : Nat) (Option.some Jvm.ClassFile.FieldType.int)).before args0 about1 = true := code_word (m := ⟨9, 2⟩) (meth := k9m2) (c := k9c2) (by decide +kernel) rfl rfl rfl (by decide +kernel)
set_option maxRecDepth 65536 in
theorem w_c20 : (Jvm.Cond.code ({ cls := "com/example/ceruline/ceruline/parsing/SourceReader", name := "textFrom", desc := "(I)Ljava/lang/String;" } : Jvm.MethodName) prog_66_method_8_code (2 : Nat) (Option.some (Jvm.ClassFile.FieldType.object "java/lang/String"))).before args0 about1 = true := code_word (m := ⟨9, 3⟩) (meth := k9m3) (c := k9c3) (by decide +kernel) rfl rfl rfl (by decide +kernel)
set_option maxRecDepth 65536 in
theorem w_c21 : (Jvm.Cond.code ({ cls := "java/lang/String", name := "substring", desc := "(II)Ljava/lang/String;" } : Jvm.MethodName) jdk_42_method_92_code (5 : Nat) (Option.some (Jvm.ClassFile.FieldType.object "java/lang/String"))).before args0 about1 = true := code_word (m := ⟨7, 6⟩) (meth := k7m6) (c := k7c6) (by decide +kernel) rfl rfl rfl (by decide +kernel)
set_option maxRecDepth 65536 in
theorem w_c22 : (Jvm.Cond.code ({ cls := "java/lang/String", name := "length", desc := "()I" } : Jvm.MethodName) jdk_42_method_54_code (1 : Nat) (Option.some Jvm.ClassFile.FieldType.int)).before args0 about1 = true := code_word (m := ⟨7, 2⟩) (meth := k7m2) (c := k7c2) (by decide +kernel) rfl rfl rfl (by decide +kernel)
set_option maxRecDepth 65536 in
theorem w_c23 : (Jvm.Cond.code ({ cls := "java/lang/String", name := "coder", desc := "()B" } : Jvm.MethodName) jdk_42_method_152_code (1 : Nat) (Option.some Jvm.ClassFile.FieldType.byte)).before args0 about1 = true := code_word (m := ⟨7, 9⟩) (meth := k7m9) (c := k7c9) (by decide +kernel) rfl rfl rfl (by decide +kernel)
set_option maxRecDepth 65536 in
theorem w_c24 : (Jvm.Cond.code ({ cls := "java/lang/String", name := "checkBoundsBeginEnd", desc := "(III)V" } : Jvm.MethodName) jdk_42_method_158_code (3 : Nat) (Option.none : Option Jvm.ClassFile.FieldType)).before args0 about1 = true := code_word (m := ⟨7, 12⟩) (meth := k7m12) (c := k7c12) (by decide +kernel) rfl rfl rfl (by decide +kernel)
set_option maxRecDepth 65536 in
theorem w_c25 : (Jvm.Cond.code ({ cls := "jdk/internal/util/Preconditions", name := "checkFromToIndex", desc := "(IIILjava/util/function/BiFunction;)I" } : Jvm.MethodName) jdk_41_method_12_code (4 : Nat) (Option.some Jvm.ClassFile.FieldType.int)).before args0 about1 = true := code_word (m := ⟨13, 2⟩) (meth := k13m2) (c := k13c2) (by decide +kernel) rfl rfl rfl (by decide +kernel)
set_option maxRecDepth 65536 in
theorem w_c26 : (Jvm.Cond.code ({ cls := "java/lang/StringLatin1", name := "newString", desc := "([BII)Ljava/lang/String;" } : Jvm.MethodName) jdk_43_method_47_code (3 : Nat) (Option.some (Jvm.ClassFile.FieldType.object "java/lang/String"))).before args0 about1 = true := code_word (m := ⟨15, 2⟩) (meth := k15m2) (c := k15c2) (by decide +kernel) rfl rfl rfl (by decide +kernel)
set_option maxRecDepth 65536 in
theorem w_c27 : (Jvm.Cond.code ({ cls := "java/lang/String", name := "isEmpty", desc := "()Z" } : Jvm.MethodName) jdk_42_method_55_code (1 : Nat) (Option.some Jvm.ClassFile.FieldType.boolean)).before args0 about1 = true := code_word (m := ⟨7, 3⟩) (meth := k7m3) (c := k7c3) (by decide +kernel) rfl rfl rfl (by decide +kernel)
set_option maxRecDepth 65536 in
theorem w_c28 : (Jvm.Cond.code ({ cls := "java/util/Arrays", name := "copyOfRange", desc := "([BII)[B" } : Jvm.MethodName) jdk_65_method_132_code (3 : Nat) (Option.some (Jvm.ClassFile.FieldType.array Jvm.ClassFile.FieldType.byte))).before args0 about1 = true := code_word (m := ⟨16, 2⟩) (meth := k16m2) (c := k16c2) (by decide +kernel) rfl rfl rfl (by decide +kernel)
set_option maxRecDepth 65536 in
theorem w_c29 : (Jvm.Cond.code ({ cls := "java/util/Arrays", name := "copyOfRangeByte", desc := "([BII)[B" } : Jvm.MethodName) jdk_65_method_133_code (5 : Nat) (Option.some (Jvm.ClassFile.FieldType.array Jvm.ClassFile.FieldType.byte))).before args0 about1 = true := code_word (m := ⟨16, 3⟩) (meth := k16m3) (c := k16c3) (by decide +kernel) rfl rfl rfl (by decide +kernel)
set_option maxRecDepth 65536 in
theorem w_c30 : (Jvm.Cond.code ({ cls := "java/util/Arrays", name := "checkLength", desc := "(II)V" } : Jvm.MethodName) jdk_65_method_131_code (2 : Nat) (Option.none : Option Jvm.ClassFile.FieldType)).before args0 about1 = true := code_word (m := ⟨16, 1⟩) (meth := k16m1) (c := k16c1) (by decide +kernel) rfl rfl rfl (by decide +kernel)
set_option maxRecDepth 65536 in
theorem w_c31 : (Jvm.Cond.code ({ cls := "java/lang/String", name := "<init>", desc := "([BB)V" } : Jvm.MethodName) jdk_42_method_151_code (3 : Nat) (Option.none : Option Jvm.ClassFile.FieldType)).before args0 about1 = true := code_word (m := ⟨7, 8⟩) (meth := k7m8) (c := k7c8) (by decide +kernel) rfl rfl rfl (by decide +kernel)
set_option maxRecDepth 65536 in
theorem w_c32 : (Jvm.Cond.code ({ cls := "java/lang/String", name := "charAt", desc := "(I)C" } : Jvm.MethodName) jdk_42_method_56_code (2 : Nat) (Option.some Jvm.ClassFile.FieldType.char)).before args0 about1 = true := code_word (m := ⟨7, 4⟩) (meth := k7m4) (c := k7c4) (by decide +kernel) rfl rfl rfl (by decide +kernel)
set_option maxRecDepth 65536 in
theorem w_c33 : (Jvm.Cond.code ({ cls := "java/lang/StringLatin1", name := "charAt", desc := "([BI)C" } : Jvm.MethodName) jdk_43_method_2_code (2 : Nat) (Option.some Jvm.ClassFile.FieldType.char)).before args0 about1 = true := code_word (m := ⟨15, 1⟩) (meth := k15m1) (c := k15c1) (by decide +kernel) rfl rfl rfl (by decide +kernel)
def codes1 : List Jvm.Cond := [Jvm.Cond.code x code maxLocals ret, Jvm.Cond.code ({ cls := "java/lang/String", name := "<init>", desc := "([C)V" } : Jvm.MethodName) jdk_42_method_3_code (2 : Nat) (Option.none : Option Jvm.ClassFile.FieldType), Jvm.Cond.code ({ cls := "java/lang/String", name := "<init>", desc := "([CIILjava/lang/Void;)V" } : Jvm.MethodName) jdk_42_method_149_code (6 : Nat) (Option.none : Option Jvm.ClassFile.FieldType), Jvm.Cond.code ({ cls := "java/lang/Object", name := "<init>", desc := "()V" } : Jvm.MethodName) object_method_1_code (1 : Nat) (Option.none : Option Jvm.ClassFile.FieldType), Jvm.Cond.code ({ cls := "java/lang/StringUTF16", name := "compress", desc := "([CII)[B" } : Jvm.MethodName) jdk_52_method_16_code (6 : Nat) (Option.some (Jvm.ClassFile.FieldType.array Jvm.ClassFile.FieldType.byte)), Jvm.Cond.code ({ cls := "java/lang/StringUTF16", name := "compress", desc := "([CI[BII)I" } : Jvm.MethodName) jdk_52_method_21_code (7 : Nat) (Option.some Jvm.ClassFile.FieldType.int), Jvm.Cond.code ({ cls := "java/lang/StringUTF16", name := "coderFromArrayLen", desc := "([BI)B" } : Jvm.MethodName) jdk_52_method_15_code (2 : Nat) (Option.some Jvm.ClassFile.FieldType.byte), Jvm.Cond.code ({ cls := "com/example/ceruline/ceruline/source/SourceFile", name := "<init>", desc := "(Ljava/lang/String;Ljava/lang/String;)V" } : Jvm.MethodName) prog_120_method_1_code (3 : Nat) (Option.none : Option Jvm.ClassFile.FieldType), Jvm.Cond.code ({ cls := "java/lang/Record", name := "<init>", desc := "()V" } : Jvm.MethodName) jdk_30_method_1_code (1 : Nat) (Option.none : Option Jvm.ClassFile.FieldType), Jvm.Cond.code ({ cls := "com/example/ceruline/ceruline/parsing/SourceReader", name := "<init>", desc := "(Lcom/example/ceruline/ceruline/source/SourceFile;)V" } : Jvm.MethodName) prog_66_method_1_code (2 : Nat) (Option.none : Option Jvm.ClassFile.FieldType), Jvm.Cond.code ({ cls := "com/example/ceruline/ceruline/source/SourceFile", name := "text", desc := "()Ljava/lang/String;" } : Jvm.MethodName) prog_120_method_7_code (1 : Nat) (Option.some (Jvm.ClassFile.FieldType.object "java/lang/String")), Jvm.Cond.code ({ cls := "java/lang/Math", name := "min", desc := "(II)I" } : Jvm.MethodName) jdk_29_method_69_code (2 : Nat) (Option.some Jvm.ClassFile.FieldType.int), Jvm.Cond.code ({ cls := "com/example/ceruline/ceruline/parsing/SourceReaderTextFromPinLaw", name := "steps", desc := "(Lcom/example/ceruline/ceruline/parsing/SourceReader;I)V" } : Jvm.MethodName) method_2_code (2 : Nat) (Option.none : Option Jvm.ClassFile.FieldType), Jvm.Cond.code ({ cls := "com/example/ceruline/ceruline/parsing/SourceReader", name := "advance", desc := "()V" } : Jvm.MethodName) prog_66_method_4_code (2 : Nat) (Option.none : Option Jvm.ClassFile.FieldType), Jvm.Cond.code ({ cls := "java/lang/String", name := "codePointAt", desc := "(I)I" } : Jvm.MethodName) jdk_42_method_57_code (3 : Nat) (Option.some Jvm.ClassFile.FieldType.int), Jvm.Cond.code ({ cls := "java/lang/String", name := "isLatin1", desc := "()Z" } : Jvm.MethodName) jdk_42_method_154_code (1 : Nat) (Option.some Jvm.ClassFile.FieldType.boolean), Jvm.Cond.code ({ cls := "java/lang/String", name := "checkIndex", desc := "(II)V" } : Jvm.MethodName) jdk_42_method_155_code (2 : Nat) (Option.none : Option Jvm.ClassFile.FieldType), Jvm.Cond.code ({ cls := "jdk/internal/util/Preconditions", name := "checkIndex", desc := "(IILjava/util/function/BiFunction;)I" } : Jvm.MethodName) jdk_41_method_11_code (3 : Nat) (Option.some Jvm.ClassFile.FieldType.int), Jvm.Cond.code ({ cls := "java/lang/Character", name := "charCount", desc := "(I)I" } : Jvm.MethodName) jdk_89_method_18_code (1 : Nat) (Option.some Jvm.ClassFile.FieldType.int), Jvm.Cond.code ({ cls := "com/example/ceruline/ceruline/parsing/SourceReader", name := "offset", desc := "()I" } : Jvm.MethodName) prog_66_method_7_code (1 : Nat) (Option.some Jvm.ClassFile.FieldType.int), Jvm.Cond.code ({ cls := "com/example/ceruline/ceruline/parsing/SourceReader", name := "textFrom", desc := "(I)Ljava/lang/String;" } : Jvm.MethodName) prog_66_method_8_code (2 : Nat) (Option.some (Jvm.ClassFile.FieldType.object "java/lang/String")), Jvm.Cond.code ({ cls := "java/lang/String", name := "substring", desc := "(II)Ljava/lang/String;" } : Jvm.MethodName) jdk_42_method_92_code (5 : Nat) (Option.some (Jvm.ClassFile.FieldType.object "java/lang/String")), Jvm.Cond.code ({ cls := "java/lang/String", name := "length", desc := "()I" } : Jvm.MethodName) jdk_42_method_54_code (1 : Nat) (Option.some Jvm.ClassFile.FieldType.int), Jvm.Cond.code ({ cls := "java/lang/String", name := "coder", desc := "()B" } : Jvm.MethodName) jdk_42_method_152_code (1 : Nat) (Option.some Jvm.ClassFile.FieldType.byte), Jvm.Cond.code ({ cls := "java/lang/String", name := "checkBoundsBeginEnd", desc := "(III)V" } : Jvm.MethodName) jdk_42_method_158_code (3 : Nat) (Option.none : Option Jvm.ClassFile.FieldType), Jvm.Cond.code ({ cls := "jdk/internal/util/Preconditions", name := "checkFromToIndex", desc := "(IIILjava/util/function/BiFunction;)I" } : Jvm.MethodName) jdk_41_method_12_code (4 : Nat) (Option.some Jvm.ClassFile.FieldType.int), Jvm.Cond.code ({ cls := "java/lang/StringLatin1", name := "newString", desc := "([BII)Ljava/lang/String;" } : Jvm.MethodName) jdk_43_method_47_code (3 : Nat) (Option.some (Jvm.ClassFile.FieldType.object "java/lang/String")), Jvm.Cond.code ({ cls := "java/lang/String", name := "isEmpty", desc := "()Z" } : Jvm.MethodName) jdk_42_method_55_code (1 : Nat) (Option.some Jvm.ClassFile.FieldType.boolean), Jvm.Cond.code ({ cls := "java/util/Arrays", name := "copyOfRange", desc := "([BII)[B" } : Jvm.MethodName) jdk_65_method_132_code (3 : Nat) (Option.some (Jvm.ClassFile.FieldType.array Jvm.ClassFile.FieldType.byte)), Jvm.Cond.code ({ cls := "java/util/Arrays", name := "copyOfRangeByte", desc := "([BII)[B" } : Jvm.MethodName) jdk_65_method_133_code (5 : Nat) (Option.some (Jvm.ClassFile.FieldType.array Jvm.ClassFile.FieldType.byte)), Jvm.Cond.code ({ cls := "java/util/Arrays", name := "checkLength", desc := "(II)V" } : Jvm.MethodName) jdk_65_method_131_code (2 : Nat) (Option.none : Option Jvm.ClassFile.FieldType), Jvm.Cond.code ({ cls := "java/lang/String", name := "<init>", desc := "([BB)V" } : Jvm.MethodName) jdk_42_method_151_code (3 : Nat) (Option.none : Option Jvm.ClassFile.FieldType), Jvm.Cond.code ({ cls := "java/lang/String", name := "charAt", desc := "(I)C" } : Jvm.MethodName) jdk_42_method_56_code (2 : Nat) (Option.some Jvm.ClassFile.FieldType.char), Jvm.Cond.code ({ cls := "java/lang/StringLatin1", name := "charAt", desc := "([BI)C" } : Jvm.MethodName) jdk_43_method_2_code (2 : Nat) (Option.some Jvm.ClassFile.FieldType.char)]
set_option maxRecDepth 65536 in
theorem codes_eq : words1.filter isCode = codes1 := rfl
theorem w_codes : ∀ c ∈ words1.filter isCode, c.before args0 about1 = true := by
  rw [codes_eq]
  intro c hc
  simp only [codes1, List.mem_cons, List.not_mem_nil, or_false] at hc
  rcases hc with rfl | rfl | rfl | rfl | rfl | rfl | rfl | rfl | rfl | rfl | rfl | rfl | rfl | rfl | rfl | rfl | rfl | rfl | rfl | rfl | rfl | rfl | rfl | rfl | rfl | rfl | rfl | rfl | rfl | rfl | rfl | rfl | rfl | rfl
  · exact w_c0
  · exact w_c1
  · exact w_c2
  · exact w_c3
  · exact w_c4
  · exact w_c5
  · exact w_c6
  · exact w_c7
  · exact w_c8
  · exact w_c9
  · exact w_c10
  · exact w_c11
  · exact w_c12
  · exact w_c13
  · exact w_c14
  · exact w_c15
  · exact w_c16
  · exact w_c17
  · exact w_c18
  · exact w_c19
  · exact w_c20
  · exact w_c21
  · exact w_c22
  · exact w_c23
  · exact w_c24
  · exact w_c25
  · exact w_c26
  · exact w_c27
  · exact w_c28
  · exact w_c29
  · exact w_c30
  · exact w_c31
  · exact w_c32
  · exact w_c33
set_option maxRecDepth 65536 in
theorem w_t1 : (words1.take 24).all (fun c => isCode c || c.before args0 about1) = true := by decide +kernel
set_option maxRecDepth 65536 in
theorem w_t2 : ((words1.drop 24).take 24).all (fun c => isCode c || c.before args0 about1) = true := by decide +kernel
set_option maxRecDepth 65536 in
theorem w_t3 : (((words1.drop 24).drop 24).take 24).all (fun c => isCode c || c.before args0 about1) = true := by decide +kernel
set_option maxRecDepth 65536 in
theorem w_t4 : ((((words1.drop 24).drop 24).drop 24).take 24).all (fun c => isCode c || c.before args0 about1) = true := by decide +kernel
set_option maxRecDepth 65536 in
theorem w_t5 : (((((words1.drop 24).drop 24).drop 24).drop 24).take 24).all (fun c => isCode c || c.before args0 about1) = true := by decide +kernel
set_option maxRecDepth 65536 in
theorem w_t6 : ((((((words1.drop 24).drop 24).drop 24).drop 24).drop 24).take 24).all (fun c => isCode c || c.before args0 about1) = true := by decide +kernel
set_option maxRecDepth 65536 in
theorem w_t7 : (((((((words1.drop 24).drop 24).drop 24).drop 24).drop 24).drop 24).take 24).all (fun c => isCode c || c.before args0 about1) = true := by decide +kernel
set_option maxRecDepth 65536 in
theorem w_t8 : (((((((words1.drop 24).drop 24).drop 24).drop 24).drop 24).drop 24).drop 24).all (fun c => isCode c || c.before args0 about1) = true := by decide +kernel
theorem w_tables : (allAtoms (Jvm.Cond.code x code maxLocals ret :: tables_1)).before args0 about1 = true := by
  rw [allAtoms_all]
  show words1.all (fun c => c.before args0 about1) = true
  refine all_split ?_ w_codes
  rw [← List.take_append_drop 24 words1, List.all_append, w_t1, ← List.take_append_drop 24 (words1.drop 24), List.all_append, w_t2, ← List.take_append_drop 24 ((words1.drop 24).drop 24), List.all_append, w_t3, ← List.take_append_drop 24 (((words1.drop 24).drop 24).drop 24), List.all_append, w_t4, ← List.take_append_drop 24 ((((words1.drop 24).drop 24).drop 24).drop 24), List.all_append, w_t5, ← List.take_append_drop 24 (((((words1.drop 24).drop 24).drop 24).drop 24).drop 24), List.all_append, w_t6, ← List.take_append_drop 24 ((((((words1.drop 24).drop 24).drop 24).drop 24).drop 24).drop 24), List.all_append, w_t7, w_t8]
  rfl
set_option maxRecDepth 65536 in
theorem w_rest : rest_1_c.before args0 about1 = true := by decide +kernel
set_option maxRecDepth 65536 in
theorem w_case : (Jvm.Cond.and given_1 narrow_1).before args0 about1 = true := by decide +kernel
set_option maxRecDepth 65536 in
theorem w_consts : constsHeld consts_1 about1 := Jvm.Lit.constsHeldB_iff.mp (by decide +kernel)
theorem w_applies : (headSpec (Jvm.Cond.code x code maxLocals ret :: tables_1) room_1).applies x e0.platform about1 = true :=
  (Spec.applies_iff w_frames).mpr ⟨w_running, w_runnable, w_alone, w_named, w_hears, w_ripe, w_room, w_tables⟩
theorem atStart : AtStart classFile x code maxLocals ret World_1 tables_1 room_1 Calls_1 rest_1 Pre_1 launch0 p0 e0 about1 theMethod args0 below0 :=
  ⟨lists_1, trivial, launch0.admits_env _ _ _, launch0.least_env, fairChoices_fair.cas, fairChoices_fair.clock, w_frames, w_args, w_heap, w_applies, ⟨w_consts, trivial⟩, w_rest, w_case⟩
end start1
theorem witness_1 : WitnessClaimed_1 := ⟨start1.p0, start1.e0, start1.about1, start1.theMethod, start1.args0, start1.below0, start1.atStart⟩
end Jvm.Pilot.@@N@@
