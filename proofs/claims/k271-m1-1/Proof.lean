import JvmDerived
import JvmDerived.Pilot.@@N@@Statement
import JvmDerived.Pilot.@@N@@Code
set_option linter.unusedVariables false
set_option linter.unusedSimpArgs false
namespace Jvm.Pilot.@@N@@
open Jvm Jvm.ClassFile Sem Op Lib Jvm.Free Jvm.Stand Jvm.LawKit Jvm.RoadKit Bundle Jvm.Pilot.@@N@@.Jvm.D
/-- whatever is reached from v is reached from u -/
abbrev To (tb : Tables) (e : Env) (below : List Frame) (u v : State) : Prop := ∀ t, Steps tb e below v t → Steps tb e below u t
/-- a body's contract: called with as' over the heap h0 it returns, and Q holds of what it returns, of the heap and of the places written -/
abbrev Con (l : Launch) (Z : State) (y : MethodName) (bs : ByteArray) (ml : Nat) (rt : Option FieldType) (ws : List Jvm.Cond) (R : Room) (as' : Array Value) (h0 : Heap) (Q : Option Value → Heap → List Loc → Prop) : Prop :=
  MetFree l y (head1 (Jvm.Cond.code y bs ml rt :: ws) R) (fun a U => a = as' ∧ Z.Warmed39 U.vm ∧ U.heap = h0) (fun _ _ _ _ _ => True) (fun _ U o U' => ∃ v L, o = .returned v ∧ Q v U'.heap L ∧ FrameEnd U o U' L R.cells R.slots)
/-- the walk from S0 has ended well -/
def Fin (p : Program) (e : Env) (below : List Frame) (s : State) (R : Room) (S0 : State) (Q : Option Value → Heap → List Loc → Prop) : Prop :=
  ∃ s₂ o, Steps p.tables e below S0 s₂ ∧ s₂.status = .running ∧ Ended s₂ below o ∧ ∃ v L, o = .returned v ∧ Q v s₂.heap L ∧ FrameEnd s o s₂ L R.cells R.slots
def slotsOf : List Value → List Slot
  | [] => []
  | v :: r => if v.category = 2 then .val v :: .second :: slotsOf r else .val v :: slotsOf r
theorem foldl_slots (L : List Value) : ∀ acc : Array Slot, L.foldl (fun acc v => if v.category = 2 then (acc.push (Slot.val v)).push Slot.second else acc.push (Slot.val v)) acc = acc ++ (slotsOf L).toArray := by
  induction L with
  | nil => intro acc; simp [slotsOf]
  | cons v r ih =>
    intro acc
    rw [List.foldl_cons, ih]
    by_cases h : v.category = 2
    · simp [slotsOf, h]
    · simp [slotsOf, h]
theorem entry_eq {m : MethodId} {L : List Value} {ml : Nat} {Ls : List Slot} (h : slotsOf L ++ List.replicate (ml - (slotsOf L).length) Slot.unset = Ls) : entryFrame m L.toArray ml = mkF m 0 Ls.toArray [] := by
  subst h
  have e : argsToLocals L.toArray ml = (slotsOf L ++ List.replicate (ml - (slotsOf L).length) Slot.unset).toArray := by
    show (L.toArray.foldl (init := #[]) fun acc v => if v.category = 2 then (acc.push (Slot.val v)).push Slot.second else acc.push (Slot.val v)) ++ Array.replicate (ml - (L.toArray.foldl (init := #[]) fun acc v => if v.category = 2 then (acc.push (Slot.val v)).push Slot.second else acc.push (Slot.val v)).size) Slot.unset = _
    rw [List.foldl_toArray, foldl_slots]
    simp
  show ({ method := m, pc := 0, locals := argsToLocals L.toArray ml, stack := [], locked := none } : JFrame) = _
  rw [e]
section Own
variable {p : Program} {l : Launch} {e : Env} {R : Room} {s : State} {m : MethodId} {args : Array Value} {below : List Frame} {meth : Method} {c : Code} {T S0 : State} {locs : List Loc} {cells slots : Nat} {Z : State} {a0 : Array Value} {h : Heap} {Q : Option Value → Heap → List Loc → Prop}
theorem enter {y : MethodName} {bs : ByteArray} {ml : Nat} {rt : Option FieldType} {ws : List Jvm.Cond} {as' : Array Value} {h0 : Heap} {Ls : Array Slot} (hpl : plainFor y = true) (hef : ∀ m, entryFrame m as' ml = mkF m 0 Ls [])
    (body : ∀ (p : Program) (e : Env) (s : State) (m : MethodId) (below : List Frame) (meth : Method) (c : Code) (s₁ S0 : State), p.tables.exec = Jvm.exec → c.code = bs → c.maxLocals = ml → meth.sig.returnType = rt → meth.locks = false → meth.name = y.name →
      s.vm.findClass y.cls = some m.cls → Z.Warmed39 s.vm → Stand p l e R s m as' below meth c s₁ [] 0 0 → s₁.heap = h0 → To p.tables e below S0 (s₁.setTop (mkF m 0 Ls [])) → Fin p e below s R S0 Q) : Con l Z y bs ml rt ws R as' h0 Q := by
  refine MetFree.of_bodySF hpl hisR ?_
  intro p e s m args below meth c s₁ Bd hml0 hP hK
  obtain ⟨rfl, hZ, hh⟩ := hP
  exact body p e s m below meth c s₁ _ Bd.exec Bd.bytes hml0 Bd.returns Bd.notSynchronized (name_of_methodNamed Bd.named Bd.method).1 (findClass_of_methodNamed Bd.named) hZ (Stand.of_body Bd) (by rw [← hh, Bd.state]; rfl) (fun t k => castTop (hef m) k)
theorem retV (X : Stand p l e R s m args below meth c T locs cells slots) (hx : p.tables.exec = Jvm.exec) {pc : Nat} {Ls : Array Slot} {w : Value} {t : FieldType} {i : Instr} {rest : List Value} (hret : meth.sig.returnType = some t) (hlk : meth.locks = false) (hn : narrow t w = w)
    (hi : (i = .ireturn ∧ (t = .int ∨ t = .boolean ∨ t = .byte ∨ t = .char ∨ t = .short) ∧ ∃ z, w = .int z) ∨ (i = .lreturn ∧ t = .long ∧ ∃ z, w = .long z) ∨ (i = .dreturn ∧ t = .double ∧ ∃ z, w = .double z) ∨ (i = .freturn ∧ t = .float ∧ ∃ z, w = .float z) ∨ (i = .areturn ∧ t.isReference = true ∧ w.isRef = true))
    (hd : decode c.code pc = .ok (i, 1)) (k : To p.tables e below S0 (T.setTop (mkF m pc Ls (w :: rest)))) (hQ : Q (some w) T.heap locs) (hc : cells ≤ R.cells) (hs : slots ≤ R.slots) : Fin p e below s R S0 Q := by
  obtain ⟨fs, hr, hrun, hended, hW, hsame⟩ := X.leave (v := some w) (fun h => by rw [hret] at h; cases h) hlk
  exact ⟨_, _, k _ (retOut X hx hret hn hi hd hr), hrun, hended, _, _, rfl, hQ, ⟨_, rfl⟩, hW, hsame.mono hc hs⟩
theorem retInt (X : Stand p l e R s m args below meth c T locs cells slots) (hx : p.tables.exec = Jvm.exec) {pc : Nat} {Ls : Array Slot} {z : Int32} {t : FieldType} {rest : List Value} (hret : meth.sig.returnType = some t) (hlk : meth.locks = false) (ht : t = .int ∨ t = .boolean ∨ t = .byte ∨ t = .char ∨ t = .short) (hn : narrow t (.int z) = .int z)
    (hd : decode c.code pc = .ok (.ireturn, 1)) (k : To p.tables e below S0 (T.setTop (mkF m pc Ls (.int z :: rest)))) (hQ : Q (some (.int z)) T.heap locs) (hc : cells ≤ R.cells) (hs : slots ≤ R.slots) : Fin p e below s R S0 Q :=
  retV X hx hret hlk hn (Or.inl ⟨rfl, ht, z, rfl⟩) hd k hQ hc hs
theorem retRef (X : Stand p l e R s m args below meth c T locs cells slots) (hx : p.tables.exec = Jvm.exec) {pc : Nat} {Ls : Array Slot} {w : Value} {t : FieldType} {rest : List Value} (hret : meth.sig.returnType = some t) (hlk : meth.locks = false) (ht : t.isReference = true) (hw : w.isRef = true)
    (hd : decode c.code pc = .ok (.areturn, 1)) (k : To p.tables e below S0 (T.setTop (mkF m pc Ls (w :: rest)))) (hQ : Q (some w) T.heap locs) (hc : cells ≤ R.cells) (hs : slots ≤ R.slots) : Fin p e below s R S0 Q :=
  retV X hx hret hlk (by rcases ref_cases hw with rfl | ⟨z, rfl⟩ <;> cases t <;> first | rfl | (cases ht; done)) (Or.inr (Or.inr (Or.inr (Or.inr ⟨rfl, ht, hw⟩)))) hd k hQ hc hs
theorem retLong (X : Stand p l e R s m args below meth c T locs cells slots) (hx : p.tables.exec = Jvm.exec) {pc : Nat} {Ls : Array Slot} {z : Int64} {rest : List Value} (hret : meth.sig.returnType = some .long) (hlk : meth.locks = false)
    (hd : decode c.code pc = .ok (.lreturn, 1)) (k : To p.tables e below S0 (T.setTop (mkF m pc Ls (.long z :: rest)))) (hQ : Q (some (.long z)) T.heap locs) (hc : cells ≤ R.cells) (hs : slots ≤ R.slots) : Fin p e below s R S0 Q :=
  retV X hx hret hlk rfl (Or.inr (Or.inl ⟨rfl, rfl, z, rfl⟩)) hd k hQ hc hs
theorem retVoid (X : Stand p l e R s m args below meth c T locs cells slots) (hx : p.tables.exec = Jvm.exec) {pc : Nat} {Ls : Array Slot} (hret : meth.sig.returnType = none) (hlk : meth.locks = false)
    (hd : decode c.code pc = .ok (.return_, 1)) (k : To p.tables e below S0 (T.setTop (mkF m pc Ls []))) (hQ : Q none T.heap locs) (hc : cells ≤ R.cells) (hs : slots ≤ R.slots) : Fin p e below s R S0 Q := by
  obtain ⟨fs, hr, hrun, hended, hW, hsame⟩ := X.leave (v := none) (fun _ => rfl) hlk
  exact ⟨_, _, k _ (X.returnOut hx hret hd hr), hrun, hended, _, _, rfl, hQ, ⟨_, rfl⟩, hW, hsame.mono hc hs⟩
theorem backC {y : MethodName} {bs : ByteArray} {ml : Nat} {rt : Option FieldType} {rm : Room} {len W : Nat} {as' : Array Value} (hM : Con l Z y bs ml rt [] rm as' h Q) (hZ : Z.Warmed39 s.vm) (wc : (Cond.code y bs ml rt).before a0 Z = true) (wz : (Cond.initialized y.cls).before a0 Z = true) (hf : rm.frames + 1 ≤ R.frames) (hl : W + (ml + 11) + rm.locals ≤ R.locals) :
    Back l R p e below s args y len W (fun A a => a = as' ∧ A.U.heap = h ∧ A.cells + rm.cells ≤ R.cells ∧ A.slots + rm.slots ≤ R.slots) (fun A _ v B => ∃ L, Q v B.U.heap L ∧ B.locs = A.locs ++ L ∧ B.cells = A.cells + rm.cells ∧ B.slots = A.slots + rm.slots) :=
  backOf (Q := Q) hM hZ wc wz hf hl
/-! calls by a contract -/
theorem callS' (X : Stand p l e R s m args below meth c T locs cells slots) (hx : p.tables.exec = Jvm.exec) (hZ : Z.Warmed39 s.vm) {own : String} {index : Nat} {y : MethodName} {bs : ByteArray} {ml : Nat} {rt : Option FieldType} {cc ss W : Nat} {as' : Array Value} {Q : Option Value → Heap → List Loc → Prop}
    (hown : s.vm.findClass own = some m.cls) (w1 : (Cond.methodLink own index y).before a0 Z = true) (w2 : (Cond.static y).before a0 Z = true) (w3 : (Cond.initialized y.cls).before a0 Z = true) (w4 : (Cond.code y bs ml rt).before a0 Z = true) (hy : y.cls ≠ "java/lang/invoke/MethodHandle" ∧ y.cls ≠ "java/lang/invoke/VarHandle")
    (hK : Back l R p e below s args y 3 W (fun A a => a = as' ∧ A.U.heap = h ∧ A.cells + cc ≤ R.cells ∧ A.slots + ss ≤ R.slots) (fun A _ v B => ∃ L, Q v B.U.heap L ∧ B.locs = A.locs ++ L ∧ B.cells = A.cells + cc ∧ B.slots = A.slots + ss)) (eT : T.heap = h) {pc : Nat} {Ls : Array Slot} {st argsL rest : List Value} (hst : st = argsL.reverse ++ rest) (has : argsL.toArray = as') {ps : List FieldType} {r : Option FieldType} (hpd : parseMethodDescriptor y.desc = some ⟨ps, r⟩) (hlen : argsL.length = ps.length) (hsize : Ls.size = c.maxLocals)
    (hd : decode c.code pc = .ok (.invokestatic index, 3)) (hW : (rest.map fun v => v.category).sum ≤ W) (hc : cells + cc ≤ R.cells) (hs : slots + ss ≤ R.slots) (k : To p.tables e below S0 (T.setTop (mkF m pc Ls st))) :
    ∃ v T' L, Stand p l e R s m args below meth c T' (locs ++ L) (cells + cc) (slots + ss) ∧ Q v T'.heap L ∧ To p.tables e below S0 (T'.setTop (mkF m (pc + 3) Ls (v.toList ++ rest))) := by
  obtain ⟨v, vm₁, ⟨T', L', k', n'⟩, -, X', ⟨L, hQ, q1, q2, q3⟩, stp⟩ := Jvm.LawKit.callS X hx hown (mvT hZ w1) (mvT hZ w2) (mvT hZ w3) (mvT hZ w4) hy hK (g := mkF m pc Ls st) rfl hsize (argsL := argsL) (rest := rest) (lenOf hpd hlen) hst (by show 2 * 0 + _ ≤ _; omega) hd (fun _ _ => ⟨has, eT, hc, hs⟩)
  dsimp only [Pt.U, Pt.locs, Pt.cells, Pt.slots] at X' q1 q2 q3 stp hQ
  subst q1 q2 q3
  exact ⟨v, T', L, X', hQ, fun t q => k t (stp t q)⟩
theorem callC' (X : Stand p l e R s m args below meth c T locs cells slots) (hx : p.tables.exec = Jvm.exec) (hZ : Z.Warmed39 s.vm) {own : String} {index : Nat} {y : MethodName} {bs : ByteArray} {ml : Nat} {cc ss W : Nat} {as' : Array Value} {Q : Option Value → Heap → List Loc → Prop}
    (hy1 : y.name = "<init>") (hown : s.vm.findClass own = some m.cls) (w1 : (Cond.methodLink own index y).before a0 Z = true) (w2 : (Cond.instanceMethod y).before a0 Z = true) (w4 : (Cond.code y bs ml none).before a0 Z = true) (hy : y.cls ≠ "java/lang/invoke/MethodHandle" ∧ y.cls ≠ "java/lang/invoke/VarHandle")
    (hK : Back l R p e below s args y 3 W (fun A a => a = as' ∧ A.U.heap = h ∧ A.cells + cc ≤ R.cells ∧ A.slots + ss ≤ R.slots) (fun A _ v B => ∃ L, Q v B.U.heap L ∧ B.locs = A.locs ++ L ∧ B.cells = A.cells + cc ∧ B.slots = A.slots + ss)) (eT : T.heap = h) {pc : Nat} {Ls : Array Slot} {a : Addr} {st argsL rest : List Value} (hst : st = argsL.reverse ++ .ref a :: rest) (has : (.ref a :: argsL).toArray = as') {ps : List FieldType} {r : Option FieldType} (hpd : parseMethodDescriptor y.desc = some ⟨ps, r⟩) (hlen : argsL.length = ps.length) (hsize : Ls.size = c.maxLocals)
    (hd : decode c.code pc = .ok (.invokespecial index, 3)) (hW : (rest.map fun v => v.category).sum ≤ W) (hc : cells + cc ≤ R.cells) (hs : slots + ss ≤ R.slots) (k : To p.tables e below S0 (T.setTop (mkF m pc Ls st))) :
    ∃ v T' L, Stand p l e R s m args below meth c T' (locs ++ L) (cells + cc) (slots + ss) ∧ Q v T'.heap L ∧ To p.tables e below S0 (T'.setTop (mkF m (pc + 3) Ls (v.toList ++ rest))) := by
  obtain ⟨v, vm₁, ⟨T', L', k', n'⟩, -, X', ⟨L, hQ, q1, q2, q3⟩, stp⟩ := X.specialBack hx hy1 hown (mvT hZ w1) (mvT hZ w2) (mvT hZ w4) hy hK (g := mkF m pc Ls st) rfl hsize (Steps.refl _) (a := a) (argsL := argsL) (rest := rest) (lenOf hpd hlen) hst (by show 2 * 0 + _ ≤ _; omega) hd (fun _ _ => ⟨has, eT, hc, hs⟩)
  dsimp only [Pt.U, Pt.locs, Pt.cells, Pt.slots] at X' q1 q2 q3 stp hQ
  subst q1 q2 q3
  exact ⟨v, T', L, X', hQ, fun t q => k t (stp.trans q)⟩
theorem callV' (X : Stand p l e R s m args below meth c T locs cells slots) (hx : p.tables.exec = Jvm.exec) (hZ : Z.Warmed39 s.vm) {own C : String} {index : Nat} {y z : MethodName} {cc ss W : Nat} {as' : Array Value} {Q : Option Value → Heap → List Loc → Prop}
    (hown : s.vm.findClass own = some m.cls) (w1 : (Cond.methodLink own index y).before a0 Z = true) (w2 : (Cond.declares y).before a0 Z = true) (hnf : NotFace s y) (w5 : (Cond.selects C y z).before a0 Z = true) (w6 : (Cond.instanceMethod z).before a0 Z = true)
    (hy : y.cls ≠ "java/lang/invoke/MethodHandle" ∧ y.cls ≠ "java/lang/invoke/VarHandle") {b : Addr} (E : Exa Z h b C)
    (hK : Back l R p e below s args z 3 W (fun A a => a = as' ∧ A.U.heap = h ∧ A.cells + cc ≤ R.cells ∧ A.slots + ss ≤ R.slots) (fun A _ v B => ∃ L, Q v B.U.heap L ∧ B.locs = A.locs ++ L ∧ B.cells = A.cells + cc ∧ B.slots = A.slots + ss)) (eT : T.heap = h) {pc : Nat} {Ls : Array Slot} {st argsL rest : List Value} (hst : st = argsL.reverse ++ .ref b :: rest) (has : (.ref b :: argsL).toArray = as') {ps : List FieldType} {r : Option FieldType} (hpd : parseMethodDescriptor y.desc = some ⟨ps, r⟩) (hlen : argsL.length = ps.length) (hsize : Ls.size = c.maxLocals)
    (hd : decode c.code pc = .ok (.invokevirtual index, 3)) (hW : (rest.map fun v => v.category).sum ≤ W) (hc : cells + cc ≤ R.cells) (hs : slots + ss ≤ R.slots) (k : To p.tables e below S0 (T.setTop (mkF m pc Ls st))) :
    ∃ v T' L, Stand p l e R s m args below meth c T' (locs ++ L) (cells + cc) (slots + ss) ∧ Q v T'.heap L ∧ To p.tables e below S0 (T'.setTop (mkF m (pc + 3) Ls (v.toList ++ rest))) := by
  obtain ⟨cq, kq, qa, qb, qc⟩ := isOf hZ eT E
  obtain ⟨v, vm₁, ⟨T', L', k', n'⟩, -, X', ⟨L, hQ, q1, q2, q3⟩, stp⟩ := X.virtualBack hx hown (mvT hZ w1) (mvT hZ w2) hnf (mvT hZ w5) (mvT hZ w6) hy hK qa qc (g := mkF m pc Ls st) rfl hsize (Steps.refl _) (argsL := argsL) (rest := rest) (lenOf hpd hlen) hst (by show 2 * 0 + _ ≤ _; omega) hd (fun _ _ => ⟨has, eT, hc, hs⟩)
  dsimp only [Pt.U, Pt.locs, Pt.cells, Pt.slots] at X' q1 q2 q3 stp hQ
  subst q1 q2 q3
  exact ⟨v, T', L, X', hQ, fun t q => k t (stp.trans q)⟩
theorem callU' (X : Stand p l e R s m args below meth c T locs cells slots) (hx : p.tables.exec = Jvm.exec) (hZ : Z.Warmed39 s.vm) {own C owner : String} {index : Nat} {y z : MethodName} {cc ss W : Nat} {as' : Array Value} {Q : Option Value → Heap → List Loc → Prop}
    (hown : s.vm.findClass own = some m.cls) (w1 : (Cond.methodLink own index y).before a0 Z = true) (w7 : (Cond.sameMethod y.cls owner y.name y.desc).before a0 Z = true) (w2 : (Cond.declares ⟨owner, y.name, y.desc⟩).before a0 Z = true) (w5 : (Cond.selects C y z).before a0 Z = true) (w6 : (Cond.instanceMethod z).before a0 Z = true)
    (hy : owner ≠ "java/lang/invoke/MethodHandle" ∧ owner ≠ "java/lang/invoke/VarHandle") {b : Addr} (E : Exa Z h b C)
    (hK : Back l R p e below s args z 3 W (fun A a => a = as' ∧ A.U.heap = h ∧ A.cells + cc ≤ R.cells ∧ A.slots + ss ≤ R.slots) (fun A _ v B => ∃ L, Q v B.U.heap L ∧ B.locs = A.locs ++ L ∧ B.cells = A.cells + cc ∧ B.slots = A.slots + ss)) (eT : T.heap = h) {pc : Nat} {Ls : Array Slot} {st argsL rest : List Value} (hst : st = argsL.reverse ++ .ref b :: rest) (has : (.ref b :: argsL).toArray = as') {ps : List FieldType} {r : Option FieldType} (hpd : parseMethodDescriptor y.desc = some ⟨ps, r⟩) (hlen : argsL.length = ps.length) (hsize : Ls.size = c.maxLocals)
    (hd : decode c.code pc = .ok (.invokevirtual index, 3)) (hW : (rest.map fun v => v.category).sum ≤ W) (hc : cells + cc ≤ R.cells) (hs : slots + ss ≤ R.slots) (k : To p.tables e below S0 (T.setTop (mkF m pc Ls st))) :
    ∃ v T' L, Stand p l e R s m args below meth c T' (locs ++ L) (cells + cc) (slots + ss) ∧ Q v T'.heap L ∧ To p.tables e below S0 (T'.setTop (mkF m (pc + 3) Ls (v.toList ++ rest))) := by
  obtain ⟨cq, kq, qa, qb, qc⟩ := isOf hZ eT E
  obtain ⟨v, vm₁, ⟨T', L', k', n'⟩, -, X', ⟨L, hQ, q1, q2, q3⟩, stp⟩ := X.virtualBackUp hx hown (mvT hZ w1) (mvT hZ w7) (mvT hZ w2) hy (mvT hZ w5) (mvT hZ w6) hK qa qc (g := mkF m pc Ls st) rfl hsize (Steps.refl _) (argsL := argsL) (rest := rest) (lenOf hpd hlen) hst (by show 2 * 0 + _ ≤ _; omega) hd (fun _ _ => ⟨has, eT, hc, hs⟩)
  dsimp only [Pt.U, Pt.locs, Pt.cells, Pt.slots] at X' q1 q2 q3 stp hQ
  subst q1 q2 q3
  exact ⟨v, T', L, X', hQ, fun t q => k t (stp.trans q)⟩
theorem callI' (X : Stand p l e R s m args below meth c T locs cells slots) (hx : p.tables.exec = Jvm.exec) (hZ : Z.Warmed39 s.vm) {own C : String} {index count : Nat} {y z : MethodName} {cc ss W : Nat} {as' : Array Value} {Q : Option Value → Heap → List Loc → Prop}
    (hown : s.vm.findClass own = some m.cls) (w1 : (Cond.methodLink own index y).before a0 Z = true) (w2 : (Cond.declares y).before a0 Z = true) (w7 : (Cond.interfaceMethod y.cls y.cls y.name y.desc).before a0 Z = true) (hd7 : ((Cond.interfaceMethod y.cls y.cls y.name y.desc).onTables && (Cond.interfaceMethod y.cls y.cls y.name y.desc).keepsFace) = true) (w5 : (Cond.selects C y z).before a0 Z = true) (w6 : (Cond.instanceMethod z).before a0 Z = true) (w8 : (Cond.publicMethod z).before a0 Z = true) (w9 : (Cond.unhidden C y.name y.desc).before a0 Z = true) (w10 : (Cond.castable C y.cls).before a0 Z = true)
    (hy : y.cls ≠ "java/lang/invoke/MethodHandle" ∧ y.cls ≠ "java/lang/invoke/VarHandle") {b : Addr} (E : Exa Z h b C)
    (hK : Back l R p e below s args z 5 W (fun A a => a = as' ∧ A.U.heap = h ∧ A.cells + cc ≤ R.cells ∧ A.slots + ss ≤ R.slots) (fun A _ v B => ∃ L, Q v B.U.heap L ∧ B.locs = A.locs ++ L ∧ B.cells = A.cells + cc ∧ B.slots = A.slots + ss)) (eT : T.heap = h) {pc : Nat} {Ls : Array Slot} {st argsL rest : List Value} (hst : st = argsL.reverse ++ .ref b :: rest) (has : (.ref b :: argsL).toArray = as') {ps : List FieldType} {r : Option FieldType} (hpd : parseMethodDescriptor y.desc = some ⟨ps, r⟩) (hlen : argsL.length = ps.length) (hsize : Ls.size = c.maxLocals)
    (hd : decode c.code pc = .ok (.invokeinterface index count, 5)) (hW : (rest.map fun v => v.category).sum ≤ W) (hc : cells + cc ≤ R.cells) (hs : slots + ss ≤ R.slots) (k : To p.tables e below S0 (T.setTop (mkF m pc Ls st))) :
    ∃ v T' L, Stand p l e R s m args below meth c T' (locs ++ L) (cells + cc) (slots + ss) ∧ Q v T'.heap L ∧ To p.tables e below S0 (T'.setTop (mkF m (pc + 5) Ls (v.toList ++ rest))) := by
  obtain ⟨cq, kq, qa, qb, qc⟩ := isOf hZ eT E
  obtain ⟨v, vm₁, ⟨T', L', k', n'⟩, -, X', ⟨L, hQ, q1, q2, q3⟩, stp⟩ := X.interfaceBack hx hown (mvT hZ w1) (mvT hZ w2) (mvT hZ w7 hd7) (mvT hZ w5) (mvT hZ w6) (mvT hZ w8) (mvT hZ w9) (mvT hZ w10) hy hK qa qb qc (g := mkF m pc Ls st) rfl hsize (Steps.refl _) (argsL := argsL) (rest := rest) (lenOf hpd hlen) hst (by show 2 * 0 + _ ≤ _; omega) hd (fun _ _ => ⟨has, eT, hc, hs⟩)
  dsimp only [Pt.U, Pt.locs, Pt.cells, Pt.slots] at X' q1 q2 q3 stp hQ
  subst q1 q2 q3
  exact ⟨v, T', L, X', hQ, fun t q => k t (stp.trans q)⟩
theorem staOld {n0 : Nat} {C n d : String} {v : Value} (F : Sta Z Z.heap C n d v) (O : Old Z n0 h) : Sta Z h C n d v := F.ext O.2
theorem exaOld {n0 : Nat} {C : String} {a : Addr} (F : Exa Z Z.heap a C) (O : Old Z n0 h) : Exa Z h a C := F.ext O.2
theorem fldOld {n0 : Nat} {C n d : String} {a : Addr} {v : Value} (F : Fld Z Z.heap a C n d v) (O : Old Z n0 h) : Fld Z h a C n d v := F.ext O.2
theorem joinT (X : Stand p l e R s m args below meth c T locs cells slots) (eT : T.heap = h) (F : JFrame) {G : Prop} (br : (∀ T', Stand p l e R s m args below meth c T' locs cells slots → T'.heap = h → To p.tables e below S0 (T'.setTop F) → G) → G)
    (rest : ∀ T', Stand p l e R s m args below meth c T' locs cells slots → T'.heap = h → To p.tables e below S0 (T'.setTop F) → G) : G := br rest
theorem own_m255 (c : Int32) : ¬ (c &&& 255) < (0 : Int32) ∧ ¬ (255 : Int32) < (c &&& 255) := by
  have h : (c &&& 255).toBitVec.toNat ≤ 255 := by
    rw [Int32.toBitVec_and, BitVec.toNat_and]; exact Nat.and_le_right
  have h2 : (c &&& 255).toInt = ((c &&& 255).toBitVec.toNat : Int) := by
    show (c &&& 255).toBitVec.toInt = _
    rw [BitVec.toInt_eq_toNat_of_lt (by omega)]
  rw [Int32.lt_iff_toInt_lt, Int32.lt_iff_toInt_lt, h2, show (0 : Int32).toInt = 0 from rfl, show (255 : Int32).toInt = 255 by decide]
  omega
theorem own_and255_of {v : Int32} (h : ¬ v < (0 : Int32) ∧ ¬ (255 : Int32) < v) : v &&& 255 = v := by
  rw [Int32.lt_iff_toInt_lt, Int32.lt_iff_toInt_lt, show (0 : Int32).toInt = 0 from rfl, show (255 : Int32).toInt = 255 by decide] at h
  have e : v.toInt = (v.toBitVec.toNat : Int) := by
    show v.toBitVec.toInt = _
    have h1 : ¬ v.toBitVec.toInt < 0 := h.1
    rw [BitVec.toInt_eq_toNat_cond] at h1 ⊢
    split <;> rename_i q
    · rfl
    · rw [if_neg q] at h1; have := v.toBitVec.isLt; omega
  apply Int32.toBitVec_inj.mp
  apply BitVec.eq_of_toNat_eq
  rw [Int32.toBitVec_and, BitVec.toNat_and, show (255 : Int32).toBitVec.toNat = 2 ^ 8 - 1 from rfl, Nat.and_two_pow_sub_one_eq_mod]
  omega
theorem own_narc {v : Int32} (h : ¬ v < (0 : Int32) ∧ ¬ (255 : Int32) < v) : nar .char v = v := by
  have e := own_and255_of h
  rw [← e]; exact i2c_mask v
theorem own_fitc {v : Int32} (h : ¬ v < (0 : Int32) ∧ ¬ (255 : Int32) < v) : fits .char (.int v) = true := by
  have q := fits_nar_char v; rw [own_narc h] at q; exact q
theorem own_b255 {v : Int32} (h : ¬ v < (0 : Int32) ∧ ¬ (255 : Int32) < v) : (nar .byte (v.toInt8.toInt32)) &&& (255 : Int32) = v := by
  refine Eq.trans ?_ (own_and255_of h)
  have e : (v.toInt8.toInt32).toInt8 = v.toInt8 := by
    apply Int8.toBitVec_inj.mp; rw [Int32.toBitVec_toInt8, Int8.toBitVec_toInt32, BitVec.signExtend_eq_setWidth_of_le _ (by omega)]
    apply BitVec.eq_of_toNat_eq
    rw [BitVec.toNat_setWidth, BitVec.toNat_signExtend]
    have := v.toInt8.toBitVec.isLt
    simp only [BitVec.toNat_setWidth]
    split <;> omega
  show (v.toInt8.toInt32).toInt8.toInt32 &&& 255 = v &&& 255
  rw [e]
  apply Int32.toBitVec_inj.mp
  apply BitVec.eq_of_toNat_eq
  rw [Int32.toBitVec_and, Int32.toBitVec_and, BitVec.toNat_and, BitVec.toNat_and, show (255 : Int32).toBitVec.toNat = 2 ^ 8 - 1 from rfl, Nat.and_two_pow_sub_one_eq_mod, Nat.and_two_pow_sub_one_eq_mod, Int8.toBitVec_toInt32, Int32.toBitVec_toInt8, BitVec.toNat_signExtend]
  have h1 := v.toBitVec.isLt
  simp only [BitVec.toNat_setWidth, BitVec.toNat_signExtend]
  split <;> split <;> omega
theorem own_narrowc (x : Int32) : narrow .char (.int (x &&& 255)) = .int (x &&& 255) := congrArg Value.int (own_narc (own_m255 x))
theorem nin1 {x y : Addr} (h : ¬ (@Eq Nat x y)) : x ∉ [y] := ninS h nin0
theorem wq {Z : State} {a0 : Array Value} {ts : List Jvm.Cond} (hw : ∀ d ∈ ts, d.before a0 Z = true) (i : Nat) {d : Jvm.Cond} (q : ts[i]? = some d) : d.before a0 Z = true := hw _ (List.mem_of_getElem? q)
theorem adr_lt {a b : Nat} (h : @LT.lt Nat instLTNat a b) : a < b := h
theorem adr_ne {a b : Nat} (h : ¬ a = b) : a ≠ b := h
theorem own_nz {s : State} {args : Array Value} {t : Term} {z : Int32} (e : t.eval args s none [] s = some (.int z)) (h : (Jvm.Cond.not (.eq t (.int 0))).value args s none s [] = some true) : ¬ z = (0 : Int32) := fun q => by
  subst q; have h2 := not_v h; simp [Cond.value, e, Term.eval] at h2
theorem fits_isref {C : String} {w : Value} (h : w.isRef = true) : fits (.object C) w = true := by rcases ref_cases h with rfl | ⟨z, rfl⟩ <;> rfl
theorem narrow_ref {t : FieldType} {w : Value} (h : w.isRef = true) : narrow t w = w := by rcases ref_cases h with rfl | ⟨z, rfl⟩ <;> cases t <;> rfl
end Own
/-! the wide family: walks that load String constants -/
section Wide
variable {p : Program} {l : Launch} {e : Env} {R : Room} {s : State} {m : MethodId} {args : Array Value} {below : List Frame} {meth : Method} {c : Code} {T S0 : State} {locs : List Loc} {cells slots : Nat} {Z : State} {a0 : Array Value} {h h0 : Heap} {Q : Option Value → Heap → List Loc → Prop} {EL : List (String × Nat)} {vm vm0 : Vm} {sf : List Addr} {n : Nat}
abbrev ConW (l : Launch) (Z : State) (EL : List (String × Nat)) (y : MethodName) (bs : ByteArray) (ml : Nat) (rt : Option FieldType) (ws : List Jvm.Cond) (R : Room) (as' : Array Value) (h0 : Heap) (sf : List Addr) (Q : Option Value → Heap → List Loc → Prop) : Prop :=
  MetFree l y (head1 (Jvm.Cond.code y bs ml rt :: ws) R) (fun a U => a = as' ∧ Z.Warmed39 U.vm ∧ U.heap = h0 ∧ CHv Z EL U.vm h0 ∧ ∀ x ∈ sf, Safe Z EL U.vm h0 x) (fun _ _ _ _ _ => True)
    (fun _ U o U' => ∃ v L, o = .returned v ∧ Q v U'.heap L ∧ CHr Z EL U.vm U.heap U'.vm U'.heap ∧ ReturnedEndW U o U' L R.cells R.slots)
def FinW (p : Program) (e : Env) (below : List Frame) (s : State) (R : Room) (S0 : State) (Z : State) (EL : List (String × Nat)) (vm0 : Vm) (h0 : Heap) (Q : Option Value → Heap → List Loc → Prop) : Prop :=
  ∃ s₂ o, Steps p.tables e below S0 s₂ ∧ s₂.status = .running ∧ Ended s₂ below o ∧ ∃ v L, o = .returned v ∧ Q v s₂.heap L ∧ CHr Z EL vm0 h0 s₂.vm s₂.heap ∧ ReturnedEndW s o s₂ L R.cells R.slots
theorem enterW {y : MethodName} {bs : ByteArray} {ml : Nat} {rt : Option FieldType} {ws : List Jvm.Cond} {as' : Array Value} {Ls : Array Slot} (hpl : plainFor y = true) (hef : ∀ m, entryFrame m as' ml = mkF m 0 Ls [])
    (body : ∀ (p : Program) (e : Env) (s : State) (m : MethodId) (below : List Frame) (meth : Method) (c : Code) (s₁ S0 : State) (vm0 : Vm), p.tables.exec = Jvm.exec → c.code = bs → c.maxLocals = ml → meth.sig.returnType = rt → meth.locks = false → meth.name = y.name →
      vm0.findClass y.cls = some m.cls → Z.Warmed39 vm0 → Stand p l e R (s.setVm vm0) m as' below meth c s₁ [] 0 0 → s₁.heap = h0 → To p.tables e below S0 (s₁.setTop (mkF m 0 Ls [])) → CHr Z EL vm0 h0 vm0 h0 → (∀ x ∈ sf, Safe Z EL vm0 h0 x) → s.Since vm0 h0.size → FinW p e below s R S0 Z EL vm0 h0 Q) : ConW l Z EL y bs ml rt ws R as' h0 sf Q := by
  refine MetFree.of_bodySF hpl hisR ?_
  intro p e s m args below meth c s₁ Bd hml0 hP hK
  obtain ⟨rfl, hZ, hh, hC, hsf⟩ := hP
  subst hh
  exact body p e s m below meth c s₁ _ s.vm Bd.exec Bd.bytes hml0 Bd.returns Bd.notSynchronized (name_of_methodNamed Bd.named Bd.method).1 (findClass_of_methodNamed Bd.named) hZ (show Stand p l e R s m _ below meth c s₁ [] 0 0 from Stand.of_body Bd) (by rw [Bd.state]; rfl) (fun t k => castTop (hef m) k) (CHr.refl hC) hsf ((State.WarmedH.refl s).since _)
theorem endW_mono {s t : State} {o : Outcome} {L : List Loc} {k n k' n' : Nat} (h : ReturnedEndW s o t L k n) (hk : k ≤ k') (hn : n ≤ n') : ReturnedEndW s o t L k' n' := ⟨h.1, h.2.1, h.2.2.1, h.2.2.2.mono hk hn⟩
theorem retVW (X : Stand p l e R (s.setVm vm) m args below meth c T locs cells slots) (hx : p.tables.exec = Jvm.exec) (hZ : Z.Warmed39 vm) (hEL : EW Z a0 EL) (hS : s.Since vm n) (hn0 : n ≤ h.size) (C : CHr Z EL vm0 h0 vm h) (eT : T.heap = h) {pc : Nat} {Ls : Array Slot} {w : Value} {t : FieldType} {i : Instr} {rest : List Value} (hret : meth.sig.returnType = some t) (hlk : meth.locks = false) (hn : narrow t w = w)
    (hi : (i = .ireturn ∧ (t = .int ∨ t = .boolean ∨ t = .byte ∨ t = .char ∨ t = .short) ∧ ∃ z, w = .int z) ∨ (i = .lreturn ∧ t = .long ∧ ∃ z, w = .long z) ∨ (i = .dreturn ∧ t = .double ∧ ∃ z, w = .double z) ∨ (i = .freturn ∧ t = .float ∧ ∃ z, w = .float z) ∨ (i = .areturn ∧ t.isReference = true ∧ w.isRef = true))
    (hd : decode c.code pc = .ok (i, 1)) (k : To p.tables e below S0 (T.setTop (mkF m pc Ls (w :: rest)))) (hQ : Q (some w) h locs) (hc : cells ≤ R.cells) (hs : slots ≤ R.slots) : FinW p e below s R S0 Z EL vm0 h0 Q := by
  subst eT
  obtain ⟨fs, hr, hrun, hended, hend⟩ := leaveW X hS hn0 (v := some w) (fun h => by rw [hret] at h; cases h) hlk
  have A := C.trans (CHv.at X hZ hEL C.1)
  exact ⟨_, _, k _ (retOut X hx hret hn hi hd hr), hrun, hended, _, _, rfl, hQ, A, endW_mono hend hc hs⟩
theorem retIntW (X : Stand p l e R (s.setVm vm) m args below meth c T locs cells slots) (hx : p.tables.exec = Jvm.exec) (hZ : Z.Warmed39 vm) (hEL : EW Z a0 EL) (hS : s.Since vm n) (hn0 : n ≤ h.size) (C : CHr Z EL vm0 h0 vm h) (eT : T.heap = h) {pc : Nat} {Ls : Array Slot} {z : Int32} {t : FieldType} {rest : List Value} (hret : meth.sig.returnType = some t) (hlk : meth.locks = false) (ht : t = .int ∨ t = .boolean ∨ t = .byte ∨ t = .char ∨ t = .short) (hn : narrow t (.int z) = .int z)
    (hd : decode c.code pc = .ok (.ireturn, 1)) (k : To p.tables e below S0 (T.setTop (mkF m pc Ls (.int z :: rest)))) (hQ : Q (some (.int z)) h locs) (hc : cells ≤ R.cells) (hs : slots ≤ R.slots) : FinW p e below s R S0 Z EL vm0 h0 Q :=
  retVW X hx hZ hEL hS hn0 C eT hret hlk hn (Or.inl ⟨rfl, ht, z, rfl⟩) hd k hQ hc hs
theorem retRefW (X : Stand p l e R (s.setVm vm) m args below meth c T locs cells slots) (hx : p.tables.exec = Jvm.exec) (hZ : Z.Warmed39 vm) (hEL : EW Z a0 EL) (hS : s.Since vm n) (hn0 : n ≤ h.size) (C : CHr Z EL vm0 h0 vm h) (eT : T.heap = h) {pc : Nat} {Ls : Array Slot} {w : Value} {t : FieldType} {rest : List Value} (hret : meth.sig.returnType = some t) (hlk : meth.locks = false) (ht : t.isReference = true) (hw : w.isRef = true)
    (hd : decode c.code pc = .ok (.areturn, 1)) (k : To p.tables e below S0 (T.setTop (mkF m pc Ls (w :: rest)))) (hQ : Q (some w) h locs) (hc : cells ≤ R.cells) (hs : slots ≤ R.slots) : FinW p e below s R S0 Z EL vm0 h0 Q :=
  retVW X hx hZ hEL hS hn0 C eT hret hlk (narrow_ref hw) (Or.inr (Or.inr (Or.inr (Or.inr ⟨rfl, ht, hw⟩)))) hd k hQ hc hs
theorem retVoidW (X : Stand p l e R (s.setVm vm) m args below meth c T locs cells slots) (hx : p.tables.exec = Jvm.exec) (hZ : Z.Warmed39 vm) (hEL : EW Z a0 EL) (hS : s.Since vm n) (hn0 : n ≤ h.size) (C : CHr Z EL vm0 h0 vm h) (eT : T.heap = h) {pc : Nat} {Ls : Array Slot} (hret : meth.sig.returnType = none) (hlk : meth.locks = false)
    (hd : decode c.code pc = .ok (.return_, 1)) (k : To p.tables e below S0 (T.setTop (mkF m pc Ls []))) (hQ : Q none h locs) (hc : cells ≤ R.cells) (hs : slots ≤ R.slots) : FinW p e below s R S0 Z EL vm0 h0 Q := by
  subst eT
  obtain ⟨fs, hr, hrun, hended, hend⟩ := leaveW X hS hn0 (v := none) (fun _ => rfl) hlk
  have A := C.trans (CHv.at X hZ hEL C.1)
  exact ⟨_, _, k _ (X.returnOut hx hret hd hr), hrun, hended, _, _, rfl, hQ, A, endW_mono hend hc hs⟩
theorem backOfW {y : MethodName} {bs : ByteArray} {ml : Nat} {rt : Option FieldType} {rm : Room} {len W : Nat} {as' : Array Value} (hM : ConW l Z EL y bs ml rt [] rm as' h sf Q) (hZ : Z.Warmed39 vm) (wc : (Cond.code y bs ml rt).before a0 Z = true) (wz : (Cond.initialized y.cls).before a0 Z = true)
    (hf : rm.frames + 1 ≤ R.frames) (hl : W + (ml + 11) + rm.locals ≤ R.locals) (hEL : EW Z a0 EL) (H : CHv Z EL vm h) (hsf : ∀ x ∈ sf, x < h.size ∧ Safe Z EL vm h x) :
    BackS l R p e below (s.setVm vm) args y len W (fun A a => a = as' ∧ A.U.heap = h ∧ A.cells + rm.cells ≤ R.cells ∧ A.slots + rm.slots ≤ R.slots)
      (fun A _ v B => ∃ L, Q v B.U.heap L ∧ B.locs = A.locs ++ L ∧ B.cells = A.cells + rm.cells ∧ B.slots = A.slots + rm.slots ∧ CHr Z EL vm h B.U.vm B.U.heap) :=
  BackS.of_freeW (bytes := bs) (maxL := ml) (ret := rt) (E := fun _ first o t L k n => k = rm.cells ∧ n = rm.slots ∧ (∃ v, o = .returned v ∧ Q v t.heap L) ∧ CHr Z EL first.vm first.heap t.vm t.heap) hM hf hl
    (fun m meth c A a Y hp => have hU : Z.Warmed39 A.U.vm := wtrans (s := s.setVm vm) hZ Y.warmed
      ⟨by show (Cond.and _ .tt).before a A.U = true; rw [Cond.before_and, mv hU wc]; rfl, mv hU wc, mv hU wz, hp.2.2.1, hp.2.2.2⟩)
    (fun m meth c A a g mk Y hp => ⟨hp.1, wtrans (s := s.setVm vm) hZ Y.warmed, hp.2.1, (CHv.at Y hZ hEL H).1, fun x hx => (CHv.at Y hZ hEL H).safe (hsf x hx).1 (hsf x hx).2⟩) (fun _ _ _ _ _ _ _ _ _ => trivial)
    (fun _ _ _ _ ⟨v, L, h1, h2, h3, h4⟩ => ⟨L, _, _, h4, rfl, rfl, ⟨v, h1, h2⟩, h3⟩)
    (fun m meth c A a g mk v t L k n Y hp _ _ ⟨e1, e2, ⟨v', e3, e4⟩, e5⟩ => by
      cases e3; subst e1 e2
      refine ⟨L, e4, rfl, rfl, rfl, (CHv.at Y hZ hEL H).trans ?_⟩
      rw [← hp.2.1]; exact e5)
/-- what lies behind a call that may intern -/
abbrev BehW (p : Program) (l : Launch) (e : Env) (R : Room) (s : State) (m : MethodId) (args : Array Value) (below : List Frame) (meth : Method) (c : Code) (Z : State) (EL : List (String × Nat)) (vm : Vm) (h : Heap) (locs : List Loc) (cells slots cc ss : Nat) (own : String) (Q : Option Value → Heap → List Loc → Prop) (S0 : State) (pc : Nat) (Ls : Array Slot) (rest : List Value) : Prop :=
  ∃ v T' L, Stand p l e R (s.setVm T'.vm) m args below meth c T' (locs ++ L) (cells + cc) (slots + ss) ∧ Q v T'.heap L ∧ To p.tables e below S0 (T'.setTop (mkF m pc Ls (v.toList ++ rest))) ∧ CHr Z EL vm h T'.vm T'.heap ∧ s.Since T'.vm T'.heap.size ∧ Z.Warmed39 T'.vm ∧ T'.vm.findClass own = some m.cls
theorem behW {own : String} {cc ss : Nat} {pc : Nat} {Ls : Array Slot} {rest : List Value} {v : Option Value} {T' : State} {L : List Loc} (hZ : Z.Warmed39 vm) (hown : vm.findClass own = some m.cls) (hS : s.Since vm n) (hn : n ≤ h.size) (X' : Stand p l e R ((s.setVm vm).setVm T'.vm) m args below meth c T' (locs ++ L) (cells + cc) (slots + ss)) (hS' : (s.setVm vm).Since T'.vm T'.heap.size) (hg : h.size ≤ T'.heap.size)
    (hQ : Q v T'.heap L) (hC : CHr Z EL vm h T'.vm T'.heap) (k : To p.tables e below S0 (T'.setTop (mkF m pc Ls (v.toList ++ rest)))) : BehW p l e R s m args below meth c Z EL vm h locs cells slots cc ss own Q S0 pc Ls rest :=
  ⟨v, T', L, X', hQ, k, hC, hS.trans hS' (Nat.le_trans hn hg), State.Warmed39.trans (t := s.setVm vm) hZ hS'.1, by rw [hS'.1.alike.findClass]; exact hown⟩
theorem callSW (X : Stand p l e R (s.setVm vm) m args below meth c T locs cells slots) (hx : p.tables.exec = Jvm.exec) (hZ : Z.Warmed39 vm) {own : String} {index : Nat} {y : MethodName} {bs : ByteArray} {ml : Nat} {rt : Option FieldType} {cc ss W : Nat} {as' : Array Value}
    (hown : vm.findClass own = some m.cls) (hS : s.Since vm n) (hn : n ≤ h.size) (w1 : (Cond.methodLink own index y).before a0 Z = true) (w2 : (Cond.static y).before a0 Z = true) (w3 : (Cond.initialized y.cls).before a0 Z = true) (w4 : (Cond.code y bs ml rt).before a0 Z = true) (hy : y.cls ≠ "java/lang/invoke/MethodHandle" ∧ y.cls ≠ "java/lang/invoke/VarHandle")
    (hK : BackS l R p e below (s.setVm vm) args y 3 W (fun A a => a = as' ∧ A.U.heap = h ∧ A.cells + cc ≤ R.cells ∧ A.slots + ss ≤ R.slots) (fun A _ v B => ∃ L, Q v B.U.heap L ∧ B.locs = A.locs ++ L ∧ B.cells = A.cells + cc ∧ B.slots = A.slots + ss ∧ CHr Z EL vm h B.U.vm B.U.heap)) (eT : T.heap = h) {pc : Nat} {Ls : Array Slot} {st argsL rest : List Value} (hst : st = argsL.reverse ++ rest) (has : argsL.toArray = as') {ps : List FieldType} {r : Option FieldType} (hpd : parseMethodDescriptor y.desc = some ⟨ps, r⟩) (hlen : argsL.length = ps.length) (hsize : Ls.size = c.maxLocals)
    (hd : decode c.code pc = .ok (.invokestatic index, 3)) (hW : (rest.map fun v => v.category).sum ≤ W) (hc : cells + cc ≤ R.cells) (hs : slots + ss ≤ R.slots) (k : To p.tables e below S0 (T.setTop (mkF m pc Ls st))) :
    BehW p l e R s m args below meth c Z EL vm h locs cells slots cc ss own Q S0 (pc + 3) Ls rest := by
  obtain ⟨v, vm₁, ⟨T', L', k', n'⟩, -, X', hS', hg, ⟨L, hQ, q1, q2, q3, hC⟩, stp⟩ := callSS X hx hown (mvT (s := s.setVm vm) hZ w1) (mvT (s := s.setVm vm) hZ w2) (mvT (s := s.setVm vm) hZ w3) (mvT (s := s.setVm vm) hZ w4) hy hK (g := mkF m pc Ls st) rfl hsize (argsL := argsL) (rest := rest) (lenOf hpd hlen) hst (by show 2 * 0 + _ ≤ _; omega) hd (fun _ _ => ⟨has, eT, hc, hs⟩)
  dsimp only [Pt.U, Pt.locs, Pt.cells, Pt.slots] at X' q1 q2 q3 stp hQ hS' hg hC
  subst q1 q2 q3
  exact behW hZ hown hS hn X' hS' (eT ▸ hg) hQ hC fun t q => k t (stp.trans q)
theorem callCW (X : Stand p l e R (s.setVm vm) m args below meth c T locs cells slots) (hx : p.tables.exec = Jvm.exec) (hZ : Z.Warmed39 vm) {own : String} {index : Nat} {y : MethodName} {bs : ByteArray} {ml : Nat} {cc ss W : Nat} {as' : Array Value}
    (hy1 : y.name = "<init>") (hown : vm.findClass own = some m.cls) (hS : s.Since vm n) (hn : n ≤ h.size) (w1 : (Cond.methodLink own index y).before a0 Z = true) (w2 : (Cond.instanceMethod y).before a0 Z = true) (w4 : (Cond.code y bs ml none).before a0 Z = true) (hy : y.cls ≠ "java/lang/invoke/MethodHandle" ∧ y.cls ≠ "java/lang/invoke/VarHandle")
    (hK : BackS l R p e below (s.setVm vm) args y 3 W (fun A a => a = as' ∧ A.U.heap = h ∧ A.cells + cc ≤ R.cells ∧ A.slots + ss ≤ R.slots) (fun A _ v B => ∃ L, Q v B.U.heap L ∧ B.locs = A.locs ++ L ∧ B.cells = A.cells + cc ∧ B.slots = A.slots + ss ∧ CHr Z EL vm h B.U.vm B.U.heap)) (eT : T.heap = h) {pc : Nat} {Ls : Array Slot} {a : Addr} {st argsL rest : List Value} (hst : st = argsL.reverse ++ .ref a :: rest) (has : (.ref a :: argsL).toArray = as') {ps : List FieldType} {r : Option FieldType} (hpd : parseMethodDescriptor y.desc = some ⟨ps, r⟩) (hlen : argsL.length = ps.length) (hsize : Ls.size = c.maxLocals)
    (hd : decode c.code pc = .ok (.invokespecial index, 3)) (hW : (rest.map fun v => v.category).sum ≤ W) (hc : cells + cc ≤ R.cells) (hs : slots + ss ≤ R.slots) (k : To p.tables e below S0 (T.setTop (mkF m pc Ls st))) :
    BehW p l e R s m args below meth c Z EL vm h locs cells slots cc ss own Q S0 (pc + 3) Ls rest := by
  obtain ⟨v, vm₁, ⟨T', L', k', n'⟩, -, X', hS', hg, ⟨L, hQ, q1, q2, q3, hC⟩, stp⟩ := specialBackS X hx hy1 hown (mvT (s := s.setVm vm) hZ w1) (mvT (s := s.setVm vm) hZ w2) (mvT (s := s.setVm vm) hZ w4) hy hK (g := mkF m pc Ls st) rfl hsize (Steps.refl _) (a := a) (argsL := argsL) (rest := rest) (lenOf hpd hlen) hst (by show 2 * 0 + _ ≤ _; omega) hd (fun _ _ => ⟨has, eT, hc, hs⟩)
  dsimp only [Pt.U, Pt.locs, Pt.cells, Pt.slots] at X' q1 q2 q3 stp hQ hS' hg hC
  subst q1 q2 q3
  exact behW hZ hown hS hn X' hS' (eT ▸ hg) hQ hC fun t q => k t (stp.trans q)
theorem callVW (X : Stand p l e R (s.setVm vm) m args below meth c T locs cells slots) (hx : p.tables.exec = Jvm.exec) (hZ : Z.Warmed39 vm) {own C : String} {index : Nat} {y z : MethodName} {cc ss W : Nat} {as' : Array Value}
    (hown : vm.findClass own = some m.cls) (hS : s.Since vm n) (hn : n ≤ h.size) (w1 : (Cond.methodLink own index y).before a0 Z = true) (w2 : (Cond.declares y).before a0 Z = true) (hnf : NotFace (s.setVm vm) y) (w5 : (Cond.selects C y z).before a0 Z = true) (w6 : (Cond.instanceMethod z).before a0 Z = true)
    (hy : y.cls ≠ "java/lang/invoke/MethodHandle" ∧ y.cls ≠ "java/lang/invoke/VarHandle") {b : Addr} (E : Exa Z h b C)
    (hK : BackS l R p e below (s.setVm vm) args z 3 W (fun A a => a = as' ∧ A.U.heap = h ∧ A.cells + cc ≤ R.cells ∧ A.slots + ss ≤ R.slots) (fun A _ v B => ∃ L, Q v B.U.heap L ∧ B.locs = A.locs ++ L ∧ B.cells = A.cells + cc ∧ B.slots = A.slots + ss ∧ CHr Z EL vm h B.U.vm B.U.heap)) (eT : T.heap = h) {pc : Nat} {Ls : Array Slot} {st argsL rest : List Value} (hst : st = argsL.reverse ++ .ref b :: rest) (has : (.ref b :: argsL).toArray = as') {ps : List FieldType} {r : Option FieldType} (hpd : parseMethodDescriptor y.desc = some ⟨ps, r⟩) (hlen : argsL.length = ps.length) (hsize : Ls.size = c.maxLocals)
    (hd : decode c.code pc = .ok (.invokevirtual index, 3)) (hW : (rest.map fun v => v.category).sum ≤ W) (hc : cells + cc ≤ R.cells) (hs : slots + ss ≤ R.slots) (k : To p.tables e below S0 (T.setTop (mkF m pc Ls st))) :
    BehW p l e R s m args below meth c Z EL vm h locs cells slots cc ss own Q S0 (pc + 3) Ls rest := by
  obtain ⟨cq, kq, qa, qb, qc⟩ := isOf (s := s.setVm vm) hZ eT E
  obtain ⟨v, vm₁, ⟨T', L', k', n'⟩, -, X', hS', hg, ⟨L, hQ, q1, q2, q3, hC⟩, stp⟩ := virtualBackS X hx hown (mvT (s := s.setVm vm) hZ w1) (mvT (s := s.setVm vm) hZ w2) hnf (mvT (s := s.setVm vm) hZ w5) (mvT (s := s.setVm vm) hZ w6) hy hK qa qc (g := mkF m pc Ls st) rfl hsize (Steps.refl _) (argsL := argsL) (rest := rest) (lenOf hpd hlen) hst (by show 2 * 0 + _ ≤ _; omega) hd (fun _ _ => ⟨has, eT, hc, hs⟩)
  dsimp only [Pt.U, Pt.locs, Pt.cells, Pt.slots] at X' q1 q2 q3 stp hQ hS' hg hC
  subst q1 q2 q3
  exact behW hZ hown hS hn X' hS' (eT ▸ hg) hQ hC fun t q => k t (stp.trans q)
end Wide
abbrev own_EL : List (String × Nat) := consts_1
theorem own_EW {Z : State} {a0 : Array Value} (hw : ∀ d ∈ tables_1, d.before a0 Z = true) : EW Z a0 own_EL := (EW.cons (wq hw 125 rfl) (by decide) EW.nil)
theorem own_wS {Z : State} {a0 : Array Value} (hw : ∀ d ∈ tables_1, d.before a0 Z = true) : ∀ a ∈ Bundle.stringAtoms, a.before a0 Z = true := fun a ha => by
  simp only [Bundle.stringAtoms, List.mem_cons, List.not_mem_nil, or_false] at ha
  rcases ha with rfl | rfl | rfl | rfl | rfl | rfl | rfl
  · exact (wq hw 49 rfl)
  · exact (wq hw 48 rfl)
  · exact (wq hw 74 rfl)
  · exact (wq hw 84 rfl)
  · exact (wq hw 82 rfl)
  · exact (wq hw 126 rfl)
  · exact (wq hw 127 rfl)
/-- the i-th of D -/
def own_at (D : List Int32) (i : Int32) : Int32 := D.getD i.toNatClampNeg 0
theorem own_atv (D : List Int32) (i : Int32) : (D.map Value.int).getD i.toNatClampNeg (.int 0) = .int (own_at D i) := by
  simp only [own_at, List.getD_eq_getElem?_getD, List.getElem?_map]
  cases D[i.toNatClampNeg]? <;> rfl
theorem own_atm {D : List Int32} (h : ∀ d ∈ D, ¬ d < (0 : Int32) ∧ ¬ (255 : Int32) < d) (i : Int32) : ¬ own_at D i < (0 : Int32) ∧ ¬ (255 : Int32) < own_at D i := by
  simp only [own_at, List.getD_eq_getElem?_getD]
  cases e : D[i.toNatClampNeg]? with
  | none => decide
  | some d => exact h d (List.mem_of_getElem? e)
theorem own_land (x : Int64) : (x &&& (255 : Int64)).toInt32 = x.toInt32 &&& (255 : Int32) := by rw [Int64.toInt32_and]; rfl
theorem own_pos (k : Int32) : 0 ≤ (k &&& 2147483647).toInt := by
  have h : (k &&& 2147483647).toBitVec.toNat ≤ 2147483647 := by
    rw [Int32.toBitVec_and, BitVec.toNat_and]; exact Nat.and_le_right
  show 0 ≤ (k &&& 2147483647).toBitVec.toInt
  rw [BitVec.toInt_eq_toNat_of_lt (by omega)]; omega
theorem own_rem (k z : Int32) (hz : 0 < z.toInt) : 0 ≤ ((k &&& 2147483647) % z).toInt ∧ ((k &&& 2147483647) % z).toInt < z.toInt := by
  have h1 := Int32.toInt_mod (k &&& 2147483647) z
  rw [Int.tmod_eq_emod_of_nonneg (own_pos k)] at h1
  have h4 := Int.emod_nonneg (k &&& 2147483647).toInt (show z.toInt ≠ 0 by omega)
  have h5 := Int.emod_lt_of_pos (k &&& 2147483647).toInt hz
  omega
theorem own_r1 (k : Int32) : (k &&& (2147483647 : Int32)) % (1 : Int32) = (0 : Int32) := by
  have h := own_rem k 1 (by decide)
  have e : (1 : Int32).toInt = 1 := by decide
  rw [e] at h
  simp only [← Int32.toInt_inj, show (0 : Int32).toInt = 0 from rfl]
  omega
theorem own_r2 (k : Int32) : (k &&& (2147483647 : Int32)) % (2 : Int32) = (0 : Int32) ∨ (k &&& (2147483647 : Int32)) % (2 : Int32) = (1 : Int32) := by
  have h := own_rem k 2 (by decide)
  have e : (2 : Int32).toInt = 2 := by decide
  rw [e] at h
  simp only [← Int32.toInt_inj, show (0 : Int32).toInt = 0 from rfl, show (1 : Int32).toInt = 1 from rfl]
  omega
theorem own_r3 (k : Int32) : (k &&& (2147483647 : Int32)) % (3 : Int32) = (0 : Int32) ∨ (k &&& (2147483647 : Int32)) % (3 : Int32) = (1 : Int32) ∨ (k &&& (2147483647 : Int32)) % (3 : Int32) = (2 : Int32) := by
  have h := own_rem k 3 (by decide)
  have e : (3 : Int32).toInt = 3 := by decide
  rw [e] at h
  simp only [← Int32.toInt_inj, show (0 : Int32).toInt = 0 from rfl, show (1 : Int32).toInt = 1 from rfl, show (2 : Int32).toInt = 2 from rfl]
  omega
theorem own_r4 (k : Int32) : (k &&& (2147483647 : Int32)) % (4 : Int32) = (0 : Int32) ∨ (k &&& (2147483647 : Int32)) % (4 : Int32) = (1 : Int32) ∨ (k &&& (2147483647 : Int32)) % (4 : Int32) = (2 : Int32) ∨ (k &&& (2147483647 : Int32)) % (4 : Int32) = (3 : Int32) := by
  have h := own_rem k 4 (by decide)
  have e : (4 : Int32).toInt = 4 := by decide
  rw [e] at h
  simp only [← Int32.toInt_inj, show (0 : Int32).toInt = 0 from rfl, show (1 : Int32).toInt = 1 from rfl, show (2 : Int32).toInt = 2 from rfl, show (3 : Int32).toInt = 3 from rfl]
  omega
theorem own_r5 (k : Int32) : (k &&& (2147483647 : Int32)) % (5 : Int32) = (0 : Int32) ∨ (k &&& (2147483647 : Int32)) % (5 : Int32) = (1 : Int32) ∨ (k &&& (2147483647 : Int32)) % (5 : Int32) = (2 : Int32) ∨ (k &&& (2147483647 : Int32)) % (5 : Int32) = (3 : Int32) ∨ (k &&& (2147483647 : Int32)) % (5 : Int32) = (4 : Int32) := by
  have h := own_rem k 5 (by decide)
  have e : (5 : Int32).toInt = 5 := by decide
  rw [e] at h
  simp only [← Int32.toInt_inj, show (0 : Int32).toInt = 0 from rfl, show (1 : Int32).toInt = 1 from rfl, show (2 : Int32).toInt = 2 from rfl, show (3 : Int32).toInt = 3 from rfl, show (4 : Int32).toInt = 4 from rfl]
  omega
theorem own_r6 (k : Int32) : (k &&& (2147483647 : Int32)) % (6 : Int32) = (0 : Int32) ∨ (k &&& (2147483647 : Int32)) % (6 : Int32) = (1 : Int32) ∨ (k &&& (2147483647 : Int32)) % (6 : Int32) = (2 : Int32) ∨ (k &&& (2147483647 : Int32)) % (6 : Int32) = (3 : Int32) ∨ (k &&& (2147483647 : Int32)) % (6 : Int32) = (4 : Int32) ∨ (k &&& (2147483647 : Int32)) % (6 : Int32) = (5 : Int32) := by
  have h := own_rem k 6 (by decide)
  have e : (6 : Int32).toInt = 6 := by decide
  rw [e] at h
  simp only [← Int32.toInt_inj, show (0 : Int32).toInt = 0 from rfl, show (1 : Int32).toInt = 1 from rfl, show (2 : Int32).toInt = 2 from rfl, show (3 : Int32).toInt = 3 from rfl, show (4 : Int32).toInt = 4 from rfl, show (5 : Int32).toInt = 5 from rfl]
  omega
theorem own_r7 (k : Int32) : (k &&& (2147483647 : Int32)) % (7 : Int32) = (0 : Int32) ∨ (k &&& (2147483647 : Int32)) % (7 : Int32) = (1 : Int32) ∨ (k &&& (2147483647 : Int32)) % (7 : Int32) = (2 : Int32) ∨ (k &&& (2147483647 : Int32)) % (7 : Int32) = (3 : Int32) ∨ (k &&& (2147483647 : Int32)) % (7 : Int32) = (4 : Int32) ∨ (k &&& (2147483647 : Int32)) % (7 : Int32) = (5 : Int32) ∨ (k &&& (2147483647 : Int32)) % (7 : Int32) = (6 : Int32) := by
  have h := own_rem k 7 (by decide)
  have e : (7 : Int32).toInt = 7 := by decide
  rw [e] at h
  simp only [← Int32.toInt_inj, show (0 : Int32).toInt = 0 from rfl, show (1 : Int32).toInt = 1 from rfl, show (2 : Int32).toInt = 2 from rfl, show (3 : Int32).toInt = 3 from rfl, show (4 : Int32).toInt = 4 from rfl, show (5 : Int32).toInt = 5 from rfl, show (6 : Int32).toInt = 6 from rfl]
  omega
def own_f (p : Int32) : Int32 := (p &&& (2147483647 : Int32)) % (7 : Int32)
def own_e (p q : Int32) : Int32 := own_f p + (q &&& (2147483647 : Int32)) % ((7 : Int32) - own_f p)
theorem own_len (p q : Int32) : (own_e p q - own_f p = (0 : Int32) ∧ (own_f p = (0 : Int32) ∨ own_f p = (1 : Int32) ∨ own_f p = (2 : Int32) ∨ own_f p = (3 : Int32) ∨ own_f p = (4 : Int32) ∨ own_f p = (5 : Int32) ∨ own_f p = (6 : Int32))) ∨ (own_e p q - own_f p = (1 : Int32) ∧ (own_f p = (0 : Int32) ∨ own_f p = (1 : Int32) ∨ own_f p = (2 : Int32) ∨ own_f p = (3 : Int32) ∨ own_f p = (4 : Int32) ∨ own_f p = (5 : Int32))) ∨ (own_e p q - own_f p = (2 : Int32) ∧ (own_f p = (0 : Int32) ∨ own_f p = (1 : Int32) ∨ own_f p = (2 : Int32) ∨ own_f p = (3 : Int32) ∨ own_f p = (4 : Int32))) ∨ (own_e p q - own_f p = (3 : Int32) ∧ (own_f p = (0 : Int32) ∨ own_f p = (1 : Int32) ∨ own_f p = (2 : Int32) ∨ own_f p = (3 : Int32))) ∨ (own_e p q - own_f p = (4 : Int32) ∧ (own_f p = (0 : Int32) ∨ own_f p = (1 : Int32) ∨ own_f p = (2 : Int32))) ∨ (own_e p q - own_f p = (5 : Int32) ∧ (own_f p = (0 : Int32) ∨ own_f p = (1 : Int32))) ∨ (own_e p q - own_f p = (6 : Int32) ∧ (own_f p = (0 : Int32))) := by
  unfold own_e; have hp := own_r7 p; change own_f p = (0 : Int32) ∨ own_f p = (1 : Int32) ∨ own_f p = (2 : Int32) ∨ own_f p = (3 : Int32) ∨ own_f p = (4 : Int32) ∨ own_f p = (5 : Int32) ∨ own_f p = (6 : Int32) at hp
  rcases hp with h | h | h | h | h | h | h
  · rcases own_r7 q with g | g | g | g | g | g | g
    · rw [h, show (7 : Int32) - (0 : Int32) = (7 : Int32) from rfl, g]; decide
    · rw [h, show (7 : Int32) - (0 : Int32) = (7 : Int32) from rfl, g]; decide
    · rw [h, show (7 : Int32) - (0 : Int32) = (7 : Int32) from rfl, g]; decide
    · rw [h, show (7 : Int32) - (0 : Int32) = (7 : Int32) from rfl, g]; decide
    · rw [h, show (7 : Int32) - (0 : Int32) = (7 : Int32) from rfl, g]; decide
    · rw [h, show (7 : Int32) - (0 : Int32) = (7 : Int32) from rfl, g]; decide
    · rw [h, show (7 : Int32) - (0 : Int32) = (7 : Int32) from rfl, g]; decide
  · rcases own_r6 q with g | g | g | g | g | g
    · rw [h, show (7 : Int32) - (1 : Int32) = (6 : Int32) from rfl, g]; decide
    · rw [h, show (7 : Int32) - (1 : Int32) = (6 : Int32) from rfl, g]; decide
    · rw [h, show (7 : Int32) - (1 : Int32) = (6 : Int32) from rfl, g]; decide
    · rw [h, show (7 : Int32) - (1 : Int32) = (6 : Int32) from rfl, g]; decide
    · rw [h, show (7 : Int32) - (1 : Int32) = (6 : Int32) from rfl, g]; decide
    · rw [h, show (7 : Int32) - (1 : Int32) = (6 : Int32) from rfl, g]; decide
  · rcases own_r5 q with g | g | g | g | g
    · rw [h, show (7 : Int32) - (2 : Int32) = (5 : Int32) from rfl, g]; decide
    · rw [h, show (7 : Int32) - (2 : Int32) = (5 : Int32) from rfl, g]; decide
    · rw [h, show (7 : Int32) - (2 : Int32) = (5 : Int32) from rfl, g]; decide
    · rw [h, show (7 : Int32) - (2 : Int32) = (5 : Int32) from rfl, g]; decide
    · rw [h, show (7 : Int32) - (2 : Int32) = (5 : Int32) from rfl, g]; decide
  · rcases own_r4 q with g | g | g | g
    · rw [h, show (7 : Int32) - (3 : Int32) = (4 : Int32) from rfl, g]; decide
    · rw [h, show (7 : Int32) - (3 : Int32) = (4 : Int32) from rfl, g]; decide
    · rw [h, show (7 : Int32) - (3 : Int32) = (4 : Int32) from rfl, g]; decide
    · rw [h, show (7 : Int32) - (3 : Int32) = (4 : Int32) from rfl, g]; decide
  · rcases own_r3 q with g | g | g
    · rw [h, show (7 : Int32) - (4 : Int32) = (3 : Int32) from rfl, g]; decide
    · rw [h, show (7 : Int32) - (4 : Int32) = (3 : Int32) from rfl, g]; decide
    · rw [h, show (7 : Int32) - (4 : Int32) = (3 : Int32) from rfl, g]; decide
  · rcases own_r2 q with g | g
    · rw [h, show (7 : Int32) - (5 : Int32) = (2 : Int32) from rfl, g]; decide
    · rw [h, show (7 : Int32) - (5 : Int32) = (2 : Int32) from rfl, g]; decide
  · rcases own_r1 q with g
    · rw [h, show (7 : Int32) - (6 : Int32) = (1 : Int32) from rfl, g]; decide
theorem own_sub {e f n : Int32} (h : e - f = n) : e = n + f := by rw [← h, Int32.sub_add_cancel]
theorem d_method_2_code_0 : decode method_2_code 0 = .ok (.lload_n 0, 1) := by decide +kernel
theorem d_method_2_code_1 : decode method_2_code 1 = .ok (.bipush 8, 2) := by decide +kernel
theorem d_method_2_code_3 : decode method_2_code 3 = .ok (.iload_n 2, 1) := by decide +kernel
theorem d_method_2_code_4 : decode method_2_code 4 = .ok (.imul, 1) := by decide +kernel
theorem d_method_2_code_5 : decode method_2_code 5 = .ok (.lushr, 1) := by decide +kernel
theorem d_method_2_code_6 : decode method_2_code 6 = .ok (.ldc2_w 7, 3) := by decide +kernel
theorem d_method_2_code_9 : decode method_2_code 9 = .ok (.land, 1) := by decide +kernel
theorem d_method_2_code_10 : decode method_2_code 10 = .ok (.l2i, 1) := by decide +kernel
theorem d_method_2_code_11 : decode method_2_code 11 = .ok (.i2c, 1) := by decide +kernel
theorem d_method_2_code_12 : decode method_2_code 12 = .ok (.ireturn, 1) := by decide +kernel
theorem pn_0 : plainName "strikebound/cli/InPlaceTextSetPinLaw" = true := by first | (simp [plainName, overriddenIn]; done) | decide +kernel
set_option maxRecDepth 65536 in
set_option maxHeartbeats 40000000 in
theorem rm_ch (l : Launch) (Z : State) (a0 : Array Value) (hw : ∀ d ∈ tables_1, d.before a0 Z = true) (c : Int64) (j : Int32) (h0 : Heap) (n0 : Nat) (hn0 : n0 ≤ h0.size)  :
    Con l Z (⟨"strikebound/cli/InPlaceTextSetPinLaw", "ch", "(JI)C"⟩ : MethodName) method_2_code 3 (some .char) [] ({ frames := 0, cells := 0, slots := 0, locals := 0 } : Room) #[(.long c), (.int j)] h0 (fun v h L => ∃ r : Int32, v = some (.int r) ∧ Fr n0 L ∧ h = h0 ∧ ¬ r < (0 : Int32) ∧ ¬ (255 : Int32) < r) := by
  refine enter (Ls := #[.val (.long c), .second, .val (.int j)]) (plainFor_of_name pn_0) (fun m => by exact entry_eq rfl) ?_
  intro p e s m below meth cd_ s₁ S0 hx hby hml hret hlk hnm hown hZ X0 e0 k0
  have N0 := Fr.nil n0
  have k1 : To p.tables e below S0 (s₁.setTop (mkF m 11 #[.val (.long c), .second, .val (.int j)] [(.int ((((c.toUInt64 >>> (((8 : Int32) * j) &&& 0x3f).toInt64.toUInt64).toInt64) &&& (255 : Int64)).toInt32))])) := fun tt hq => k0 tt (by
    refine XS.lloadN X0.here hx rfl (hb hby d_method_2_code_0) rfl ?_
    refine XS.bipush X0.here hx rfl (hb hby d_method_2_code_1) ?_
    refine XS.iloadN X0.here hx rfl (hb hby d_method_2_code_3) rfl ?_
    refine XS.imul X0.here hx rfl (hb hby d_method_2_code_4) rfl ?_
    refine XS.lushr X0.here hx rfl (hb hby d_method_2_code_5) rfl ?_
    refine X0.ldc2Long hx hown (mvT hZ (wq hw 5 rfl)) (g := (mkF m 6 #[.val (.long c), .second, .val (.int j)] [(.long ((c.toUInt64 >>> (((8 : Int32) * j) &&& 0x3f).toInt64.toUInt64).toInt64))])) rfl (hb hby d_method_2_code_6) _ ?_
    refine XS.land X0.here hx rfl (hb hby d_method_2_code_9) rfl ?_
    refine XS.l2i X0.here hx rfl (hb hby d_method_2_code_10) rfl ?_
    exact hq)
  have k2 : To p.tables e below S0 (s₁.setTop (mkF m 11 #[.val (.long c), .second, .val (.int j)] [(.int (((c.toUInt64 >>> (((8 : Int32) * j) &&& 0x3f).toInt64.toUInt64).toInt64).toInt32 &&& (255 : Int32)))])) := by have hq := k1; rw [own_land] at hq; exact hq
  have k3 : To p.tables e below S0 (s₁.setTop (mkF m 12 #[.val (.long c), .second, .val (.int j)] [(.int ((((c.toUInt64 >>> (((8 : Int32) * j) &&& 0x3f).toInt64.toUInt64).toInt64).toInt32 &&& (255 : Int32)).toUInt32.toUInt16.toUInt32.toInt32))])) := fun tt hq => k2 tt (by
    refine XS.i2c X0.here hx rfl (hb hby d_method_2_code_11) rfl ?_
    exact hq)
  have k4 : To p.tables e below S0 (s₁.setTop (mkF m 12 #[.val (.long c), .second, .val (.int j)] [(.int (((c.toUInt64 >>> (((8 : Int32) * j) &&& 0x3f).toInt64.toUInt64).toInt64).toInt32 &&& (255 : Int32)))])) := by have hq := k3; rw [i2c_mask] at hq; exact hq
  obtain ⟨v5, hv5⟩ : ∃ z : Int32, z = (((c.toUInt64 >>> (((8 : Int32) * j) &&& 0x3f).toInt64.toUInt64).toInt64).toInt32 &&& (255 : Int32)) := ⟨_, rfl⟩
  have k5 : To p.tables e below S0 (s₁.setTop (mkF m 12 #[.val (.long c), .second, .val (.int j)] [(.int v5)])) := by rw [hv5]; exact k4
  have mv5 : ¬ v5 < (0 : Int32) ∧ ¬ (255 : Int32) < v5 := by rw [hv5]; exact own_m255 _
  have hE := e0
  refine retInt X0 hx hret hlk (by simp) (congrArg Value.int (own_narc mv5)) (hb hby d_method_2_code_12) k5 ?_ (by decide) (by decide)
  try rw [hE]
  exact ⟨_, rfl, N0, rfl, mv5⟩
theorem d_prog_26_method_1_code_0 : decode prog_26_method_1_code 0 = .ok (.aload_n 0, 1) := by decide +kernel
theorem d_prog_26_method_1_code_1 : decode prog_26_method_1_code 1 = .ok (.invokespecial 1, 3) := by decide +kernel
theorem d_prog_26_method_1_code_4 : decode prog_26_method_1_code 4 = .ok (.aload_n 0, 1) := by decide +kernel
theorem d_prog_26_method_1_code_5 : decode prog_26_method_1_code 5 = .ok (.iconst 0, 1) := by decide +kernel
theorem d_prog_26_method_1_code_6 : decode prog_26_method_1_code 6 = .ok (.newarray .char, 2) := by decide +kernel
theorem d_prog_26_method_1_code_8 : decode prog_26_method_1_code 8 = .ok (.putfield 7, 3) := by decide +kernel
theorem d_prog_26_method_1_code_11 : decode prog_26_method_1_code 11 = .ok (.return_, 1) := by decide +kernel
theorem pn_1 : plainName "strikebound/cli/InPlaceText" = true := by first | (simp [plainName, overriddenIn]; done) | decide +kernel
set_option maxRecDepth 65536 in
set_option maxHeartbeats 40000000 in
theorem rm_ii (l : Launch) (Z : State) (a0 : Array Value) (hw : ∀ d ∈ tables_1, d.before a0 Z = true) (a : Addr) (h0 : Heap) (n0 : Nat) (hn0 : n0 ≤ h0.size) (P0 : Exa Z h0 a "strikebound/cli/InPlaceText") (P1 : Fld Z h0 a "strikebound/cli/InPlaceText" "chars" "[C" .null) (P2 : Fld Z h0 a "strikebound/cli/InPlaceText" "start" "I" (.int (0 : Int32))) (P3 : Fld Z h0 a "strikebound/cli/InPlaceText" "length" "I" (.int (0 : Int32))) (ga : n0 ≤ a) (ya : @LT.lt Nat instLTNat a h0.size) :
    Con l Z (⟨"strikebound/cli/InPlaceText", "<init>", "()V"⟩ : MethodName) prog_26_method_1_code 1 none [] ({ frames := 1, cells := 1, slots := 0, locals := 12 } : Room) #[(.ref a)] h0 (fun v h L => ∃ u : Addr, v = none ∧ Fr n0 L ∧ Keep h0 h [a] ∧ Exa Z h a "strikebound/cli/InPlaceText" ∧ Fld Z h a "strikebound/cli/InPlaceText" "chars" "[C" (.ref u) ∧ Fld Z h a "strikebound/cli/InPlaceText" "start" "I" (.int (0 : Int32)) ∧ Fld Z h a "strikebound/cli/InPlaceText" "length" "I" (.int (0 : Int32))) := by
  refine enter (Ls := #[.val (.ref a)]) (plainFor_of_name pn_1) (fun m => by exact entry_eq rfl) ?_
  intro p e s m below meth cd_ s₁ S0 hx hby hml hret hlk hnm hown hZ X0 e0 k0
  have N0 := Fr.nil n0
  have k1 : To p.tables e below S0 (s₁.setTop (mkF m 1 #[.val (.ref a)] [(.ref a)])) := fun tt hq => k0 tt (by
    refine XS.aloadN X0.here hx rfl (hb hby d_prog_26_method_1_code_0) rfl rfl ?_
    exact hq)
  obtain ⟨T2, X2, e2, st2⟩ := initO X0 hx hZ hown (wq hw 13 rfl) (wq hw 14 rfl) (wq hw 15 rfl) e0 (g := (mkF m 1 #[.val (.ref a)] [(.ref a)])) rfl (by rw [hml]; rfl) rfl (hb hby d_prog_26_method_1_code_1) (by decide) (W := 0) (by show 2 * 0 + _ ≤ _; exact Nat.le_of_eq rfl) (by decide)
  have k2 : To p.tables e below S0 (T2.setTop (mkF m 4 #[.val (.ref a)] [])) := fun tt hq => k1 tt (st2 tt hq)
  have k3 : To p.tables e below S0 (T2.setTop (mkF m 6 #[.val (.ref a)] [(.int (0 : Int32)), (.ref a)])) := fun tt hq => k2 tt (by
    refine XS.aloadN X2.here hx rfl (hb hby d_prog_26_method_1_code_4) rfl rfl ?_
    refine XS.iconst X2.here hx rfl (hb hby d_prog_26_method_1_code_5) ?_
    exact hq)
  obtain ⟨T4, h4, c4, X4, e4, E4, A4, st4⟩ := newP X2 hx hZ (wq hw 0 rfl) e2 (g := (mkF m 6 #[.val (.ref a)] [(.int (0 : Int32)), (.ref a)])) rfl (hb hby d_prog_26_method_1_code_6) rfl (by decide) (cap := 0) (by decide) (by decide) (by decide) (by decide)
  obtain ⟨b4, g4⟩ : ∃ z, z = h0.size := ⟨_, rfl⟩
  rw [← g4] at A4 st4
  have k4 : To p.tables e below S0 (T4.setTop (mkF m 8 #[.val (.ref a)] [(.ref b4), (.ref a)])) := fun tt hq => k3 tt (st4 tt hq)
  have z4 : h0.size ≤ h4.size := E4.1
  have V4 : Arv Z h4 b4 c4 .char (0 : Int32) [] (.int (0 : Int32)) := (Arv.new A4 (by decide)).pad (pad_rep [] (.int (0 : Int32)) 0)
  have y4 : @LT.lt Nat instLTNat b4 h4.size := V4.lt
  have f5 : Exa Z h4 a "strikebound/cli/InPlaceText" := (P0.ext E4)
  have f6 : Fld Z h4 a "strikebound/cli/InPlaceText" "chars" "[C" .null := (P1.ext E4)
  obtain ⟨T7, h7, X7, e7, W7, st7⟩ := putF X4 hx hZ hown (host := "") (Or.inl (wq hw 16 rfl)) Via.refl e4 f6 f5 (Or.inl (wq hw 17 rfl)) (wq hw 8 rfl) (ty := (.array .char)) (by decide) rfl rfl (g := (mkF m 8 #[.val (.ref a)] [(.ref b4), (.ref a)])) rfl rfl (hb hby d_prog_26_method_1_code_8)
  have k7 : To p.tables e below S0 (T7.setTop (mkF m 11 #[.val (.ref a)] [])) := fun tt hq => k4 tt (st7 tt hq)
  have z7 : h7.size = h4.size := W7.size
  have F7 := f6.same W7
  have N7 := Fr.snoc X7 N0 (by omega : n0 ≤ a)
  have f8 : Exa Z h7 a "strikebound/cli/InPlaceText" := (f5.wr W7)
  have f9 : Fld Z h7 a "strikebound/cli/InPlaceText" "start" "I" (.int (0 : Int32)) := ((P2.ext E4).other W7 (Or.inr (slot_ne (Or.inl (wq hw 24 rfl)) (Or.inl (wq hw 17 rfl)) (by decide) (t := .int) (t' := (.array .char)) (by decide) (by decide))))
  have f10 : Fld Z h7 a "strikebound/cli/InPlaceText" "length" "I" (.int (0 : Int32)) := ((P3.ext E4).other W7 (Or.inr (slot_ne (Or.inl (wq hw 26 rfl)) (Or.inl (wq hw 17 rfl)) (by decide) (t := .int) (t' := (.array .char)) (by decide) (by decide))))
  have hE := e7
  refine retVoid X7 hx hret hlk (hb hby d_prog_26_method_1_code_11) k7 ?_ (by decide) (by decide)
  try rw [hE]
  exact ⟨_, rfl, N7, (((Keep.refl h0 [a]).ext E4).wr W7 (Or.inl (by simp))), f8, F7, f9, f10⟩
theorem d_prog_26_method_2_code_0 : decode prog_26_method_2_code 0 = .ok (.aload_n 0, 1) := by decide +kernel
theorem d_prog_26_method_2_code_1 : decode prog_26_method_2_code 1 = .ok (.aload_n 1, 1) := by decide +kernel
theorem d_prog_26_method_2_code_2 : decode prog_26_method_2_code 2 = .ok (.putfield 7, 3) := by decide +kernel
theorem d_prog_26_method_2_code_5 : decode prog_26_method_2_code 5 = .ok (.aload_n 0, 1) := by decide +kernel
theorem d_prog_26_method_2_code_6 : decode prog_26_method_2_code 6 = .ok (.iload_n 2, 1) := by decide +kernel
theorem d_prog_26_method_2_code_7 : decode prog_26_method_2_code 7 = .ok (.putfield 13, 3) := by decide +kernel
theorem d_prog_26_method_2_code_10 : decode prog_26_method_2_code 10 = .ok (.aload_n 0, 1) := by decide +kernel
theorem d_prog_26_method_2_code_11 : decode prog_26_method_2_code 11 = .ok (.iload_n 3, 1) := by decide +kernel
theorem d_prog_26_method_2_code_12 : decode prog_26_method_2_code 12 = .ok (.iload_n 2, 1) := by decide +kernel
theorem d_prog_26_method_2_code_13 : decode prog_26_method_2_code 13 = .ok (.isub, 1) := by decide +kernel
theorem d_prog_26_method_2_code_14 : decode prog_26_method_2_code 14 = .ok (.putfield 17, 3) := by decide +kernel
theorem d_prog_26_method_2_code_17 : decode prog_26_method_2_code 17 = .ok (.return_, 1) := by decide +kernel
set_option maxRecDepth 65536 in
set_option maxHeartbeats 40000000 in
theorem rm_set (l : Launch) (Z : State) (a0 : Array Value) (hw : ∀ d ∈ tables_1, d.before a0 Z = true) (a : Addr) (b : Addr) (i : Int32) (j : Int32) (r : Int32) (u : Addr) (x1 : Int32) (x2 : Int32) (h0 : Heap) (n0 : Nat) (hn0 : n0 ≤ h0.size) (P0 : Exa Z h0 a "strikebound/cli/InPlaceText") (P1 : Fld Z h0 a "strikebound/cli/InPlaceText" "chars" "[C" (.ref u)) (P2 : Fld Z h0 a "strikebound/cli/InPlaceText" "start" "I" (.int x1)) (P3 : Fld Z h0 a "strikebound/cli/InPlaceText" "length" "I" (.int x2)) (ga : n0 ≤ a) (hr : j - i = r) :
    Con l Z (⟨"strikebound/cli/InPlaceText", "set", "([CII)V"⟩ : MethodName) prog_26_method_2_code 4 none [] ({ frames := 0, cells := 0, slots := 0, locals := 0 } : Room) #[(.ref a), (.ref b), (.int i), (.int j)] h0 (fun v h L => v = none ∧ Fr n0 L ∧ Keep h0 h [a] ∧ Exa Z h a "strikebound/cli/InPlaceText" ∧ Fld Z h a "strikebound/cli/InPlaceText" "chars" "[C" (.ref b) ∧ Fld Z h a "strikebound/cli/InPlaceText" "start" "I" (.int i) ∧ Fld Z h a "strikebound/cli/InPlaceText" "length" "I" (.int r)) := by
  refine enter (Ls := #[.val (.ref a), .val (.ref b), .val (.int i), .val (.int j)]) (plainFor_of_name pn_1) (fun m => by exact entry_eq rfl) ?_
  intro p e s m below meth cd_ s₁ S0 hx hby hml hret hlk hnm hown hZ X0 e0 k0
  have N0 := Fr.nil n0
  have k1 : To p.tables e below S0 (s₁.setTop (mkF m 2 #[.val (.ref a), .val (.ref b), .val (.int i), .val (.int j)] [(.ref b), (.ref a)])) := fun tt hq => k0 tt (by
    refine XS.aloadN X0.here hx rfl (hb hby d_prog_26_method_2_code_0) rfl rfl ?_
    refine XS.aloadN X0.here hx rfl (hb hby d_prog_26_method_2_code_1) rfl rfl ?_
    exact hq)
  obtain ⟨T2, h2, X2, e2, W2, st2⟩ := putF X0 hx hZ hown (host := "") (Or.inl (wq hw 16 rfl)) Via.refl e0 P1 P0 (Or.inl (wq hw 17 rfl)) (wq hw 8 rfl) (ty := (.array .char)) (by decide) rfl rfl (g := (mkF m 2 #[.val (.ref a), .val (.ref b), .val (.int i), .val (.int j)] [(.ref b), (.ref a)])) rfl rfl (hb hby d_prog_26_method_2_code_2)
  have k2 : To p.tables e below S0 (T2.setTop (mkF m 5 #[.val (.ref a), .val (.ref b), .val (.int i), .val (.int j)] [])) := fun tt hq => k1 tt (st2 tt hq)
  have z2 : h2.size = h0.size := W2.size
  have F2 := P1.same W2
  have N2 := Fr.snoc X2 N0 (by omega : n0 ≤ a)
  have f3 : Exa Z h2 a "strikebound/cli/InPlaceText" := (P0.wr W2)
  have f4 : Fld Z h2 a "strikebound/cli/InPlaceText" "start" "I" (.int x1) := (P2.other W2 (Or.inr (slot_ne (Or.inl (wq hw 24 rfl)) (Or.inl (wq hw 17 rfl)) (by decide) (t := .int) (t' := (.array .char)) (by decide) (by decide))))
  have k5 : To p.tables e below S0 (T2.setTop (mkF m 7 #[.val (.ref a), .val (.ref b), .val (.int i), .val (.int j)] [(.int i), (.ref a)])) := fun tt hq => k2 tt (by
    refine XS.aloadN X2.here hx rfl (hb hby d_prog_26_method_2_code_5) rfl rfl ?_
    refine XS.iloadN X2.here hx rfl (hb hby d_prog_26_method_2_code_6) rfl ?_
    exact hq)
  obtain ⟨T6, h6, X6, e6, W6, st6⟩ := putF X2 hx hZ hown (host := "") (Or.inl (wq hw 23 rfl)) Via.refl e2 f4 f3 (Or.inl (wq hw 24 rfl)) (wq hw 8 rfl) (ty := .int) (by decide) rfl rfl (g := (mkF m 7 #[.val (.ref a), .val (.ref b), .val (.int i), .val (.int j)] [(.int i), (.ref a)])) rfl rfl (hb hby d_prog_26_method_2_code_7)
  have k6 : To p.tables e below S0 (T6.setTop (mkF m 10 #[.val (.ref a), .val (.ref b), .val (.int i), .val (.int j)] [])) := fun tt hq => k5 tt (st6 tt hq)
  have z6 : h6.size = h2.size := W6.size
  have F6 := f4.same W6
  have N6 := Fr.snoc X6 N2 (by omega : n0 ≤ a)
  have f7 : Exa Z h6 a "strikebound/cli/InPlaceText" := (f3.wr W6)
  have f8 : Fld Z h6 a "strikebound/cli/InPlaceText" "length" "I" (.int x2) := ((P3.other W2 (Or.inr (slot_ne (Or.inl (wq hw 26 rfl)) (Or.inl (wq hw 17 rfl)) (by decide) (t := .int) (t' := (.array .char)) (by decide) (by decide)))).other W6 (Or.inr (slot_ne (Or.inl (wq hw 26 rfl)) (Or.inl (wq hw 24 rfl)) (by decide) (t := .int) (t' := .int) (by decide) (by decide))))
  have k9 : To p.tables e below S0 (T6.setTop (mkF m 14 #[.val (.ref a), .val (.ref b), .val (.int i), .val (.int j)] [(.int (j - i)), (.ref a)])) := fun tt hq => k6 tt (by
    refine XS.aloadN X6.here hx rfl (hb hby d_prog_26_method_2_code_10) rfl rfl ?_
    refine XS.iloadN X6.here hx rfl (hb hby d_prog_26_method_2_code_11) rfl ?_
    refine XS.iloadN X6.here hx rfl (hb hby d_prog_26_method_2_code_12) rfl ?_
    refine XS.isub X6.here hx rfl (hb hby d_prog_26_method_2_code_13) rfl ?_
    exact hq)
  obtain ⟨T10, h10, X10, e10, W10, st10⟩ := putF X6 hx hZ hown (host := "") (Or.inl (wq hw 25 rfl)) Via.refl e6 f8 f7 (Or.inl (wq hw 26 rfl)) (wq hw 8 rfl) (ty := .int) (by decide) rfl rfl (g := (mkF m 14 #[.val (.ref a), .val (.ref b), .val (.int i), .val (.int j)] [(.int (j - i)), (.ref a)])) rfl rfl (hb hby d_prog_26_method_2_code_14)
  have k10 : To p.tables e below S0 (T10.setTop (mkF m 17 #[.val (.ref a), .val (.ref b), .val (.int i), .val (.int j)] [])) := fun tt hq => k9 tt (st10 tt hq)
  have z10 : h10.size = h6.size := W10.size
  have F10 := f8.same W10
  have N10 := Fr.snoc X10 N6 (by omega : n0 ≤ a)
  have f11 : Exa Z h10 a "strikebound/cli/InPlaceText" := (f7.wr W10)
  have f12 : Fld Z h10 a "strikebound/cli/InPlaceText" "chars" "[C" (.ref b) := ((F2.other W6 (Or.inr (slot_ne (Or.inl (wq hw 17 rfl)) (Or.inl (wq hw 24 rfl)) (by decide) (t := (.array .char)) (t' := .int) (by decide) (by decide)))).other W10 (Or.inr (slot_ne (Or.inl (wq hw 17 rfl)) (Or.inl (wq hw 26 rfl)) (by decide) (t := (.array .char)) (t' := .int) (by decide) (by decide))))
  have f13 : Fld Z h10 a "strikebound/cli/InPlaceText" "start" "I" (.int i) := (F6.other W10 (Or.inr (slot_ne (Or.inl (wq hw 24 rfl)) (Or.inl (wq hw 26 rfl)) (by decide) (t := .int) (t' := .int) (by decide) (by decide))))
  have hE := e10
  refine retVoid X10 hx hret hlk (hb hby d_prog_26_method_2_code_17) k10 ?_ (by decide) (by decide)
  try rw [hE]
  subst hr
  exact ⟨rfl, N10, ((((Keep.refl h0 [a]).wr W2 (Or.inl (by simp))).wr W6 (Or.inl (by simp))).wr W10 (Or.inl (by simp))), f11, f12, f13, F10⟩
theorem d_prog_26_method_3_code_0 : decode prog_26_method_3_code 0 = .ok (.aload_n 0, 1) := by decide +kernel
theorem d_prog_26_method_3_code_1 : decode prog_26_method_3_code 1 = .ok (.getfield 7, 3) := by decide +kernel
theorem d_prog_26_method_3_code_4 : decode prog_26_method_3_code 4 = .ok (.areturn, 1) := by decide +kernel
set_option maxRecDepth 65536 in
set_option maxHeartbeats 40000000 in
theorem rm_garray (l : Launch) (Z : State) (a0 : Array Value) (hw : ∀ d ∈ tables_1, d.before a0 Z = true) (a : Addr) (u : Addr) (h0 : Heap) (n0 : Nat) (hn0 : n0 ≤ h0.size) (F0 : Fld Z h0 a "strikebound/cli/InPlaceText" "chars" "[C" (.ref u)) :
    Con l Z (⟨"strikebound/cli/InPlaceText", "array", "()[C"⟩ : MethodName) prog_26_method_3_code 1 (some (.array .char)) [] ({ frames := 0, cells := 0, slots := 0, locals := 0 } : Room) #[(.ref a)] h0 (fun v h L => v = some (.ref u) ∧ Fr n0 L ∧ h = h0) := by
  refine enter (Ls := #[.val (.ref a)]) (plainFor_of_name pn_1) (fun m => by exact entry_eq rfl) ?_
  intro p e s m below meth cd_ s₁ S0 hx hby hml hret hlk hnm hown hZ X0 e0 k0
  have N0 := Fr.nil n0
  have k1 : To p.tables e below S0 (s₁.setTop (mkF m 1 #[.val (.ref a)] [(.ref a)])) := fun tt hq => k0 tt (by
    refine XS.aloadN X0.here hx rfl (hb hby d_prog_26_method_3_code_0) rfl rfl ?_
    exact hq)
  obtain ⟨T2, X2, e2, st2⟩ := getF X0 hx hZ hown (host := "") (Or.inl (wq hw 16 rfl)) Via.refl e0 F0 (g := (mkF m 1 #[.val (.ref a)] [(.ref a)])) rfl rfl (hb hby d_prog_26_method_3_code_1)
  have k2 : To p.tables e below S0 (T2.setTop (mkF m 4 #[.val (.ref a)] [(.ref u)])) := fun tt hq => k1 tt (st2 tt hq)
  have hE := e2
  refine retRef X2 hx hret hlk rfl rfl (hb hby d_prog_26_method_3_code_4) k2 ?_ (by decide) (by decide)
  try rw [hE]
  exact ⟨rfl, N0, rfl⟩
theorem d_prog_26_method_4_code_0 : decode prog_26_method_4_code 0 = .ok (.aload_n 0, 1) := by decide +kernel
theorem d_prog_26_method_4_code_1 : decode prog_26_method_4_code 1 = .ok (.getfield 13, 3) := by decide +kernel
theorem d_prog_26_method_4_code_4 : decode prog_26_method_4_code 4 = .ok (.ireturn, 1) := by decide +kernel
set_option maxRecDepth 65536 in
set_option maxHeartbeats 40000000 in
theorem rm_gstart (l : Launch) (Z : State) (a0 : Array Value) (hw : ∀ d ∈ tables_1, d.before a0 Z = true) (a : Addr) (u : Int32) (h0 : Heap) (n0 : Nat) (hn0 : n0 ≤ h0.size) (F0 : Fld Z h0 a "strikebound/cli/InPlaceText" "start" "I" (.int u)) :
    Con l Z (⟨"strikebound/cli/InPlaceText", "start", "()I"⟩ : MethodName) prog_26_method_4_code 1 (some .int) [] ({ frames := 0, cells := 0, slots := 0, locals := 0 } : Room) #[(.ref a)] h0 (fun v h L => v = some (.int u) ∧ Fr n0 L ∧ h = h0) := by
  refine enter (Ls := #[.val (.ref a)]) (plainFor_of_name pn_1) (fun m => by exact entry_eq rfl) ?_
  intro p e s m below meth cd_ s₁ S0 hx hby hml hret hlk hnm hown hZ X0 e0 k0
  have N0 := Fr.nil n0
  have k1 : To p.tables e below S0 (s₁.setTop (mkF m 1 #[.val (.ref a)] [(.ref a)])) := fun tt hq => k0 tt (by
    refine XS.aloadN X0.here hx rfl (hb hby d_prog_26_method_4_code_0) rfl rfl ?_
    exact hq)
  obtain ⟨T2, X2, e2, st2⟩ := getF X0 hx hZ hown (host := "") (Or.inl (wq hw 23 rfl)) Via.refl e0 F0 (g := (mkF m 1 #[.val (.ref a)] [(.ref a)])) rfl rfl (hb hby d_prog_26_method_4_code_1)
  have k2 : To p.tables e below S0 (T2.setTop (mkF m 4 #[.val (.ref a)] [(.int u)])) := fun tt hq => k1 tt (st2 tt hq)
  have hE := e2
  refine retInt X2 hx hret hlk (by simp) rfl (hb hby d_prog_26_method_4_code_4) k2 ?_ (by decide) (by decide)
  try rw [hE]
  exact ⟨rfl, N0, rfl⟩
theorem d_prog_26_method_5_code_0 : decode prog_26_method_5_code 0 = .ok (.aload_n 0, 1) := by decide +kernel
theorem d_prog_26_method_5_code_1 : decode prog_26_method_5_code 1 = .ok (.getfield 17, 3) := by decide +kernel
theorem d_prog_26_method_5_code_4 : decode prog_26_method_5_code 4 = .ok (.ireturn, 1) := by decide +kernel
set_option maxRecDepth 65536 in
set_option maxHeartbeats 40000000 in
theorem rm_glength (l : Launch) (Z : State) (a0 : Array Value) (hw : ∀ d ∈ tables_1, d.before a0 Z = true) (a : Addr) (u : Int32) (h0 : Heap) (n0 : Nat) (hn0 : n0 ≤ h0.size) (F0 : Fld Z h0 a "strikebound/cli/InPlaceText" "length" "I" (.int u)) :
    Con l Z (⟨"strikebound/cli/InPlaceText", "length", "()I"⟩ : MethodName) prog_26_method_5_code 1 (some .int) [] ({ frames := 0, cells := 0, slots := 0, locals := 0 } : Room) #[(.ref a)] h0 (fun v h L => v = some (.int u) ∧ Fr n0 L ∧ h = h0) := by
  refine enter (Ls := #[.val (.ref a)]) (plainFor_of_name pn_1) (fun m => by exact entry_eq rfl) ?_
  intro p e s m below meth cd_ s₁ S0 hx hby hml hret hlk hnm hown hZ X0 e0 k0
  have N0 := Fr.nil n0
  have k1 : To p.tables e below S0 (s₁.setTop (mkF m 1 #[.val (.ref a)] [(.ref a)])) := fun tt hq => k0 tt (by
    refine XS.aloadN X0.here hx rfl (hb hby d_prog_26_method_5_code_0) rfl rfl ?_
    exact hq)
  obtain ⟨T2, X2, e2, st2⟩ := getF X0 hx hZ hown (host := "") (Or.inl (wq hw 25 rfl)) Via.refl e0 F0 (g := (mkF m 1 #[.val (.ref a)] [(.ref a)])) rfl rfl (hb hby d_prog_26_method_5_code_1)
  have k2 : To p.tables e below S0 (T2.setTop (mkF m 4 #[.val (.ref a)] [(.int u)])) := fun tt hq => k1 tt (st2 tt hq)
  have hE := e2
  refine retInt X2 hx hret hlk (by simp) rfl (hb hby d_prog_26_method_5_code_4) k2 ?_ (by decide) (by decide)
  try rw [hE]
  exact ⟨rfl, N0, rfl⟩
theorem d_jdk_41_method_13_code_0 : decode jdk_41_method_13_code 0 = .ok (.iload_n 2, 1) := by decide +kernel
theorem d_jdk_41_method_13_code_1 : decode jdk_41_method_13_code 1 = .ok (.iload_n 0, 1) := by decide +kernel
theorem d_jdk_41_method_13_code_2 : decode jdk_41_method_13_code 2 = .ok (.ior, 1) := by decide +kernel
theorem d_jdk_41_method_13_code_3 : decode jdk_41_method_13_code 3 = .ok (.iload_n 1, 1) := by decide +kernel
theorem d_jdk_41_method_13_code_4 : decode jdk_41_method_13_code 4 = .ok (.ior, 1) := by decide +kernel
theorem d_jdk_41_method_13_code_5 : decode jdk_41_method_13_code 5 = .ok (.ifCond .lt 10, 3) := by decide +kernel
theorem d_jdk_41_method_13_code_8 : decode jdk_41_method_13_code 8 = .ok (.iload_n 1, 1) := by decide +kernel
theorem d_jdk_41_method_13_code_9 : decode jdk_41_method_13_code 9 = .ok (.iload_n 2, 1) := by decide +kernel
theorem d_jdk_41_method_13_code_10 : decode jdk_41_method_13_code 10 = .ok (.iload_n 0, 1) := by decide +kernel
theorem d_jdk_41_method_13_code_11 : decode jdk_41_method_13_code 11 = .ok (.isub, 1) := by decide +kernel
theorem d_jdk_41_method_13_code_12 : decode jdk_41_method_13_code 12 = .ok (.if_icmp .le 11, 3) := by decide +kernel
theorem d_jdk_41_method_13_code_15 : decode jdk_41_method_13_code 15 = .ok (.aload_n 3, 1) := by decide +kernel
theorem d_jdk_41_method_13_code_16 : decode jdk_41_method_13_code 16 = .ok (.iload_n 0, 1) := by decide +kernel
theorem d_jdk_41_method_13_code_17 : decode jdk_41_method_13_code 17 = .ok (.iload_n 1, 1) := by decide +kernel
theorem d_jdk_41_method_13_code_18 : decode jdk_41_method_13_code 18 = .ok (.iload_n 2, 1) := by decide +kernel
theorem d_jdk_41_method_13_code_19 : decode jdk_41_method_13_code 19 = .ok (.invokestatic 103, 3) := by decide +kernel
theorem d_jdk_41_method_13_code_22 : decode jdk_41_method_13_code 22 = .ok (.athrow, 1) := by decide +kernel
theorem d_jdk_41_method_13_code_23 : decode jdk_41_method_13_code 23 = .ok (.iload_n 0, 1) := by decide +kernel
theorem d_jdk_41_method_13_code_24 : decode jdk_41_method_13_code 24 = .ok (.ireturn, 1) := by decide +kernel
theorem pn_2 : plainName "jdk/internal/util/Preconditions" = true := by first | (simp [plainName, overriddenIn]; done) | decide +kernel
set_option maxRecDepth 65536 in
set_option maxHeartbeats 40000000 in
theorem rm_cfs (l : Launch) (Z : State) (a0 : Array Value) (hw : ∀ d ∈ tables_1, d.before a0 Z = true) (i : Int32) (n : Int32) (k : Int32) (fm : Value) (h0 : Heap) (n0 : Nat) (hn0 : n0 ≤ h0.size) (hfm : fm.isRef = true) (q1 : ¬ ((k ||| i) ||| n) < (0 : Int32)) (q2 : ¬ (k - i) < n) :
    Con l Z (⟨"jdk/internal/util/Preconditions", "checkFromIndexSize", "(IIILjava/util/function/BiFunction;)I"⟩ : MethodName) jdk_41_method_13_code 4 (some .int) [] ({ frames := 0, cells := 0, slots := 0, locals := 0 } : Room) #[(.int i), (.int n), (.int k), fm] h0 (fun v h L => v = some (.int i) ∧ Fr n0 L ∧ h = h0) := by
  refine enter (Ls := #[.val (.int i), .val (.int n), .val (.int k), .val fm]) (plainFor_of_name pn_2) (fun m => by rcases ref_cases hfm with rfl | ⟨z, rfl⟩ <;> exact entry_eq rfl) ?_
  intro p e s m below meth cd_ s₁ S0 hx hby hml hret hlk hnm hown hZ X0 e0 k0
  have N0 := Fr.nil n0
  have k1 : To p.tables e below S0 (s₁.setTop (mkF m 24 #[.val (.int i), .val (.int n), .val (.int k), .val fm] [(.int i)])) := fun tt hq => k0 tt (by
    refine XS.iloadN X0.here hx rfl (hb hby d_jdk_41_method_13_code_0) rfl ?_
    refine XS.iloadN X0.here hx rfl (hb hby d_jdk_41_method_13_code_1) rfl ?_
    refine XS.ior X0.here hx rfl (hb hby d_jdk_41_method_13_code_2) rfl ?_
    refine XS.iloadN X0.here hx rfl (hb hby d_jdk_41_method_13_code_3) rfl ?_
    refine XS.ior X0.here hx rfl (hb hby d_jdk_41_method_13_code_4) rfl ?_
    refine XS.ifNo X0.here hx rfl (hb hby d_jdk_41_method_13_code_5) rfl ((if0 _ _).trans (flt q1).1) ?_
    refine XS.iloadN X0.here hx rfl (hb hby d_jdk_41_method_13_code_8) rfl ?_
    refine XS.iloadN X0.here hx rfl (hb hby d_jdk_41_method_13_code_9) rfl ?_
    refine XS.iloadN X0.here hx rfl (hb hby d_jdk_41_method_13_code_10) rfl ?_
    refine XS.isub X0.here hx rfl (hb hby d_jdk_41_method_13_code_11) rfl ?_
    refine XS.icmpYes X0.here hx rfl (pc0 := 12) (pc' := 23) rfl (hb hby d_jdk_41_method_13_code_12) rfl (flt q2).2.2.2 (by decide) (by decide) ?_
    refine XS.iloadN X0.here hx rfl (hb hby d_jdk_41_method_13_code_23) rfl ?_
    exact hq)
  have hE := e0
  refine retInt X0 hx hret hlk (by simp) rfl (hb hby d_jdk_41_method_13_code_24) k1 ?_ (by decide) (by decide)
  try rw [hE]
  exact ⟨rfl, N0, rfl⟩
theorem d_jdk_42_method_157_code_0 : decode jdk_42_method_157_code 0 = .ok (.iload_n 0, 1) := by decide +kernel
theorem d_jdk_42_method_157_code_1 : decode jdk_42_method_157_code 1 = .ok (.iload_n 1, 1) := by decide +kernel
theorem d_jdk_42_method_157_code_2 : decode jdk_42_method_157_code 2 = .ok (.iload_n 2, 1) := by decide +kernel
theorem d_jdk_42_method_157_code_3 : decode jdk_42_method_157_code 3 = .ok (.getstatic 1053, 3) := by decide +kernel
theorem d_jdk_42_method_157_code_6 : decode jdk_42_method_157_code 6 = .ok (.invokestatic 1065, 3) := by decide +kernel
theorem d_jdk_42_method_157_code_9 : decode jdk_42_method_157_code 9 = .ok (.ireturn, 1) := by decide +kernel
theorem pn_3 : plainName "java/lang/String" = true := by first | (simp [plainName, overriddenIn]; done) | decide +kernel
theorem pd_0 : parseMethodDescriptor "(IIILjava/util/function/BiFunction;)I" = some ⟨[.int, .int, .int, (.object "java/util/function/BiFunction")], some .int⟩ := by decide +kernel
set_option maxRecDepth 65536 in
set_option maxHeartbeats 40000000 in
theorem rm_cbo (l : Launch) (Z : State) (a0 : Array Value) (hw : ∀ d ∈ tables_1, d.before a0 Z = true) (fm : Value) (i : Int32) (n : Int32) (k : Int32) (h0 : Heap) (n0 : Nat) (hn0 : n0 ≤ h0.size) (S_f : Sta Z Z.heap "jdk/internal/util/Preconditions" "SIOOBE_FORMATTER" "Ljava/util/function/BiFunction;" fm) (hfm : fm.isRef = true) (O0 : Old Z n0 h0) (q1 : ¬ ((k ||| i) ||| n) < (0 : Int32)) (q2 : ¬ (k - i) < n) :
    Con l Z (⟨"java/lang/String", "checkBoundsOffCount", "(III)I"⟩ : MethodName) jdk_42_method_157_code 3 (some .int) [] ({ frames := 1, cells := 0, slots := 0, locals := 15 } : Room) #[(.int i), (.int n), (.int k)] h0 (fun v h L => v = some (.int i) ∧ Fr n0 L ∧ h = h0) := by
  refine enter (Ls := #[.val (.int i), .val (.int n), .val (.int k)]) (plainFor_of_name pn_3) (fun m => by exact entry_eq rfl) ?_
  intro p e s m below meth cd_ s₁ S0 hx hby hml hret hlk hnm hown hZ X0 e0 k0
  have N0 := Fr.nil n0
  have k1 : To p.tables e below S0 (s₁.setTop (mkF m 3 #[.val (.int i), .val (.int n), .val (.int k)] [(.int k), (.int n), (.int i)])) := fun tt hq => k0 tt (by
    refine XS.iloadN X0.here hx rfl (hb hby d_jdk_42_method_157_code_0) rfl ?_
    refine XS.iloadN X0.here hx rfl (hb hby d_jdk_42_method_157_code_1) rfl ?_
    refine XS.iloadN X0.here hx rfl (hb hby d_jdk_42_method_157_code_2) rfl ?_
    exact hq)
  obtain ⟨T2, X2, e2, st2⟩ := getS2 X0 hx hZ hown (host := "") (Or.inl (wq hw 59 rfl)) Via.refl e0 (staOld S_f O0) (g := (mkF m 3 #[.val (.int i), .val (.int n), .val (.int k)] [(.int k), (.int n), (.int i)])) rfl (hb hby d_jdk_42_method_157_code_3)
  have k2 : To p.tables e below S0 (T2.setTop (mkF m 6 #[.val (.int i), .val (.int n), .val (.int k)] [fm, (.int k), (.int n), (.int i)])) := fun tt hq => k1 tt (st2 tt hq)
  obtain ⟨_, T3, L3, X3, ⟨rfl, Nq3, eq3⟩, k3a⟩ := callS' X2 hx hZ (y := (⟨"jdk/internal/util/Preconditions", "checkFromIndexSize", "(IIILjava/util/function/BiFunction;)I"⟩ : MethodName)) hown (wq hw 61 rfl) (wq hw 62 rfl) (wq hw 60 rfl) (wq hw 63 rfl) (by decide) (backC (W := 0) (rm_cfs l Z a0 hw i n k fm h0 n0 (by omega) hfm q1 q2) hZ (wq hw 63 rfl) (wq hw 60 rfl) (by decide) (by decide)) e2 (argsL := [(.int i), (.int n), (.int k), fm]) (rest := []) rfl rfl pd_0 rfl (by rw [hml]; rfl) (hb hby d_jdk_42_method_157_code_6) (Nat.le_of_eq rfl) (by decide) (by decide) k2
  have k3 : To p.tables e below S0 (T3.setTop (mkF m 9 #[.val (.int i), .val (.int n), .val (.int k)] [(.int i)])) := k3a
  have N3 := N0.app Nq3
  have e3 : T3.heap = h0 := eq3
  have hE := e3
  refine retInt X3 hx hret hlk (by simp) rfl (hb hby d_jdk_42_method_157_code_9) k3 ?_ (by decide) (by decide)
  try rw [hE]
  exact ⟨rfl, N3, rfl⟩
theorem d_jdk_42_method_5_code_0 : decode jdk_42_method_5_code 0 = .ok (.iload_n 1, 1) := by decide +kernel
theorem d_jdk_42_method_5_code_1 : decode jdk_42_method_5_code 1 = .ok (.iload_n 2, 1) := by decide +kernel
theorem d_jdk_42_method_5_code_2 : decode jdk_42_method_5_code 2 = .ok (.aload_n 0, 1) := by decide +kernel
theorem d_jdk_42_method_5_code_3 : decode jdk_42_method_5_code 3 = .ok (.arraylength, 1) := by decide +kernel
theorem d_jdk_42_method_5_code_4 : decode jdk_42_method_5_code 4 = .ok (.invokestatic 34, 3) := by decide +kernel
theorem d_jdk_42_method_5_code_7 : decode jdk_42_method_5_code 7 = .ok (.pop, 1) := by decide +kernel
theorem d_jdk_42_method_5_code_8 : decode jdk_42_method_5_code 8 = .ok (.aconst_null, 1) := by decide +kernel
theorem d_jdk_42_method_5_code_9 : decode jdk_42_method_5_code 9 = .ok (.areturn, 1) := by decide +kernel
theorem pd_1 : parseMethodDescriptor "(III)I" = some ⟨[.int, .int, .int], some .int⟩ := by decide +kernel
set_option maxRecDepth 65536 in
set_option maxHeartbeats 40000000 in
theorem rm_rck (l : Launch) (Z : State) (a0 : Array Value) (hw : ∀ d ∈ tables_1, d.before a0 Z = true) (fm : Value) (b : Addr) (kb : ClassId) (i : Int32) (n : Int32) (d0 : Int32) (d1 : Int32) (d2 : Int32) (d3 : Int32) (d4 : Int32) (d5 : Int32) (h0 : Heap) (n0 : Nat) (hn0 : n0 ≤ h0.size) (S_f : Sta Z Z.heap "jdk/internal/util/Preconditions" "SIOOBE_FORMATTER" "Ljava/util/function/BiFunction;" fm) (hfm : fm.isRef = true) (O0 : Old Z n0 h0) (P0 : Arv Z h0 b kb .char (6 : Int32) [(.int d0), (.int d1), (.int d2), (.int d3), (.int d4), (.int d5)] (.int (0 : Int32))) (q1 : ¬ (((6 : Int32) ||| i) ||| n) < (0 : Int32)) (q2 : ¬ ((6 : Int32) - i) < n) :
    Con l Z (⟨"java/lang/String", "rangeCheck", "([CII)Ljava/lang/Void;"⟩ : MethodName) jdk_42_method_5_code 3 (some (.object "java/lang/Void")) [] ({ frames := 2, cells := 0, slots := 0, locals := 29 } : Room) #[(.ref b), (.int i), (.int n)] h0 (fun v h L => v = some .null ∧ Fr n0 L ∧ h = h0) := by
  refine enter (Ls := #[.val (.ref b), .val (.int i), .val (.int n)]) (plainFor_of_name pn_3) (fun m => by exact entry_eq rfl) ?_
  intro p e s m below meth cd_ s₁ S0 hx hby hml hret hlk hnm hown hZ X0 e0 k0
  have N0 := Fr.nil n0
  have k1 : To p.tables e below S0 (s₁.setTop (mkF m 3 #[.val (.ref b), .val (.int i), .val (.int n)] [(.ref b), (.int n), (.int i)])) := fun tt hq => k0 tt (by
    refine XS.iloadN X0.here hx rfl (hb hby d_jdk_42_method_5_code_0) rfl ?_
    refine XS.iloadN X0.here hx rfl (hb hby d_jdk_42_method_5_code_1) rfl ?_
    refine XS.aloadN X0.here hx rfl (hb hby d_jdk_42_method_5_code_2) rfl rfl ?_
    exact hq)
  obtain ⟨cl2, Ar2, -, S2, M2, -, -⟩ := id P0
  have st2 := fun tt => X0.arraylength hx (by rw [e0]; exact Ar2.1) (State.isArrayOf_alike hZ.alike Ar2.2.1) (g := (mkF m 3 #[.val (.ref b), .val (.int i), .val (.int n)] [(.ref b), (.int n), (.int i)])) rfl rfl (hb hby d_jdk_42_method_5_code_3) tt
  rw [len_of S2 M2] at st2
  have k2 : To p.tables e below S0 (s₁.setTop (mkF m 4 #[.val (.ref b), .val (.int i), .val (.int n)] [(.int (6 : Int32)), (.int n), (.int i)])) := fun tt hq => k1 tt (st2 tt hq)
  obtain ⟨_, T3, L3, X3, ⟨rfl, Nq3, eq3⟩, k3a⟩ := callS' X0 hx hZ (y := (⟨"java/lang/String", "checkBoundsOffCount", "(III)I"⟩ : MethodName)) hown (wq hw 56 rfl) (wq hw 57 rfl) (wq hw 49 rfl) (wq hw 58 rfl) (by decide) (backC (W := 0) (rm_cbo l Z a0 hw fm i n (6 : Int32) h0 n0 (by omega) S_f hfm O0 q1 q2) hZ (wq hw 58 rfl) (wq hw 49 rfl) (by decide) (by decide)) e0 (argsL := [(.int i), (.int n), (.int (6 : Int32))]) (rest := []) rfl rfl pd_1 rfl (by rw [hml]; rfl) (hb hby d_jdk_42_method_5_code_4) (Nat.le_of_eq rfl) (by decide) (by decide) k2
  have k3 : To p.tables e below S0 (T3.setTop (mkF m 7 #[.val (.ref b), .val (.int i), .val (.int n)] [(.int i)])) := k3a
  have N3 := N0.app Nq3
  have e3 : T3.heap = h0 := eq3
  have k4 : To p.tables e below S0 (T3.setTop (mkF m 9 #[.val (.ref b), .val (.int i), .val (.int n)] [.null])) := fun tt hq => k3 tt (by
    refine XS.pop X3.here hx rfl (hb hby d_jdk_42_method_5_code_7) rfl rfl ?_
    refine XS.aconstNull X3.here hx rfl (hb hby d_jdk_42_method_5_code_8) ?_
    exact hq)
  have hE := e3
  refine retRef X3 hx hret hlk rfl rfl (hb hby d_jdk_42_method_5_code_9) k4 ?_ (by decide) (by decide)
  try rw [hE]
  exact ⟨rfl, N3, rfl⟩
theorem d_jdk_42_method_152_code_0 : decode jdk_42_method_152_code 0 = .ok (.getstatic 38, 3) := by decide +kernel
theorem d_jdk_42_method_152_code_3 : decode jdk_42_method_152_code 3 = .ok (.ifCond .eq 10, 3) := by decide +kernel
theorem d_jdk_42_method_152_code_6 : decode jdk_42_method_152_code 6 = .ok (.aload_n 0, 1) := by decide +kernel
theorem d_jdk_42_method_152_code_7 : decode jdk_42_method_152_code 7 = .ok (.getfield 15, 3) := by decide +kernel
theorem d_jdk_42_method_152_code_10 : decode jdk_42_method_152_code 10 = .ok (.goto 4, 3) := by decide +kernel
theorem d_jdk_42_method_152_code_13 : decode jdk_42_method_152_code 13 = .ok (.iconst 1, 1) := by decide +kernel
theorem d_jdk_42_method_152_code_14 : decode jdk_42_method_152_code 14 = .ok (.ireturn, 1) := by decide +kernel
set_option maxRecDepth 65536 in
set_option maxHeartbeats 40000000 in
theorem rm_coder (l : Launch) (Z : State) (a0 : Array Value) (hw : ∀ d ∈ tables_1, d.before a0 Z = true) (zc : Int32) (a : Addr) (h0 : Heap) (n0 : Nat) (hn0 : n0 ≤ h0.size) (S_c : Sta Z Z.heap "java/lang/String" "COMPACT_STRINGS" "Z" (.int zc)) (hzc : ¬ zc = (0 : Int32)) (O0 : Old Z n0 h0) (F0 : Fld Z h0 a "java/lang/String" "coder" "B" (.int (0 : Int32))) :
    Con l Z (⟨"java/lang/String", "coder", "()B"⟩ : MethodName) jdk_42_method_152_code 1 (some .byte) [] ({ frames := 0, cells := 0, slots := 0, locals := 0 } : Room) #[(.ref a)] h0 (fun v h L => v = some (.int (0 : Int32)) ∧ Fr n0 L ∧ h = h0) := by
  refine enter (Ls := #[.val (.ref a)]) (plainFor_of_name pn_3) (fun m => by exact entry_eq rfl) ?_
  intro p e s m below meth cd_ s₁ S0 hx hby hml hret hlk hnm hown hZ X0 e0 k0
  have N0 := Fr.nil n0
  obtain ⟨T1, X1, e1, st1⟩ := getS2 X0 hx hZ hown (host := "") (Or.inl (wq hw 69 rfl)) Via.refl e0 (staOld S_c O0) (g := (mkF m 0 #[.val (.ref a)] [])) rfl (hb hby d_jdk_42_method_152_code_0)
  have k1 : To p.tables e below S0 (T1.setTop (mkF m 3 #[.val (.ref a)] [(.int zc)])) := fun tt hq => k0 tt (st1 tt hq)
  have k2 : To p.tables e below S0 (T1.setTop (mkF m 7 #[.val (.ref a)] [(.ref a)])) := fun tt hq => k1 tt (by
    refine XS.ifNo X1.here hx rfl (hb hby d_jdk_42_method_152_code_3) rfl ((if0 _ _).trans (feq hzc).1) ?_
    refine XS.aloadN X1.here hx rfl (hb hby d_jdk_42_method_152_code_6) rfl rfl ?_
    exact hq)
  obtain ⟨T3, X3, e3, st3⟩ := getF X1 hx hZ hown (host := "") (Or.inl (wq hw 81 rfl)) Via.refl e1 F0 (g := (mkF m 7 #[.val (.ref a)] [(.ref a)])) rfl rfl (hb hby d_jdk_42_method_152_code_7)
  have k3 : To p.tables e below S0 (T3.setTop (mkF m 10 #[.val (.ref a)] [(.int (0 : Int32))])) := fun tt hq => k2 tt (st3 tt hq)
  have k4 : To p.tables e below S0 (T3.setTop (mkF m 14 #[.val (.ref a)] [(.int (0 : Int32))])) := fun tt hq => k3 tt (by
    refine XS.goto X3.here hx rfl (pc0 := 10) (pc' := 14) rfl (hb hby d_jdk_42_method_152_code_10) (by decide) (by decide) ?_
    exact hq)
  have hE := e3
  refine retInt X3 hx hret hlk (by simp) rfl (hb hby d_jdk_42_method_152_code_14) k4 ?_ (by decide) (by decide)
  try rw [hE]
  exact ⟨rfl, N0, rfl⟩
theorem d_jdk_42_method_54_code_0 : decode jdk_42_method_54_code 0 = .ok (.aload_n 0, 1) := by decide +kernel
theorem d_jdk_42_method_54_code_1 : decode jdk_42_method_54_code 1 = .ok (.getfield 9, 3) := by decide +kernel
theorem d_jdk_42_method_54_code_4 : decode jdk_42_method_54_code 4 = .ok (.arraylength, 1) := by decide +kernel
theorem d_jdk_42_method_54_code_5 : decode jdk_42_method_54_code 5 = .ok (.aload_n 0, 1) := by decide +kernel
theorem d_jdk_42_method_54_code_6 : decode jdk_42_method_54_code 6 = .ok (.invokevirtual 335, 3) := by decide +kernel
theorem d_jdk_42_method_54_code_9 : decode jdk_42_method_54_code 9 = .ok (.ishr, 1) := by decide +kernel
theorem d_jdk_42_method_54_code_10 : decode jdk_42_method_54_code 10 = .ok (.ireturn, 1) := by decide +kernel
theorem pd_2 : parseMethodDescriptor "()B" = some ⟨[], some .byte⟩ := by decide +kernel
set_option maxRecDepth 65536 in
set_option maxHeartbeats 40000000 in
theorem rm_len0 (l : Launch) (Z : State) (a0 : Array Value) (hw : ∀ d ∈ tables_1, d.before a0 Z = true) (zc : Int32) (a : Addr) (t : Addr) (kt : ClassId) (h0 : Heap) (n0 : Nat) (hn0 : n0 ≤ h0.size) (S_c : Sta Z Z.heap "java/lang/String" "COMPACT_STRINGS" "Z" (.int zc)) (hzc : ¬ zc = (0 : Int32)) (O0 : Old Z n0 h0) (P0 : Exa Z h0 a "java/lang/String") (P1 : Fld Z h0 a "java/lang/String" "value" "[B" (.ref t)) (P2 : Fld Z h0 a "java/lang/String" "coder" "B" (.int (0 : Int32))) (P3 : Arv Z h0 t kt .byte (0 : Int32) [] (.int 0)) :
    Con l Z (⟨"java/lang/String", "length", "()I"⟩ : MethodName) jdk_42_method_54_code 1 (some .int) [] ({ frames := 1, cells := 0, slots := 0, locals := 13 } : Room) #[(.ref a)] h0 (fun v h L => v = some (.int (0 : Int32)) ∧ Fr n0 L ∧ h = h0) := by
  refine enter (Ls := #[.val (.ref a)]) (plainFor_of_name pn_3) (fun m => by exact entry_eq rfl) ?_
  intro p e s m below meth cd_ s₁ S0 hx hby hml hret hlk hnm hown hZ X0 e0 k0
  have N0 := Fr.nil n0
  have k1 : To p.tables e below S0 (s₁.setTop (mkF m 1 #[.val (.ref a)] [(.ref a)])) := fun tt hq => k0 tt (by
    refine XS.aloadN X0.here hx rfl (hb hby d_jdk_42_method_54_code_0) rfl rfl ?_
    exact hq)
  obtain ⟨T2, X2, e2, st2⟩ := getF X0 hx hZ hown (host := "") (Or.inl (wq hw 83 rfl)) Via.refl e0 P1 (g := (mkF m 1 #[.val (.ref a)] [(.ref a)])) rfl rfl (hb hby d_jdk_42_method_54_code_1)
  have k2 : To p.tables e below S0 (T2.setTop (mkF m 4 #[.val (.ref a)] [(.ref t)])) := fun tt hq => k1 tt (st2 tt hq)
  obtain ⟨cl3, Ar3, -, S3, M3, -, -⟩ := id P3
  have st3 := fun tt => X2.arraylength hx (by rw [e2]; exact Ar3.1) (State.isArrayOf_alike hZ.alike Ar3.2.1) (g := (mkF m 4 #[.val (.ref a)] [(.ref t)])) rfl rfl (hb hby d_jdk_42_method_54_code_4) tt
  rw [len_of S3 M3] at st3
  have k3 : To p.tables e below S0 (T2.setTop (mkF m 5 #[.val (.ref a)] [(.int (0 : Int32))])) := fun tt hq => k2 tt (st3 tt hq)
  have k4 : To p.tables e below S0 (T2.setTop (mkF m 6 #[.val (.ref a)] [(.ref a), (.int (0 : Int32))])) := fun tt hq => k3 tt (by
    refine XS.aloadN X2.here hx rfl (hb hby d_jdk_42_method_54_code_5) rfl rfl ?_
    exact hq)
  obtain ⟨_, T5, L5, X5, ⟨rfl, Nq5, eq5⟩, k5a⟩ := callV' X2 hx hZ (y := (⟨"java/lang/String", "coder", "()B"⟩ : MethodName)) (z := (⟨"java/lang/String", "coder", "()B"⟩ : MethodName)) hown (wq hw 90 rfl) (wq hw 91 rfl) (notFace_of_selects (args := #[]) (mvT hZ (wq hw 93 rfl))) (wq hw 93 rfl) (wq hw 92 rfl) (by decide) P0 (backC (W := 1) (rm_coder l Z a0 hw zc a h0 n0 (by omega) S_c hzc O0 P2) hZ (wq hw 94 rfl) (wq hw 49 rfl) (by decide) (by decide)) e2 (argsL := []) (rest := [(.int (0 : Int32))]) rfl rfl pd_2 rfl (by rw [hml]; rfl) (hb hby d_jdk_42_method_54_code_6) (Nat.le_of_eq rfl) (by decide) (by decide) k4
  have k5 : To p.tables e below S0 (T5.setTop (mkF m 9 #[.val (.ref a)] [(.int (0 : Int32)), (.int (0 : Int32))])) := k5a
  have N5 := N0.app Nq5
  have e5 : T5.heap = h0 := eq5
  have k6 : To p.tables e below S0 (T5.setTop (mkF m 10 #[.val (.ref a)] [(.int (0 : Int32))])) := fun tt hq => k5 tt (by
    refine XS.ishr X5.here hx rfl (hb hby d_jdk_42_method_54_code_9) rfl ?_
    exact hq)
  have hE := e5
  refine retInt X5 hx hret hlk (by simp) rfl (hb hby d_jdk_42_method_54_code_10) k6 ?_ (by decide) (by decide)
  try rw [hE]
  exact ⟨rfl, N5, rfl⟩
set_option maxRecDepth 65536 in
set_option maxHeartbeats 40000000 in
theorem rm_len1 (l : Launch) (Z : State) (a0 : Array Value) (hw : ∀ d ∈ tables_1, d.before a0 Z = true) (zc : Int32) (a : Addr) (t : Addr) (kt : ClassId) (c0 : Int32) (h0 : Heap) (n0 : Nat) (hn0 : n0 ≤ h0.size) (S_c : Sta Z Z.heap "java/lang/String" "COMPACT_STRINGS" "Z" (.int zc)) (hzc : ¬ zc = (0 : Int32)) (O0 : Old Z n0 h0) (P0 : Exa Z h0 a "java/lang/String") (P1 : Fld Z h0 a "java/lang/String" "value" "[B" (.ref t)) (P2 : Fld Z h0 a "java/lang/String" "coder" "B" (.int (0 : Int32))) (P3 : Arv Z h0 t kt .byte (1 : Int32) [(.int c0)] (.int 0)) :
    Con l Z (⟨"java/lang/String", "length", "()I"⟩ : MethodName) jdk_42_method_54_code 1 (some .int) [] ({ frames := 1, cells := 0, slots := 0, locals := 13 } : Room) #[(.ref a)] h0 (fun v h L => v = some (.int (1 : Int32)) ∧ Fr n0 L ∧ h = h0) := by
  refine enter (Ls := #[.val (.ref a)]) (plainFor_of_name pn_3) (fun m => by exact entry_eq rfl) ?_
  intro p e s m below meth cd_ s₁ S0 hx hby hml hret hlk hnm hown hZ X0 e0 k0
  have N0 := Fr.nil n0
  have k1 : To p.tables e below S0 (s₁.setTop (mkF m 1 #[.val (.ref a)] [(.ref a)])) := fun tt hq => k0 tt (by
    refine XS.aloadN X0.here hx rfl (hb hby d_jdk_42_method_54_code_0) rfl rfl ?_
    exact hq)
  obtain ⟨T2, X2, e2, st2⟩ := getF X0 hx hZ hown (host := "") (Or.inl (wq hw 83 rfl)) Via.refl e0 P1 (g := (mkF m 1 #[.val (.ref a)] [(.ref a)])) rfl rfl (hb hby d_jdk_42_method_54_code_1)
  have k2 : To p.tables e below S0 (T2.setTop (mkF m 4 #[.val (.ref a)] [(.ref t)])) := fun tt hq => k1 tt (st2 tt hq)
  obtain ⟨cl3, Ar3, -, S3, M3, -, -⟩ := id P3
  have st3 := fun tt => X2.arraylength hx (by rw [e2]; exact Ar3.1) (State.isArrayOf_alike hZ.alike Ar3.2.1) (g := (mkF m 4 #[.val (.ref a)] [(.ref t)])) rfl rfl (hb hby d_jdk_42_method_54_code_4) tt
  rw [len_of S3 M3] at st3
  have k3 : To p.tables e below S0 (T2.setTop (mkF m 5 #[.val (.ref a)] [(.int (1 : Int32))])) := fun tt hq => k2 tt (st3 tt hq)
  have k4 : To p.tables e below S0 (T2.setTop (mkF m 6 #[.val (.ref a)] [(.ref a), (.int (1 : Int32))])) := fun tt hq => k3 tt (by
    refine XS.aloadN X2.here hx rfl (hb hby d_jdk_42_method_54_code_5) rfl rfl ?_
    exact hq)
  obtain ⟨_, T5, L5, X5, ⟨rfl, Nq5, eq5⟩, k5a⟩ := callV' X2 hx hZ (y := (⟨"java/lang/String", "coder", "()B"⟩ : MethodName)) (z := (⟨"java/lang/String", "coder", "()B"⟩ : MethodName)) hown (wq hw 90 rfl) (wq hw 91 rfl) (notFace_of_selects (args := #[]) (mvT hZ (wq hw 93 rfl))) (wq hw 93 rfl) (wq hw 92 rfl) (by decide) P0 (backC (W := 1) (rm_coder l Z a0 hw zc a h0 n0 (by omega) S_c hzc O0 P2) hZ (wq hw 94 rfl) (wq hw 49 rfl) (by decide) (by decide)) e2 (argsL := []) (rest := [(.int (1 : Int32))]) rfl rfl pd_2 rfl (by rw [hml]; rfl) (hb hby d_jdk_42_method_54_code_6) (Nat.le_of_eq rfl) (by decide) (by decide) k4
  have k5 : To p.tables e below S0 (T5.setTop (mkF m 9 #[.val (.ref a)] [(.int (0 : Int32)), (.int (1 : Int32))])) := k5a
  have N5 := N0.app Nq5
  have e5 : T5.heap = h0 := eq5
  have k6 : To p.tables e below S0 (T5.setTop (mkF m 10 #[.val (.ref a)] [(.int (1 : Int32))])) := fun tt hq => k5 tt (by
    refine XS.ishr X5.here hx rfl (hb hby d_jdk_42_method_54_code_9) rfl ?_
    exact hq)
  have hE := e5
  refine retInt X5 hx hret hlk (by simp) rfl (hb hby d_jdk_42_method_54_code_10) k6 ?_ (by decide) (by decide)
  try rw [hE]
  exact ⟨rfl, N5, rfl⟩
set_option maxRecDepth 65536 in
set_option maxHeartbeats 40000000 in
theorem rm_len2 (l : Launch) (Z : State) (a0 : Array Value) (hw : ∀ d ∈ tables_1, d.before a0 Z = true) (zc : Int32) (a : Addr) (t : Addr) (kt : ClassId) (c0 : Int32) (c1 : Int32) (h0 : Heap) (n0 : Nat) (hn0 : n0 ≤ h0.size) (S_c : Sta Z Z.heap "java/lang/String" "COMPACT_STRINGS" "Z" (.int zc)) (hzc : ¬ zc = (0 : Int32)) (O0 : Old Z n0 h0) (P0 : Exa Z h0 a "java/lang/String") (P1 : Fld Z h0 a "java/lang/String" "value" "[B" (.ref t)) (P2 : Fld Z h0 a "java/lang/String" "coder" "B" (.int (0 : Int32))) (P3 : Arv Z h0 t kt .byte (2 : Int32) [(.int c0), (.int c1)] (.int 0)) :
    Con l Z (⟨"java/lang/String", "length", "()I"⟩ : MethodName) jdk_42_method_54_code 1 (some .int) [] ({ frames := 1, cells := 0, slots := 0, locals := 13 } : Room) #[(.ref a)] h0 (fun v h L => v = some (.int (2 : Int32)) ∧ Fr n0 L ∧ h = h0) := by
  refine enter (Ls := #[.val (.ref a)]) (plainFor_of_name pn_3) (fun m => by exact entry_eq rfl) ?_
  intro p e s m below meth cd_ s₁ S0 hx hby hml hret hlk hnm hown hZ X0 e0 k0
  have N0 := Fr.nil n0
  have k1 : To p.tables e below S0 (s₁.setTop (mkF m 1 #[.val (.ref a)] [(.ref a)])) := fun tt hq => k0 tt (by
    refine XS.aloadN X0.here hx rfl (hb hby d_jdk_42_method_54_code_0) rfl rfl ?_
    exact hq)
  obtain ⟨T2, X2, e2, st2⟩ := getF X0 hx hZ hown (host := "") (Or.inl (wq hw 83 rfl)) Via.refl e0 P1 (g := (mkF m 1 #[.val (.ref a)] [(.ref a)])) rfl rfl (hb hby d_jdk_42_method_54_code_1)
  have k2 : To p.tables e below S0 (T2.setTop (mkF m 4 #[.val (.ref a)] [(.ref t)])) := fun tt hq => k1 tt (st2 tt hq)
  obtain ⟨cl3, Ar3, -, S3, M3, -, -⟩ := id P3
  have st3 := fun tt => X2.arraylength hx (by rw [e2]; exact Ar3.1) (State.isArrayOf_alike hZ.alike Ar3.2.1) (g := (mkF m 4 #[.val (.ref a)] [(.ref t)])) rfl rfl (hb hby d_jdk_42_method_54_code_4) tt
  rw [len_of S3 M3] at st3
  have k3 : To p.tables e below S0 (T2.setTop (mkF m 5 #[.val (.ref a)] [(.int (2 : Int32))])) := fun tt hq => k2 tt (st3 tt hq)
  have k4 : To p.tables e below S0 (T2.setTop (mkF m 6 #[.val (.ref a)] [(.ref a), (.int (2 : Int32))])) := fun tt hq => k3 tt (by
    refine XS.aloadN X2.here hx rfl (hb hby d_jdk_42_method_54_code_5) rfl rfl ?_
    exact hq)
  obtain ⟨_, T5, L5, X5, ⟨rfl, Nq5, eq5⟩, k5a⟩ := callV' X2 hx hZ (y := (⟨"java/lang/String", "coder", "()B"⟩ : MethodName)) (z := (⟨"java/lang/String", "coder", "()B"⟩ : MethodName)) hown (wq hw 90 rfl) (wq hw 91 rfl) (notFace_of_selects (args := #[]) (mvT hZ (wq hw 93 rfl))) (wq hw 93 rfl) (wq hw 92 rfl) (by decide) P0 (backC (W := 1) (rm_coder l Z a0 hw zc a h0 n0 (by omega) S_c hzc O0 P2) hZ (wq hw 94 rfl) (wq hw 49 rfl) (by decide) (by decide)) e2 (argsL := []) (rest := [(.int (2 : Int32))]) rfl rfl pd_2 rfl (by rw [hml]; rfl) (hb hby d_jdk_42_method_54_code_6) (Nat.le_of_eq rfl) (by decide) (by decide) k4
  have k5 : To p.tables e below S0 (T5.setTop (mkF m 9 #[.val (.ref a)] [(.int (0 : Int32)), (.int (2 : Int32))])) := k5a
  have N5 := N0.app Nq5
  have e5 : T5.heap = h0 := eq5
  have k6 : To p.tables e below S0 (T5.setTop (mkF m 10 #[.val (.ref a)] [(.int (2 : Int32))])) := fun tt hq => k5 tt (by
    refine XS.ishr X5.here hx rfl (hb hby d_jdk_42_method_54_code_9) rfl ?_
    exact hq)
  have hE := e5
  refine retInt X5 hx hret hlk (by simp) rfl (hb hby d_jdk_42_method_54_code_10) k6 ?_ (by decide) (by decide)
  try rw [hE]
  exact ⟨rfl, N5, rfl⟩
set_option maxRecDepth 65536 in
set_option maxHeartbeats 40000000 in
theorem rm_len3 (l : Launch) (Z : State) (a0 : Array Value) (hw : ∀ d ∈ tables_1, d.before a0 Z = true) (zc : Int32) (a : Addr) (t : Addr) (kt : ClassId) (c0 : Int32) (c1 : Int32) (c2 : Int32) (h0 : Heap) (n0 : Nat) (hn0 : n0 ≤ h0.size) (S_c : Sta Z Z.heap "java/lang/String" "COMPACT_STRINGS" "Z" (.int zc)) (hzc : ¬ zc = (0 : Int32)) (O0 : Old Z n0 h0) (P0 : Exa Z h0 a "java/lang/String") (P1 : Fld Z h0 a "java/lang/String" "value" "[B" (.ref t)) (P2 : Fld Z h0 a "java/lang/String" "coder" "B" (.int (0 : Int32))) (P3 : Arv Z h0 t kt .byte (3 : Int32) [(.int c0), (.int c1), (.int c2)] (.int 0)) :
    Con l Z (⟨"java/lang/String", "length", "()I"⟩ : MethodName) jdk_42_method_54_code 1 (some .int) [] ({ frames := 1, cells := 0, slots := 0, locals := 13 } : Room) #[(.ref a)] h0 (fun v h L => v = some (.int (3 : Int32)) ∧ Fr n0 L ∧ h = h0) := by
  refine enter (Ls := #[.val (.ref a)]) (plainFor_of_name pn_3) (fun m => by exact entry_eq rfl) ?_
  intro p e s m below meth cd_ s₁ S0 hx hby hml hret hlk hnm hown hZ X0 e0 k0
  have N0 := Fr.nil n0
  have k1 : To p.tables e below S0 (s₁.setTop (mkF m 1 #[.val (.ref a)] [(.ref a)])) := fun tt hq => k0 tt (by
    refine XS.aloadN X0.here hx rfl (hb hby d_jdk_42_method_54_code_0) rfl rfl ?_
    exact hq)
  obtain ⟨T2, X2, e2, st2⟩ := getF X0 hx hZ hown (host := "") (Or.inl (wq hw 83 rfl)) Via.refl e0 P1 (g := (mkF m 1 #[.val (.ref a)] [(.ref a)])) rfl rfl (hb hby d_jdk_42_method_54_code_1)
  have k2 : To p.tables e below S0 (T2.setTop (mkF m 4 #[.val (.ref a)] [(.ref t)])) := fun tt hq => k1 tt (st2 tt hq)
  obtain ⟨cl3, Ar3, -, S3, M3, -, -⟩ := id P3
  have st3 := fun tt => X2.arraylength hx (by rw [e2]; exact Ar3.1) (State.isArrayOf_alike hZ.alike Ar3.2.1) (g := (mkF m 4 #[.val (.ref a)] [(.ref t)])) rfl rfl (hb hby d_jdk_42_method_54_code_4) tt
  rw [len_of S3 M3] at st3
  have k3 : To p.tables e below S0 (T2.setTop (mkF m 5 #[.val (.ref a)] [(.int (3 : Int32))])) := fun tt hq => k2 tt (st3 tt hq)
  have k4 : To p.tables e below S0 (T2.setTop (mkF m 6 #[.val (.ref a)] [(.ref a), (.int (3 : Int32))])) := fun tt hq => k3 tt (by
    refine XS.aloadN X2.here hx rfl (hb hby d_jdk_42_method_54_code_5) rfl rfl ?_
    exact hq)
  obtain ⟨_, T5, L5, X5, ⟨rfl, Nq5, eq5⟩, k5a⟩ := callV' X2 hx hZ (y := (⟨"java/lang/String", "coder", "()B"⟩ : MethodName)) (z := (⟨"java/lang/String", "coder", "()B"⟩ : MethodName)) hown (wq hw 90 rfl) (wq hw 91 rfl) (notFace_of_selects (args := #[]) (mvT hZ (wq hw 93 rfl))) (wq hw 93 rfl) (wq hw 92 rfl) (by decide) P0 (backC (W := 1) (rm_coder l Z a0 hw zc a h0 n0 (by omega) S_c hzc O0 P2) hZ (wq hw 94 rfl) (wq hw 49 rfl) (by decide) (by decide)) e2 (argsL := []) (rest := [(.int (3 : Int32))]) rfl rfl pd_2 rfl (by rw [hml]; rfl) (hb hby d_jdk_42_method_54_code_6) (Nat.le_of_eq rfl) (by decide) (by decide) k4
  have k5 : To p.tables e below S0 (T5.setTop (mkF m 9 #[.val (.ref a)] [(.int (0 : Int32)), (.int (3 : Int32))])) := k5a
  have N5 := N0.app Nq5
  have e5 : T5.heap = h0 := eq5
  have k6 : To p.tables e below S0 (T5.setTop (mkF m 10 #[.val (.ref a)] [(.int (3 : Int32))])) := fun tt hq => k5 tt (by
    refine XS.ishr X5.here hx rfl (hb hby d_jdk_42_method_54_code_9) rfl ?_
    exact hq)
  have hE := e5
  refine retInt X5 hx hret hlk (by simp) rfl (hb hby d_jdk_42_method_54_code_10) k6 ?_ (by decide) (by decide)
  try rw [hE]
  exact ⟨rfl, N5, rfl⟩
set_option maxRecDepth 65536 in
set_option maxHeartbeats 40000000 in
theorem rm_len4 (l : Launch) (Z : State) (a0 : Array Value) (hw : ∀ d ∈ tables_1, d.before a0 Z = true) (zc : Int32) (a : Addr) (t : Addr) (kt : ClassId) (c0 : Int32) (c1 : Int32) (c2 : Int32) (c3 : Int32) (h0 : Heap) (n0 : Nat) (hn0 : n0 ≤ h0.size) (S_c : Sta Z Z.heap "java/lang/String" "COMPACT_STRINGS" "Z" (.int zc)) (hzc : ¬ zc = (0 : Int32)) (O0 : Old Z n0 h0) (P0 : Exa Z h0 a "java/lang/String") (P1 : Fld Z h0 a "java/lang/String" "value" "[B" (.ref t)) (P2 : Fld Z h0 a "java/lang/String" "coder" "B" (.int (0 : Int32))) (P3 : Arv Z h0 t kt .byte (4 : Int32) [(.int c0), (.int c1), (.int c2), (.int c3)] (.int 0)) :
    Con l Z (⟨"java/lang/String", "length", "()I"⟩ : MethodName) jdk_42_method_54_code 1 (some .int) [] ({ frames := 1, cells := 0, slots := 0, locals := 13 } : Room) #[(.ref a)] h0 (fun v h L => v = some (.int (4 : Int32)) ∧ Fr n0 L ∧ h = h0) := by
  refine enter (Ls := #[.val (.ref a)]) (plainFor_of_name pn_3) (fun m => by exact entry_eq rfl) ?_
  intro p e s m below meth cd_ s₁ S0 hx hby hml hret hlk hnm hown hZ X0 e0 k0
  have N0 := Fr.nil n0
  have k1 : To p.tables e below S0 (s₁.setTop (mkF m 1 #[.val (.ref a)] [(.ref a)])) := fun tt hq => k0 tt (by
    refine XS.aloadN X0.here hx rfl (hb hby d_jdk_42_method_54_code_0) rfl rfl ?_
    exact hq)
  obtain ⟨T2, X2, e2, st2⟩ := getF X0 hx hZ hown (host := "") (Or.inl (wq hw 83 rfl)) Via.refl e0 P1 (g := (mkF m 1 #[.val (.ref a)] [(.ref a)])) rfl rfl (hb hby d_jdk_42_method_54_code_1)
  have k2 : To p.tables e below S0 (T2.setTop (mkF m 4 #[.val (.ref a)] [(.ref t)])) := fun tt hq => k1 tt (st2 tt hq)
  obtain ⟨cl3, Ar3, -, S3, M3, -, -⟩ := id P3
  have st3 := fun tt => X2.arraylength hx (by rw [e2]; exact Ar3.1) (State.isArrayOf_alike hZ.alike Ar3.2.1) (g := (mkF m 4 #[.val (.ref a)] [(.ref t)])) rfl rfl (hb hby d_jdk_42_method_54_code_4) tt
  rw [len_of S3 M3] at st3
  have k3 : To p.tables e below S0 (T2.setTop (mkF m 5 #[.val (.ref a)] [(.int (4 : Int32))])) := fun tt hq => k2 tt (st3 tt hq)
  have k4 : To p.tables e below S0 (T2.setTop (mkF m 6 #[.val (.ref a)] [(.ref a), (.int (4 : Int32))])) := fun tt hq => k3 tt (by
    refine XS.aloadN X2.here hx rfl (hb hby d_jdk_42_method_54_code_5) rfl rfl ?_
    exact hq)
  obtain ⟨_, T5, L5, X5, ⟨rfl, Nq5, eq5⟩, k5a⟩ := callV' X2 hx hZ (y := (⟨"java/lang/String", "coder", "()B"⟩ : MethodName)) (z := (⟨"java/lang/String", "coder", "()B"⟩ : MethodName)) hown (wq hw 90 rfl) (wq hw 91 rfl) (notFace_of_selects (args := #[]) (mvT hZ (wq hw 93 rfl))) (wq hw 93 rfl) (wq hw 92 rfl) (by decide) P0 (backC (W := 1) (rm_coder l Z a0 hw zc a h0 n0 (by omega) S_c hzc O0 P2) hZ (wq hw 94 rfl) (wq hw 49 rfl) (by decide) (by decide)) e2 (argsL := []) (rest := [(.int (4 : Int32))]) rfl rfl pd_2 rfl (by rw [hml]; rfl) (hb hby d_jdk_42_method_54_code_6) (Nat.le_of_eq rfl) (by decide) (by decide) k4
  have k5 : To p.tables e below S0 (T5.setTop (mkF m 9 #[.val (.ref a)] [(.int (0 : Int32)), (.int (4 : Int32))])) := k5a
  have N5 := N0.app Nq5
  have e5 : T5.heap = h0 := eq5
  have k6 : To p.tables e below S0 (T5.setTop (mkF m 10 #[.val (.ref a)] [(.int (4 : Int32))])) := fun tt hq => k5 tt (by
    refine XS.ishr X5.here hx rfl (hb hby d_jdk_42_method_54_code_9) rfl ?_
    exact hq)
  have hE := e5
  refine retInt X5 hx hret hlk (by simp) rfl (hb hby d_jdk_42_method_54_code_10) k6 ?_ (by decide) (by decide)
  try rw [hE]
  exact ⟨rfl, N5, rfl⟩
set_option maxRecDepth 65536 in
set_option maxHeartbeats 40000000 in
theorem rm_len5 (l : Launch) (Z : State) (a0 : Array Value) (hw : ∀ d ∈ tables_1, d.before a0 Z = true) (zc : Int32) (a : Addr) (t : Addr) (kt : ClassId) (c0 : Int32) (c1 : Int32) (c2 : Int32) (c3 : Int32) (c4 : Int32) (h0 : Heap) (n0 : Nat) (hn0 : n0 ≤ h0.size) (S_c : Sta Z Z.heap "java/lang/String" "COMPACT_STRINGS" "Z" (.int zc)) (hzc : ¬ zc = (0 : Int32)) (O0 : Old Z n0 h0) (P0 : Exa Z h0 a "java/lang/String") (P1 : Fld Z h0 a "java/lang/String" "value" "[B" (.ref t)) (P2 : Fld Z h0 a "java/lang/String" "coder" "B" (.int (0 : Int32))) (P3 : Arv Z h0 t kt .byte (5 : Int32) [(.int c0), (.int c1), (.int c2), (.int c3), (.int c4)] (.int 0)) :
    Con l Z (⟨"java/lang/String", "length", "()I"⟩ : MethodName) jdk_42_method_54_code 1 (some .int) [] ({ frames := 1, cells := 0, slots := 0, locals := 13 } : Room) #[(.ref a)] h0 (fun v h L => v = some (.int (5 : Int32)) ∧ Fr n0 L ∧ h = h0) := by
  refine enter (Ls := #[.val (.ref a)]) (plainFor_of_name pn_3) (fun m => by exact entry_eq rfl) ?_
  intro p e s m below meth cd_ s₁ S0 hx hby hml hret hlk hnm hown hZ X0 e0 k0
  have N0 := Fr.nil n0
  have k1 : To p.tables e below S0 (s₁.setTop (mkF m 1 #[.val (.ref a)] [(.ref a)])) := fun tt hq => k0 tt (by
    refine XS.aloadN X0.here hx rfl (hb hby d_jdk_42_method_54_code_0) rfl rfl ?_
    exact hq)
  obtain ⟨T2, X2, e2, st2⟩ := getF X0 hx hZ hown (host := "") (Or.inl (wq hw 83 rfl)) Via.refl e0 P1 (g := (mkF m 1 #[.val (.ref a)] [(.ref a)])) rfl rfl (hb hby d_jdk_42_method_54_code_1)
  have k2 : To p.tables e below S0 (T2.setTop (mkF m 4 #[.val (.ref a)] [(.ref t)])) := fun tt hq => k1 tt (st2 tt hq)
  obtain ⟨cl3, Ar3, -, S3, M3, -, -⟩ := id P3
  have st3 := fun tt => X2.arraylength hx (by rw [e2]; exact Ar3.1) (State.isArrayOf_alike hZ.alike Ar3.2.1) (g := (mkF m 4 #[.val (.ref a)] [(.ref t)])) rfl rfl (hb hby d_jdk_42_method_54_code_4) tt
  rw [len_of S3 M3] at st3
  have k3 : To p.tables e below S0 (T2.setTop (mkF m 5 #[.val (.ref a)] [(.int (5 : Int32))])) := fun tt hq => k2 tt (st3 tt hq)
  have k4 : To p.tables e below S0 (T2.setTop (mkF m 6 #[.val (.ref a)] [(.ref a), (.int (5 : Int32))])) := fun tt hq => k3 tt (by
    refine XS.aloadN X2.here hx rfl (hb hby d_jdk_42_method_54_code_5) rfl rfl ?_
    exact hq)
  obtain ⟨_, T5, L5, X5, ⟨rfl, Nq5, eq5⟩, k5a⟩ := callV' X2 hx hZ (y := (⟨"java/lang/String", "coder", "()B"⟩ : MethodName)) (z := (⟨"java/lang/String", "coder", "()B"⟩ : MethodName)) hown (wq hw 90 rfl) (wq hw 91 rfl) (notFace_of_selects (args := #[]) (mvT hZ (wq hw 93 rfl))) (wq hw 93 rfl) (wq hw 92 rfl) (by decide) P0 (backC (W := 1) (rm_coder l Z a0 hw zc a h0 n0 (by omega) S_c hzc O0 P2) hZ (wq hw 94 rfl) (wq hw 49 rfl) (by decide) (by decide)) e2 (argsL := []) (rest := [(.int (5 : Int32))]) rfl rfl pd_2 rfl (by rw [hml]; rfl) (hb hby d_jdk_42_method_54_code_6) (Nat.le_of_eq rfl) (by decide) (by decide) k4
  have k5 : To p.tables e below S0 (T5.setTop (mkF m 9 #[.val (.ref a)] [(.int (0 : Int32)), (.int (5 : Int32))])) := k5a
  have N5 := N0.app Nq5
  have e5 : T5.heap = h0 := eq5
  have k6 : To p.tables e below S0 (T5.setTop (mkF m 10 #[.val (.ref a)] [(.int (5 : Int32))])) := fun tt hq => k5 tt (by
    refine XS.ishr X5.here hx rfl (hb hby d_jdk_42_method_54_code_9) rfl ?_
    exact hq)
  have hE := e5
  refine retInt X5 hx hret hlk (by simp) rfl (hb hby d_jdk_42_method_54_code_10) k6 ?_ (by decide) (by decide)
  try rw [hE]
  exact ⟨rfl, N5, rfl⟩
set_option maxRecDepth 65536 in
set_option maxHeartbeats 40000000 in
theorem rm_len6 (l : Launch) (Z : State) (a0 : Array Value) (hw : ∀ d ∈ tables_1, d.before a0 Z = true) (zc : Int32) (a : Addr) (t : Addr) (kt : ClassId) (c0 : Int32) (c1 : Int32) (c2 : Int32) (c3 : Int32) (c4 : Int32) (c5 : Int32) (h0 : Heap) (n0 : Nat) (hn0 : n0 ≤ h0.size) (S_c : Sta Z Z.heap "java/lang/String" "COMPACT_STRINGS" "Z" (.int zc)) (hzc : ¬ zc = (0 : Int32)) (O0 : Old Z n0 h0) (P0 : Exa Z h0 a "java/lang/String") (P1 : Fld Z h0 a "java/lang/String" "value" "[B" (.ref t)) (P2 : Fld Z h0 a "java/lang/String" "coder" "B" (.int (0 : Int32))) (P3 : Arv Z h0 t kt .byte (6 : Int32) [(.int c0), (.int c1), (.int c2), (.int c3), (.int c4), (.int c5)] (.int 0)) :
    Con l Z (⟨"java/lang/String", "length", "()I"⟩ : MethodName) jdk_42_method_54_code 1 (some .int) [] ({ frames := 1, cells := 0, slots := 0, locals := 13 } : Room) #[(.ref a)] h0 (fun v h L => v = some (.int (6 : Int32)) ∧ Fr n0 L ∧ h = h0) := by
  refine enter (Ls := #[.val (.ref a)]) (plainFor_of_name pn_3) (fun m => by exact entry_eq rfl) ?_
  intro p e s m below meth cd_ s₁ S0 hx hby hml hret hlk hnm hown hZ X0 e0 k0
  have N0 := Fr.nil n0
  have k1 : To p.tables e below S0 (s₁.setTop (mkF m 1 #[.val (.ref a)] [(.ref a)])) := fun tt hq => k0 tt (by
    refine XS.aloadN X0.here hx rfl (hb hby d_jdk_42_method_54_code_0) rfl rfl ?_
    exact hq)
  obtain ⟨T2, X2, e2, st2⟩ := getF X0 hx hZ hown (host := "") (Or.inl (wq hw 83 rfl)) Via.refl e0 P1 (g := (mkF m 1 #[.val (.ref a)] [(.ref a)])) rfl rfl (hb hby d_jdk_42_method_54_code_1)
  have k2 : To p.tables e below S0 (T2.setTop (mkF m 4 #[.val (.ref a)] [(.ref t)])) := fun tt hq => k1 tt (st2 tt hq)
  obtain ⟨cl3, Ar3, -, S3, M3, -, -⟩ := id P3
  have st3 := fun tt => X2.arraylength hx (by rw [e2]; exact Ar3.1) (State.isArrayOf_alike hZ.alike Ar3.2.1) (g := (mkF m 4 #[.val (.ref a)] [(.ref t)])) rfl rfl (hb hby d_jdk_42_method_54_code_4) tt
  rw [len_of S3 M3] at st3
  have k3 : To p.tables e below S0 (T2.setTop (mkF m 5 #[.val (.ref a)] [(.int (6 : Int32))])) := fun tt hq => k2 tt (st3 tt hq)
  have k4 : To p.tables e below S0 (T2.setTop (mkF m 6 #[.val (.ref a)] [(.ref a), (.int (6 : Int32))])) := fun tt hq => k3 tt (by
    refine XS.aloadN X2.here hx rfl (hb hby d_jdk_42_method_54_code_5) rfl rfl ?_
    exact hq)
  obtain ⟨_, T5, L5, X5, ⟨rfl, Nq5, eq5⟩, k5a⟩ := callV' X2 hx hZ (y := (⟨"java/lang/String", "coder", "()B"⟩ : MethodName)) (z := (⟨"java/lang/String", "coder", "()B"⟩ : MethodName)) hown (wq hw 90 rfl) (wq hw 91 rfl) (notFace_of_selects (args := #[]) (mvT hZ (wq hw 93 rfl))) (wq hw 93 rfl) (wq hw 92 rfl) (by decide) P0 (backC (W := 1) (rm_coder l Z a0 hw zc a h0 n0 (by omega) S_c hzc O0 P2) hZ (wq hw 94 rfl) (wq hw 49 rfl) (by decide) (by decide)) e2 (argsL := []) (rest := [(.int (6 : Int32))]) rfl rfl pd_2 rfl (by rw [hml]; rfl) (hb hby d_jdk_42_method_54_code_6) (Nat.le_of_eq rfl) (by decide) (by decide) k4
  have k5 : To p.tables e below S0 (T5.setTop (mkF m 9 #[.val (.ref a)] [(.int (0 : Int32)), (.int (6 : Int32))])) := k5a
  have N5 := N0.app Nq5
  have e5 : T5.heap = h0 := eq5
  have k6 : To p.tables e below S0 (T5.setTop (mkF m 10 #[.val (.ref a)] [(.int (6 : Int32))])) := fun tt hq => k5 tt (by
    refine XS.ishr X5.here hx rfl (hb hby d_jdk_42_method_54_code_9) rfl ?_
    exact hq)
  have hE := e5
  refine retInt X5 hx hret hlk (by simp) rfl (hb hby d_jdk_42_method_54_code_10) k6 ?_ (by decide) (by decide)
  try rw [hE]
  exact ⟨rfl, N5, rfl⟩
theorem d_jdk_42_method_154_code_0 : decode jdk_42_method_154_code 0 = .ok (.getstatic 38, 3) := by decide +kernel
theorem d_jdk_42_method_154_code_3 : decode jdk_42_method_154_code 3 = .ok (.ifCond .eq 14, 3) := by decide +kernel
theorem d_jdk_42_method_154_code_6 : decode jdk_42_method_154_code 6 = .ok (.aload_n 0, 1) := by decide +kernel
theorem d_jdk_42_method_154_code_7 : decode jdk_42_method_154_code 7 = .ok (.getfield 15, 3) := by decide +kernel
theorem d_jdk_42_method_154_code_10 : decode jdk_42_method_154_code 10 = .ok (.ifCond .ne 7, 3) := by decide +kernel
theorem d_jdk_42_method_154_code_13 : decode jdk_42_method_154_code 13 = .ok (.iconst 1, 1) := by decide +kernel
theorem d_jdk_42_method_154_code_14 : decode jdk_42_method_154_code 14 = .ok (.goto 4, 3) := by decide +kernel
theorem d_jdk_42_method_154_code_17 : decode jdk_42_method_154_code 17 = .ok (.iconst 0, 1) := by decide +kernel
theorem d_jdk_42_method_154_code_18 : decode jdk_42_method_154_code 18 = .ok (.ireturn, 1) := by decide +kernel
set_option maxRecDepth 65536 in
set_option maxHeartbeats 40000000 in
theorem rm_latin (l : Launch) (Z : State) (a0 : Array Value) (hw : ∀ d ∈ tables_1, d.before a0 Z = true) (zc : Int32) (a : Addr) (h0 : Heap) (n0 : Nat) (hn0 : n0 ≤ h0.size) (S_c : Sta Z Z.heap "java/lang/String" "COMPACT_STRINGS" "Z" (.int zc)) (hzc : ¬ zc = (0 : Int32)) (O0 : Old Z n0 h0) (F0 : Fld Z h0 a "java/lang/String" "coder" "B" (.int (0 : Int32))) :
    Con l Z (⟨"java/lang/String", "isLatin1", "()Z"⟩ : MethodName) jdk_42_method_154_code 1 (some .boolean) [] ({ frames := 0, cells := 0, slots := 0, locals := 0 } : Room) #[(.ref a)] h0 (fun v h L => v = some (.int (1 : Int32)) ∧ Fr n0 L ∧ h = h0) := by
  refine enter (Ls := #[.val (.ref a)]) (plainFor_of_name pn_3) (fun m => by exact entry_eq rfl) ?_
  intro p e s m below meth cd_ s₁ S0 hx hby hml hret hlk hnm hown hZ X0 e0 k0
  have N0 := Fr.nil n0
  obtain ⟨T1, X1, e1, st1⟩ := getS2 X0 hx hZ hown (host := "") (Or.inl (wq hw 69 rfl)) Via.refl e0 (staOld S_c O0) (g := (mkF m 0 #[.val (.ref a)] [])) rfl (hb hby d_jdk_42_method_154_code_0)
  have k1 : To p.tables e below S0 (T1.setTop (mkF m 3 #[.val (.ref a)] [(.int zc)])) := fun tt hq => k0 tt (st1 tt hq)
  have k2 : To p.tables e below S0 (T1.setTop (mkF m 7 #[.val (.ref a)] [(.ref a)])) := fun tt hq => k1 tt (by
    refine XS.ifNo X1.here hx rfl (hb hby d_jdk_42_method_154_code_3) rfl ((if0 _ _).trans (feq hzc).1) ?_
    refine XS.aloadN X1.here hx rfl (hb hby d_jdk_42_method_154_code_6) rfl rfl ?_
    exact hq)
  obtain ⟨T3, X3, e3, st3⟩ := getF X1 hx hZ hown (host := "") (Or.inl (wq hw 81 rfl)) Via.refl e1 F0 (g := (mkF m 7 #[.val (.ref a)] [(.ref a)])) rfl rfl (hb hby d_jdk_42_method_154_code_7)
  have k3 : To p.tables e below S0 (T3.setTop (mkF m 10 #[.val (.ref a)] [(.int (0 : Int32))])) := fun tt hq => k2 tt (st3 tt hq)
  have k4 : To p.tables e below S0 (T3.setTop (mkF m 18 #[.val (.ref a)] [(.int (1 : Int32))])) := fun tt hq => k3 tt (by
    refine XS.ifNo X3.here hx rfl (hb hby d_jdk_42_method_154_code_10) rfl ((if0 _ _).trans (teq (by decide)).2) ?_
    refine XS.iconst X3.here hx rfl (hb hby d_jdk_42_method_154_code_13) ?_
    refine XS.goto X3.here hx rfl (pc0 := 14) (pc' := 18) rfl (hb hby d_jdk_42_method_154_code_14) (by decide) (by decide) ?_
    exact hq)
  have hE := e3
  refine retInt X3 hx hret hlk (by simp) rfl (hb hby d_jdk_42_method_154_code_18) k4 ?_ (by decide) (by decide)
  try rw [hE]
  exact ⟨rfl, N0, rfl⟩
theorem d_jdk_41_method_11_code_0 : decode jdk_41_method_11_code 0 = .ok (.iload_n 0, 1) := by decide +kernel
theorem d_jdk_41_method_11_code_1 : decode jdk_41_method_11_code 1 = .ok (.ifCond .lt 8, 3) := by decide +kernel
theorem d_jdk_41_method_11_code_4 : decode jdk_41_method_11_code 4 = .ok (.iload_n 0, 1) := by decide +kernel
theorem d_jdk_41_method_11_code_5 : decode jdk_41_method_11_code 5 = .ok (.iload_n 1, 1) := by decide +kernel
theorem d_jdk_41_method_11_code_6 : decode jdk_41_method_11_code 6 = .ok (.if_icmp .lt 10, 3) := by decide +kernel
theorem d_jdk_41_method_11_code_9 : decode jdk_41_method_11_code 9 = .ok (.aload_n 2, 1) := by decide +kernel
theorem d_jdk_41_method_11_code_10 : decode jdk_41_method_11_code 10 = .ok (.iload_n 0, 1) := by decide +kernel
theorem d_jdk_41_method_11_code_11 : decode jdk_41_method_11_code 11 = .ok (.iload_n 1, 1) := by decide +kernel
theorem d_jdk_41_method_11_code_12 : decode jdk_41_method_11_code 12 = .ok (.invokestatic 95, 3) := by decide +kernel
theorem d_jdk_41_method_11_code_15 : decode jdk_41_method_11_code 15 = .ok (.athrow, 1) := by decide +kernel
theorem d_jdk_41_method_11_code_16 : decode jdk_41_method_11_code 16 = .ok (.iload_n 0, 1) := by decide +kernel
theorem d_jdk_41_method_11_code_17 : decode jdk_41_method_11_code 17 = .ok (.ireturn, 1) := by decide +kernel
set_option maxRecDepth 65536 in
set_option maxHeartbeats 40000000 in
theorem rm_pchk (l : Launch) (Z : State) (a0 : Array Value) (hw : ∀ d ∈ tables_1, d.before a0 Z = true) (i : Int32) (n : Int32) (fm : Value) (h0 : Heap) (n0 : Nat) (hn0 : n0 ≤ h0.size) (hfm : fm.isRef = true) (hi0 : ¬ i < (0 : Int32)) (hi1 : i < n) :
    Con l Z (⟨"jdk/internal/util/Preconditions", "checkIndex", "(IILjava/util/function/BiFunction;)I"⟩ : MethodName) jdk_41_method_11_code 3 (some .int) [] ({ frames := 0, cells := 0, slots := 0, locals := 0 } : Room) #[(.int i), (.int n), fm] h0 (fun v h L => v = some (.int i) ∧ Fr n0 L ∧ h = h0) := by
  refine enter (Ls := #[.val (.int i), .val (.int n), .val fm]) (plainFor_of_name pn_2) (fun m => by rcases ref_cases hfm with rfl | ⟨z, rfl⟩ <;> exact entry_eq rfl) ?_
  intro p e s m below meth cd_ s₁ S0 hx hby hml hret hlk hnm hown hZ X0 e0 k0
  have N0 := Fr.nil n0
  have k1 : To p.tables e below S0 (s₁.setTop (mkF m 17 #[.val (.int i), .val (.int n), .val fm] [(.int i)])) := fun tt hq => k0 tt (by
    refine XS.iloadN X0.here hx rfl (hb hby d_jdk_41_method_11_code_0) rfl ?_
    refine XS.ifNo X0.here hx rfl (hb hby d_jdk_41_method_11_code_1) rfl ((if0 _ _).trans (flt hi0).1) ?_
    refine XS.iloadN X0.here hx rfl (hb hby d_jdk_41_method_11_code_4) rfl ?_
    refine XS.iloadN X0.here hx rfl (hb hby d_jdk_41_method_11_code_5) rfl ?_
    refine XS.icmpYes X0.here hx rfl (pc0 := 6) (pc' := 16) rfl (hb hby d_jdk_41_method_11_code_6) rfl (tlt hi1).1 (by decide) (by decide) ?_
    refine XS.iloadN X0.here hx rfl (hb hby d_jdk_41_method_11_code_16) rfl ?_
    exact hq)
  have hE := e0
  refine retInt X0 hx hret hlk (by simp) rfl (hb hby d_jdk_41_method_11_code_17) k1 ?_ (by decide) (by decide)
  try rw [hE]
  exact ⟨rfl, N0, rfl⟩
theorem d_jdk_42_method_155_code_0 : decode jdk_42_method_155_code 0 = .ok (.iload_n 0, 1) := by decide +kernel
theorem d_jdk_42_method_155_code_1 : decode jdk_42_method_155_code 1 = .ok (.iload_n 1, 1) := by decide +kernel
theorem d_jdk_42_method_155_code_2 : decode jdk_42_method_155_code 2 = .ok (.getstatic 1053, 3) := by decide +kernel
theorem d_jdk_42_method_155_code_5 : decode jdk_42_method_155_code 5 = .ok (.invokestatic 1059, 3) := by decide +kernel
theorem d_jdk_42_method_155_code_8 : decode jdk_42_method_155_code 8 = .ok (.pop, 1) := by decide +kernel
theorem d_jdk_42_method_155_code_9 : decode jdk_42_method_155_code 9 = .ok (.return_, 1) := by decide +kernel
theorem pd_3 : parseMethodDescriptor "(IILjava/util/function/BiFunction;)I" = some ⟨[.int, .int, (.object "java/util/function/BiFunction")], some .int⟩ := by decide +kernel
set_option maxRecDepth 65536 in
set_option maxHeartbeats 40000000 in
theorem rm_chk (l : Launch) (Z : State) (a0 : Array Value) (hw : ∀ d ∈ tables_1, d.before a0 Z = true) (fm : Value) (i : Int32) (n : Int32) (h0 : Heap) (n0 : Nat) (hn0 : n0 ≤ h0.size) (S_f : Sta Z Z.heap "jdk/internal/util/Preconditions" "SIOOBE_FORMATTER" "Ljava/util/function/BiFunction;" fm) (hfm : fm.isRef = true) (O0 : Old Z n0 h0) (hi0 : ¬ i < (0 : Int32)) (hi1 : i < n) :
    Con l Z (⟨"java/lang/String", "checkIndex", "(II)V"⟩ : MethodName) jdk_42_method_155_code 2 none [] ({ frames := 1, cells := 0, slots := 0, locals := 14 } : Room) #[(.int i), (.int n)] h0 (fun v h L => v = none ∧ Fr n0 L ∧ h = h0) := by
  refine enter (Ls := #[.val (.int i), .val (.int n)]) (plainFor_of_name pn_3) (fun m => by exact entry_eq rfl) ?_
  intro p e s m below meth cd_ s₁ S0 hx hby hml hret hlk hnm hown hZ X0 e0 k0
  have N0 := Fr.nil n0
  have k1 : To p.tables e below S0 (s₁.setTop (mkF m 2 #[.val (.int i), .val (.int n)] [(.int n), (.int i)])) := fun tt hq => k0 tt (by
    refine XS.iloadN X0.here hx rfl (hb hby d_jdk_42_method_155_code_0) rfl ?_
    refine XS.iloadN X0.here hx rfl (hb hby d_jdk_42_method_155_code_1) rfl ?_
    exact hq)
  obtain ⟨T2, X2, e2, st2⟩ := getS2 X0 hx hZ hown (host := "") (Or.inl (wq hw 59 rfl)) Via.refl e0 (staOld S_f O0) (g := (mkF m 2 #[.val (.int i), .val (.int n)] [(.int n), (.int i)])) rfl (hb hby d_jdk_42_method_155_code_2)
  have k2 : To p.tables e below S0 (T2.setTop (mkF m 5 #[.val (.int i), .val (.int n)] [fm, (.int n), (.int i)])) := fun tt hq => k1 tt (st2 tt hq)
  obtain ⟨_, T3, L3, X3, ⟨rfl, Nq3, eq3⟩, k3a⟩ := callS' X2 hx hZ (y := (⟨"jdk/internal/util/Preconditions", "checkIndex", "(IILjava/util/function/BiFunction;)I"⟩ : MethodName)) hown (wq hw 124 rfl) (wq hw 105 rfl) (wq hw 60 rfl) (wq hw 106 rfl) (by decide) (backC (W := 0) (rm_pchk l Z a0 hw i n fm h0 n0 (by omega) hfm hi0 hi1) hZ (wq hw 106 rfl) (wq hw 60 rfl) (by decide) (by decide)) e2 (argsL := [(.int i), (.int n), fm]) (rest := []) rfl rfl pd_3 rfl (by rw [hml]; rfl) (hb hby d_jdk_42_method_155_code_5) (Nat.le_of_eq rfl) (by decide) (by decide) k2
  have k3 : To p.tables e below S0 (T3.setTop (mkF m 8 #[.val (.int i), .val (.int n)] [(.int i)])) := k3a
  have N3 := N0.app Nq3
  have e3 : T3.heap = h0 := eq3
  have k4 : To p.tables e below S0 (T3.setTop (mkF m 9 #[.val (.int i), .val (.int n)] [])) := fun tt hq => k3 tt (by
    refine XS.pop X3.here hx rfl (hb hby d_jdk_42_method_155_code_8) rfl rfl ?_
    exact hq)
  have hE := e3
  refine retVoid X3 hx hret hlk (hb hby d_jdk_42_method_155_code_9) k4 ?_ (by decide) (by decide)
  try rw [hE]
  exact ⟨rfl, N3, rfl⟩
theorem d_jdk_31_method_17_code_0 : decode jdk_31_method_17_code 0 = .ok (.iload_n 0, 1) := by decide +kernel
theorem d_jdk_31_method_17_code_1 : decode jdk_31_method_17_code 1 = .ok (.iload_n 1, 1) := by decide +kernel
theorem d_jdk_31_method_17_code_2 : decode jdk_31_method_17_code 2 = .ok (.aconst_null, 1) := by decide +kernel
theorem d_jdk_31_method_17_code_3 : decode jdk_31_method_17_code 3 = .ok (.invokestatic 105, 3) := by decide +kernel
theorem d_jdk_31_method_17_code_6 : decode jdk_31_method_17_code 6 = .ok (.ireturn, 1) := by decide +kernel
theorem pn_4 : plainName "java/util/Objects" = true := by first | (simp [plainName, overriddenIn]; done) | decide +kernel
set_option maxRecDepth 65536 in
set_option maxHeartbeats 40000000 in
theorem rm_ock (l : Launch) (Z : State) (a0 : Array Value) (hw : ∀ d ∈ tables_1, d.before a0 Z = true) (i : Int32) (n : Int32) (h0 : Heap) (n0 : Nat) (hn0 : n0 ≤ h0.size) (hi0 : ¬ i < (0 : Int32)) (hi1 : i < n) :
    Con l Z (⟨"java/util/Objects", "checkIndex", "(II)I"⟩ : MethodName) jdk_31_method_17_code 2 (some .int) [] ({ frames := 1, cells := 0, slots := 0, locals := 14 } : Room) #[(.int i), (.int n)] h0 (fun v h L => v = some (.int i) ∧ Fr n0 L ∧ h = h0) := by
  refine enter (Ls := #[.val (.int i), .val (.int n)]) (plainFor_of_name pn_4) (fun m => by exact entry_eq rfl) ?_
  intro p e s m below meth cd_ s₁ S0 hx hby hml hret hlk hnm hown hZ X0 e0 k0
  have N0 := Fr.nil n0
  have k1 : To p.tables e below S0 (s₁.setTop (mkF m 3 #[.val (.int i), .val (.int n)] [.null, (.int n), (.int i)])) := fun tt hq => k0 tt (by
    refine XS.iloadN X0.here hx rfl (hb hby d_jdk_31_method_17_code_0) rfl ?_
    refine XS.iloadN X0.here hx rfl (hb hby d_jdk_31_method_17_code_1) rfl ?_
    refine XS.aconstNull X0.here hx rfl (hb hby d_jdk_31_method_17_code_2) ?_
    exact hq)
  obtain ⟨_, T2, L2, X2, ⟨rfl, Nq2, eq2⟩, k2a⟩ := callS' X0 hx hZ (y := (⟨"jdk/internal/util/Preconditions", "checkIndex", "(IILjava/util/function/BiFunction;)I"⟩ : MethodName)) hown (wq hw 104 rfl) (wq hw 105 rfl) (wq hw 60 rfl) (wq hw 106 rfl) (by decide) (backC (W := 0) (rm_pchk l Z a0 hw i n .null h0 n0 (by omega) rfl hi0 hi1) hZ (wq hw 106 rfl) (wq hw 60 rfl) (by decide) (by decide)) e0 (argsL := [(.int i), (.int n), .null]) (rest := []) rfl rfl pd_3 rfl (by rw [hml]; rfl) (hb hby d_jdk_31_method_17_code_3) (Nat.le_of_eq rfl) (by decide) (by decide) k1
  have k2 : To p.tables e below S0 (T2.setTop (mkF m 6 #[.val (.int i), .val (.int n)] [(.int i)])) := k2a
  have N2 := N0.app Nq2
  have e2 : T2.heap = h0 := eq2
  have hE := e2
  refine retInt X2 hx hret hlk (by simp) rfl (hb hby d_jdk_31_method_17_code_6) k2 ?_ (by decide) (by decide)
  try rw [hE]
  exact ⟨rfl, N2, rfl⟩
theorem d_prog_26_method_6_code_0 : decode prog_26_method_6_code 0 = .ok (.aload_n 0, 1) := by decide +kernel
theorem d_prog_26_method_6_code_1 : decode prog_26_method_6_code 1 = .ok (.getfield 7, 3) := by decide +kernel
theorem d_prog_26_method_6_code_4 : decode prog_26_method_6_code 4 = .ok (.aload_n 0, 1) := by decide +kernel
theorem d_prog_26_method_6_code_5 : decode prog_26_method_6_code 5 = .ok (.getfield 13, 3) := by decide +kernel
theorem d_prog_26_method_6_code_8 : decode prog_26_method_6_code 8 = .ok (.iload_n 1, 1) := by decide +kernel
theorem d_prog_26_method_6_code_9 : decode prog_26_method_6_code 9 = .ok (.aload_n 0, 1) := by decide +kernel
theorem d_prog_26_method_6_code_10 : decode prog_26_method_6_code 10 = .ok (.getfield 17, 3) := by decide +kernel
theorem d_prog_26_method_6_code_13 : decode prog_26_method_6_code 13 = .ok (.invokestatic 20, 3) := by decide +kernel
theorem d_prog_26_method_6_code_16 : decode prog_26_method_6_code 16 = .ok (.iadd, 1) := by decide +kernel
theorem d_prog_26_method_6_code_17 : decode prog_26_method_6_code 17 = .ok (.caload, 1) := by decide +kernel
theorem d_prog_26_method_6_code_18 : decode prog_26_method_6_code 18 = .ok (.ireturn, 1) := by decide +kernel
theorem pd_4 : parseMethodDescriptor "(II)I" = some ⟨[.int, .int], some .int⟩ := by decide +kernel
set_option maxRecDepth 65536 in
set_option maxHeartbeats 40000000 in
theorem rm_ica (l : Launch) (Z : State) (a0 : Array Value) (hw : ∀ d ∈ tables_1, d.before a0 Z = true) (r : Addr) (b : Addr) (kb : ClassId) (f : Int32) (d0 : Int32) (d1 : Int32) (d2 : Int32) (d3 : Int32) (d4 : Int32) (d5 : Int32) (n : Int32) (i : Int32) (h0 : Heap) (n0 : Nat) (hn0 : n0 ≤ h0.size) (R0 : Exa Z h0 r "strikebound/cli/InPlaceText") (R1 : Fld Z h0 r "strikebound/cli/InPlaceText" "chars" "[C" (.ref b)) (R2 : Fld Z h0 r "strikebound/cli/InPlaceText" "start" "I" (.int f)) (R3 : Fld Z h0 r "strikebound/cli/InPlaceText" "length" "I" (.int n)) (P0 : Arv Z h0 b kb .char (6 : Int32) [(.int d0), (.int d1), (.int d2), (.int d3), (.int d4), (.int d5)] (.int (0 : Int32))) (hm : ∀ i : Int32, ¬ own_at [d0, d1, d2, d3, d4, d5] i < (0 : Int32) ∧ ¬ (255 : Int32) < own_at [d0, d1, d2, d3, d4, d5] i) (hj : ¬ (f + i) < (0 : Int32) ∧ (f + i) < (6 : Int32)) (hi0 : ¬ i < (0 : Int32)) (hi1 : i < n) :
    Con l Z (⟨"strikebound/cli/InPlaceText", "charAt", "(I)C"⟩ : MethodName) prog_26_method_6_code 2 (some .char) [] ({ frames := 2, cells := 0, slots := 0, locals := 29 } : Room) #[(.ref r), (.int i)] h0 (fun v h L => v = some (.int (own_at [d0, d1, d2, d3, d4, d5] (f + i))) ∧ Fr n0 L ∧ h = h0) := by
  refine enter (Ls := #[.val (.ref r), .val (.int i)]) (plainFor_of_name pn_1) (fun m => by exact entry_eq rfl) ?_
  intro p e s m below meth cd_ s₁ S0 hx hby hml hret hlk hnm hown hZ X0 e0 k0
  have N0 := Fr.nil n0
  have k1 : To p.tables e below S0 (s₁.setTop (mkF m 1 #[.val (.ref r), .val (.int i)] [(.ref r)])) := fun tt hq => k0 tt (by
    refine XS.aloadN X0.here hx rfl (hb hby d_prog_26_method_6_code_0) rfl rfl ?_
    exact hq)
  obtain ⟨T2, X2, e2, st2⟩ := getF X0 hx hZ hown (host := "") (Or.inl (wq hw 16 rfl)) Via.refl e0 R1 (g := (mkF m 1 #[.val (.ref r), .val (.int i)] [(.ref r)])) rfl rfl (hb hby d_prog_26_method_6_code_1)
  have k2 : To p.tables e below S0 (T2.setTop (mkF m 4 #[.val (.ref r), .val (.int i)] [(.ref b)])) := fun tt hq => k1 tt (st2 tt hq)
  have k3 : To p.tables e below S0 (T2.setTop (mkF m 5 #[.val (.ref r), .val (.int i)] [(.ref r), (.ref b)])) := fun tt hq => k2 tt (by
    refine XS.aloadN X2.here hx rfl (hb hby d_prog_26_method_6_code_4) rfl rfl ?_
    exact hq)
  obtain ⟨T4, X4, e4, st4⟩ := getF X2 hx hZ hown (host := "") (Or.inl (wq hw 23 rfl)) Via.refl e2 R2 (g := (mkF m 5 #[.val (.ref r), .val (.int i)] [(.ref r), (.ref b)])) rfl rfl (hb hby d_prog_26_method_6_code_5)
  have k4 : To p.tables e below S0 (T4.setTop (mkF m 8 #[.val (.ref r), .val (.int i)] [(.int f), (.ref b)])) := fun tt hq => k3 tt (st4 tt hq)
  have k5 : To p.tables e below S0 (T4.setTop (mkF m 10 #[.val (.ref r), .val (.int i)] [(.ref r), (.int i), (.int f), (.ref b)])) := fun tt hq => k4 tt (by
    refine XS.iloadN X4.here hx rfl (hb hby d_prog_26_method_6_code_8) rfl ?_
    refine XS.aloadN X4.here hx rfl (hb hby d_prog_26_method_6_code_9) rfl rfl ?_
    exact hq)
  obtain ⟨T6, X6, e6, st6⟩ := getF X4 hx hZ hown (host := "") (Or.inl (wq hw 25 rfl)) Via.refl e4 R3 (g := (mkF m 10 #[.val (.ref r), .val (.int i)] [(.ref r), (.int i), (.int f), (.ref b)])) rfl rfl (hb hby d_prog_26_method_6_code_10)
  have k6 : To p.tables e below S0 (T6.setTop (mkF m 13 #[.val (.ref r), .val (.int i)] [(.int n), (.int i), (.int f), (.ref b)])) := fun tt hq => k5 tt (st6 tt hq)
  obtain ⟨_, T7, L7, X7, ⟨rfl, Nq7, eq7⟩, k7a⟩ := callS' X6 hx hZ (y := (⟨"java/util/Objects", "checkIndex", "(II)I"⟩ : MethodName)) hown (wq hw 100 rfl) (wq hw 101 rfl) (wq hw 102 rfl) (wq hw 103 rfl) (by decide) (backC (W := 2) (rm_ock l Z a0 hw i n h0 n0 (by omega) hi0 hi1) hZ (wq hw 103 rfl) (wq hw 102 rfl) (by decide) (by decide)) e6 (argsL := [(.int i), (.int n)]) (rest := [(.int f), (.ref b)]) rfl rfl pd_4 rfl (by rw [hml]; rfl) (hb hby d_prog_26_method_6_code_13) (Nat.le_of_eq rfl) (by decide) (by decide) k6
  have k7 : To p.tables e below S0 (T7.setTop (mkF m 16 #[.val (.ref r), .val (.int i)] [(.int i), (.int f), (.ref b)])) := k7a
  have N7 := N0.app Nq7
  have e7 : T7.heap = h0 := eq7
  have k8 : To p.tables e below S0 (T7.setTop (mkF m 17 #[.val (.ref r), .val (.int i)] [(.int (f + i)), (.ref b)])) := fun tt hq => k7 tt (by
    refine XS.iadd X7.here hx rfl (hb hby d_prog_26_method_6_code_16) rfl ?_
    exact hq)
  obtain ⟨cl9, Ar9, -, S9, -, G9, -⟩ := id P0
  have hi9 := inb_of (j := (f + i)) S9 (hj)
  have st9 := fun tt => X7.caload hx (j := (f + i)) (v := (.int (own_at [d0, d1, d2, d3, d4, d5] (f + i)))) (by rw [e7]; exact Ar9.1) (State.isArrayOf_alike hZ.alike Ar9.2.1) Ar9.2.2 hi9 (G9.at hi9 (own_atv [d0, d1, d2, d3, d4, d5] (f + i))) (g := (mkF m 17 #[.val (.ref r), .val (.int i)] [(.int (f + i)), (.ref b)])) rfl rfl (hb hby d_prog_26_method_6_code_17) tt
  have k9 : To p.tables e below S0 (T7.setTop (mkF m 18 #[.val (.ref r), .val (.int i)] [(.int (own_at [d0, d1, d2, d3, d4, d5] (f + i)))])) := fun tt hq => k8 tt (st9 tt hq)
  have hE := e7
  refine retInt X7 hx hret hlk (by simp) (congrArg Value.int (own_narc (hm _))) (hb hby d_prog_26_method_6_code_18) k9 ?_ (by decide) (by decide)
  try rw [hE]
  exact ⟨rfl, N7, rfl⟩
theorem pd_5 : parseMethodDescriptor "(JI)C" = some ⟨[.long, .int], some .char⟩ := by decide +kernel
theorem pd_6 : parseMethodDescriptor "()V" = some ⟨[], none⟩ := by decide +kernel
theorem pd_7 : parseMethodDescriptor "([CII)V" = some ⟨[(.array .char), .int, .int], none⟩ := by decide +kernel
theorem pd_8 : parseMethodDescriptor "()[C" = some ⟨[], some (.array .char)⟩ := by decide +kernel
theorem pd_9 : parseMethodDescriptor "()I" = some ⟨[], some .int⟩ := by decide +kernel
theorem d_prog_26_method_8_code_0 : decode prog_26_method_8_code 0 = .ok (.new 30, 3) := by decide +kernel
theorem d_prog_26_method_8_code_3 : decode prog_26_method_8_code 3 = .ok (.dup, 1) := by decide +kernel
theorem d_prog_26_method_8_code_4 : decode prog_26_method_8_code 4 = .ok (.aload_n 0, 1) := by decide +kernel
theorem d_prog_26_method_8_code_5 : decode prog_26_method_8_code 5 = .ok (.getfield 7, 3) := by decide +kernel
theorem d_prog_26_method_8_code_8 : decode prog_26_method_8_code 8 = .ok (.aload_n 0, 1) := by decide +kernel
theorem d_prog_26_method_8_code_9 : decode prog_26_method_8_code 9 = .ok (.getfield 13, 3) := by decide +kernel
theorem d_prog_26_method_8_code_12 : decode prog_26_method_8_code 12 = .ok (.aload_n 0, 1) := by decide +kernel
theorem d_prog_26_method_8_code_13 : decode prog_26_method_8_code 13 = .ok (.getfield 17, 3) := by decide +kernel
theorem d_prog_26_method_8_code_16 : decode prog_26_method_8_code 16 = .ok (.invokespecial 32, 3) := by decide +kernel
theorem d_prog_26_method_8_code_19 : decode prog_26_method_8_code 19 = .ok (.areturn, 1) := by decide +kernel
theorem d_jdk_42_method_4_code_0 : decode jdk_42_method_4_code 0 = .ok (.aload_n 0, 1) := by decide +kernel
theorem d_jdk_42_method_4_code_1 : decode jdk_42_method_4_code 1 = .ok (.aload_n 1, 1) := by decide +kernel
theorem d_jdk_42_method_4_code_2 : decode jdk_42_method_4_code 2 = .ok (.iload_n 2, 1) := by decide +kernel
theorem d_jdk_42_method_4_code_3 : decode jdk_42_method_4_code 3 = .ok (.iload_n 3, 1) := by decide +kernel
theorem d_jdk_42_method_4_code_4 : decode jdk_42_method_4_code 4 = .ok (.aload_n 1, 1) := by decide +kernel
theorem d_jdk_42_method_4_code_5 : decode jdk_42_method_4_code 5 = .ok (.iload_n 2, 1) := by decide +kernel
theorem d_jdk_42_method_4_code_6 : decode jdk_42_method_4_code 6 = .ok (.iload_n 3, 1) := by decide +kernel
theorem d_jdk_42_method_4_code_7 : decode jdk_42_method_4_code 7 = .ok (.invokestatic 30, 3) := by decide +kernel
theorem d_jdk_42_method_4_code_10 : decode jdk_42_method_4_code 10 = .ok (.invokespecial 27, 3) := by decide +kernel
theorem d_jdk_42_method_4_code_13 : decode jdk_42_method_4_code 13 = .ok (.return_, 1) := by decide +kernel
theorem pd_10 : parseMethodDescriptor "([CII)Ljava/lang/Void;" = some ⟨[(.array .char), .int, .int], some (.object "java/lang/Void")⟩ := by decide +kernel
theorem d_jdk_42_method_149_code_0 : decode jdk_42_method_149_code 0 = .ok (.aload_n 0, 1) := by decide +kernel
theorem d_jdk_42_method_149_code_1 : decode jdk_42_method_149_code 1 = .ok (.invokespecial 1, 3) := by decide +kernel
theorem d_jdk_42_method_149_code_4 : decode jdk_42_method_149_code 4 = .ok (.iload_n 3, 1) := by decide +kernel
theorem d_jdk_42_method_149_code_5 : decode jdk_42_method_149_code 5 = .ok (.ifCond .ne 22, 3) := by decide +kernel
theorem d_jdk_42_method_149_code_8 : decode jdk_42_method_149_code 8 = .ok (.aload_n 0, 1) := by decide +kernel
theorem d_jdk_42_method_149_code_9 : decode jdk_42_method_149_code 9 = .ok (.ldc 7, 2) := by decide +kernel
theorem d_jdk_42_method_149_code_11 : decode jdk_42_method_149_code 11 = .ok (.getfield 9, 3) := by decide +kernel
theorem d_jdk_42_method_149_code_14 : decode jdk_42_method_149_code 14 = .ok (.putfield 9, 3) := by decide +kernel
theorem d_jdk_42_method_149_code_17 : decode jdk_42_method_149_code 17 = .ok (.aload_n 0, 1) := by decide +kernel
theorem d_jdk_42_method_149_code_18 : decode jdk_42_method_149_code 18 = .ok (.ldc 7, 2) := by decide +kernel
theorem d_jdk_42_method_149_code_20 : decode jdk_42_method_149_code 20 = .ok (.getfield 15, 3) := by decide +kernel
theorem d_jdk_42_method_149_code_23 : decode jdk_42_method_149_code 23 = .ok (.putfield 15, 3) := by decide +kernel
theorem d_jdk_42_method_149_code_26 : decode jdk_42_method_149_code 26 = .ok (.return_, 1) := by decide +kernel
theorem d_jdk_42_method_149_code_27 : decode jdk_42_method_149_code 27 = .ok (.getstatic 38, 3) := by decide +kernel
theorem d_jdk_42_method_149_code_30 : decode jdk_42_method_149_code 30 = .ok (.ifCond .eq 28, 3) := by decide +kernel
theorem d_jdk_42_method_149_code_33 : decode jdk_42_method_149_code 33 = .ok (.aload_n 1, 1) := by decide +kernel
theorem d_jdk_42_method_149_code_34 : decode jdk_42_method_149_code 34 = .ok (.iload_n 2, 1) := by decide +kernel
theorem d_jdk_42_method_149_code_35 : decode jdk_42_method_149_code 35 = .ok (.iload_n 3, 1) := by decide +kernel
theorem d_jdk_42_method_149_code_36 : decode jdk_42_method_149_code 36 = .ok (.invokestatic 177, 3) := by decide +kernel
theorem d_jdk_42_method_149_code_39 : decode jdk_42_method_149_code 39 = .ok (.astore 5, 2) := by decide +kernel
theorem d_jdk_42_method_149_code_41 : decode jdk_42_method_149_code 41 = .ok (.aload_n 0, 1) := by decide +kernel
theorem d_jdk_42_method_149_code_42 : decode jdk_42_method_149_code 42 = .ok (.aload 5, 2) := by decide +kernel
theorem d_jdk_42_method_149_code_44 : decode jdk_42_method_149_code 44 = .ok (.iload_n 3, 1) := by decide +kernel
theorem d_jdk_42_method_149_code_45 : decode jdk_42_method_149_code 45 = .ok (.invokestatic 47, 3) := by decide +kernel
theorem d_jdk_42_method_149_code_48 : decode jdk_42_method_149_code 48 = .ok (.putfield 15, 3) := by decide +kernel
theorem d_jdk_42_method_149_code_51 : decode jdk_42_method_149_code 51 = .ok (.aload_n 0, 1) := by decide +kernel
theorem d_jdk_42_method_149_code_52 : decode jdk_42_method_149_code 52 = .ok (.aload 5, 2) := by decide +kernel
theorem d_jdk_42_method_149_code_54 : decode jdk_42_method_149_code 54 = .ok (.putfield 9, 3) := by decide +kernel
theorem d_jdk_42_method_149_code_57 : decode jdk_42_method_149_code 57 = .ok (.return_, 1) := by decide +kernel
theorem d_jdk_42_method_149_code_58 : decode jdk_42_method_149_code 58 = .ok (.aload_n 0, 1) := by decide +kernel
theorem d_jdk_42_method_149_code_59 : decode jdk_42_method_149_code 59 = .ok (.iconst 1, 1) := by decide +kernel
theorem d_jdk_42_method_149_code_60 : decode jdk_42_method_149_code 60 = .ok (.putfield 15, 3) := by decide +kernel
theorem d_jdk_42_method_149_code_63 : decode jdk_42_method_149_code 63 = .ok (.aload_n 0, 1) := by decide +kernel
theorem d_jdk_42_method_149_code_64 : decode jdk_42_method_149_code 64 = .ok (.aload_n 1, 1) := by decide +kernel
theorem d_jdk_42_method_149_code_65 : decode jdk_42_method_149_code 65 = .ok (.iload_n 2, 1) := by decide +kernel
theorem d_jdk_42_method_149_code_66 : decode jdk_42_method_149_code 66 = .ok (.iload_n 3, 1) := by decide +kernel
theorem d_jdk_42_method_149_code_67 : decode jdk_42_method_149_code 67 = .ok (.invokestatic 180, 3) := by decide +kernel
theorem d_jdk_42_method_149_code_70 : decode jdk_42_method_149_code 70 = .ok (.putfield 9, 3) := by decide +kernel
theorem d_jdk_42_method_149_code_73 : decode jdk_42_method_149_code 73 = .ok (.return_, 1) := by decide +kernel
set_option maxRecDepth 65536 in
set_option maxHeartbeats 40000000 in
theorem rm_n4_0 (l : Launch) (Z : State) (a0 : Array Value) (hw : ∀ d ∈ tables_1, d.before a0 Z = true) (zc : Int32) (a : Addr) (b : Addr) (kb : ClassId) (u1 : Value) (u2 : Value) (f : Int32) (d0 : Int32) (d1 : Int32) (d2 : Int32) (d3 : Int32) (d4 : Int32) (d5 : Int32) (h0 : Heap) (n0 : Nat) (hn0 : n0 ≤ h0.size) (S_c : Sta Z Z.heap "java/lang/String" "COMPACT_STRINGS" "Z" (.int zc)) (hzc : ¬ zc = (0 : Int32)) (O0 : Old Z n0 h0) (E0 : Exa Z h0 a "java/lang/String") (F1 : Fld Z h0 a "java/lang/String" "value" "[B" u1) (F2 : Fld Z h0 a "java/lang/String" "coder" "B" u2) (P0 : Arv Z h0 b kb .char (6 : Int32) [(.int d0), (.int d1), (.int d2), (.int d3), (.int d4), (.int d5)] (.int (0 : Int32))) (ga : n0 ≤ a) (ya : @LT.lt Nat instLTNat a h0.size) (yb : @LT.lt Nat instLTNat b h0.size) (nab : ¬ (@Eq Nat b a)) (hf : f = (0 : Int32) ∨ f = (1 : Int32) ∨ f = (2 : Int32) ∨ f = (3 : Int32) ∨ f = (4 : Int32) ∨ f = (5 : Int32) ∨ f = (6 : Int32)) (hm : ∀ i : Int32, ¬ own_at [d0, d1, d2, d3, d4, d5] i < (0 : Int32) ∧ ¬ (255 : Int32) < own_at [d0, d1, d2, d3, d4, d5] i) :
    ConW l Z own_EL (⟨"java/lang/String", "<init>", "([CIILjava/lang/Void;)V"⟩ : MethodName) jdk_42_method_149_code 6 none [] ({ frames := 1, cells := 4, slots := 8, locals := 12 } : Room) #[(.ref a), (.ref b), (.int f), (.int (0 : Int32)), .null] h0 [a] (fun v h L => v = none ∧ Fr n0 L ∧ Keep h0 h [a] ∧ ∃ (t : Addr) (k : ClassId), (@LT.lt Nat instLTNat t h.size) ∧ Exa Z h a "java/lang/String" ∧ Fld Z h a "java/lang/String" "value" "[B" (.ref t) ∧ Fld Z h a "java/lang/String" "coder" "B" (.int (0 : Int32)) ∧ Arv Z h t k .byte (0 : Int32) [] (.int 0)) := by
  refine enterW (Ls := #[.val (.ref a), .val (.ref b), .val (.int f), .val (.int (0 : Int32)), .val .null, .unset]) (plainFor_of_name pn_3) (fun m => by exact entry_eq rfl) ?_
  intro p e s m below meth cd_ s₁ S0 vm0 hx hby hml hret hlk hnm hown hZ X0 e0 k0 C0 hsf hS0
  have N0 := Fr.nil n0
  have Sf_a : Safe Z own_EL vm0 h0 a := hsf _ (List.mem_of_getElem? (i := 0) rfl)
  have k1 : To p.tables e below S0 (s₁.setTop (mkF m 1 #[.val (.ref a), .val (.ref b), .val (.int f), .val (.int (0 : Int32)), .val .null, .unset] [(.ref a)])) := fun tt hq => k0 tt (by
    refine XS.aloadN X0.here hx rfl (hb hby d_jdk_42_method_149_code_0) rfl rfl ?_
    exact hq)
  obtain ⟨T2, X2, e2, st2⟩ := initO X0 hx hZ hown (wq hw 68 rfl) (wq hw 14 rfl) (wq hw 15 rfl) e0 (g := (mkF m 1 #[.val (.ref a), .val (.ref b), .val (.int f), .val (.int (0 : Int32)), .val .null, .unset] [(.ref a)])) rfl (by rw [hml]; rfl) rfl (hb hby d_jdk_42_method_149_code_1) (by decide) (W := 0) (by show 2 * 0 + _ ≤ _; exact Nat.le_of_eq rfl) (by decide)
  have k2 : To p.tables e below S0 (T2.setTop (mkF m 4 #[.val (.ref a), .val (.ref b), .val (.int f), .val (.int (0 : Int32)), .val .null, .unset] [])) := fun tt hq => k1 tt (st2 tt hq)
  have k3 : To p.tables e below S0 (T2.setTop (mkF m 9 #[.val (.ref a), .val (.ref b), .val (.int f), .val (.int (0 : Int32)), .val .null, .unset] [(.ref a)])) := fun tt hq => k2 tt (by
    refine XS.iloadN X2.here hx rfl (hb hby d_jdk_42_method_149_code_4) rfl ?_
    refine XS.ifNo X2.here hx rfl (hb hby d_jdk_42_method_149_code_5) rfl ((if0 _ _).trans (teq (by decide)).2) ?_
    refine XS.aloadN X2.here hx rfl (hb hby d_jdk_42_method_149_code_8) rfl rfl ?_
    exact hq)
  obtain ⟨a4, T4, h4, kk4, b4, c4, X4, e4, E4, hS4, hk4, hZ4a, hown4a, A4, Fc4, Fv4, V4, ya4, yb4, Cq4, -, hne4, st4⟩ := ldcCH X2 hx hZ hown (wq hw 125 rfl) (own_wS hw) e2 hS0 (by omega) (own_EW hw) (List.mem_of_getElem? (i := 0) rfl) C0.1 (vs := []) (z := (0 : Int32)) ⟨by decide, by decide⟩ (by decide) (by decide) (g := (mkF m 9 #[.val (.ref a), .val (.ref b), .val (.int f), .val (.int (0 : Int32)), .val .null, .unset] [(.ref a)])) rfl (hb hby d_jdk_42_method_149_code_9) (n := 0) (by decide) (by decide) (by decide) (by decide)
  have k4 : To p.tables e below S0 (T4.setTop (mkF m 11 #[.val (.ref a), .val (.ref b), .val (.int f), .val (.int (0 : Int32)), .val .null, .unset] [(.ref a4), (.ref a)])) := fun tt hq => k3 tt (st4 tt hq)
  have hZ4 : Z.Warmed39 T4.vm := hZ4a
  have hown4 : T4.vm.findClass "java/lang/String" = some m.cls := hown4a
  have z4 : h0.size ≤ h4.size := E4.1
  have C4 := C0.trans Cq4
  have f5 : Safe Z own_EL T4.vm h4 a := (Cq4.safe (adr_lt (by omega)) Sf_a)
  have nx4_a : ¬ (@Eq Nat a a4) ∧ ¬ (@Eq Nat a b4) := hne4 a f5
  obtain ⟨T6, X6, e6, st6⟩ := getF X4 hx hZ4 hown4 (host := "") (Or.inl (wq hw 83 rfl)) Via.refl e4 Fv4 (g := (mkF m 11 #[.val (.ref a), .val (.ref b), .val (.int f), .val (.int (0 : Int32)), .val .null, .unset] [(.ref a4), (.ref a)])) rfl rfl (hb hby d_jdk_42_method_149_code_11)
  have k6 : To p.tables e below S0 (T6.setTop (mkF m 14 #[.val (.ref a), .val (.ref b), .val (.int f), .val (.int (0 : Int32)), .val .null, .unset] [(.ref b4), (.ref a)])) := fun tt hq => k4 tt (st6 tt hq)
  have f7 : Exa Z h4 a "java/lang/String" := (E0.ext E4)
  have f8 : Fld Z h4 a "java/lang/String" "value" "[B" u1 := (F1.ext E4)
  obtain ⟨T9, h9, X9, e9, W9, st9⟩ := putF X6 hx hZ4 hown4 (host := "") (Or.inl (wq hw 83 rfl)) Via.refl e6 f8 f7 (Or.inr ⟨(wq hw 84 rfl), rfl, hnm⟩) (wq hw 48 rfl) (ty := (.array .byte)) (by decide) rfl rfl (g := (mkF m 14 #[.val (.ref a), .val (.ref b), .val (.int f), .val (.int (0 : Int32)), .val .null, .unset] [(.ref b4), (.ref a)])) rfl rfl (hb hby d_jdk_42_method_149_code_14)
  have k9 : To p.tables e below S0 (T9.setTop (mkF m 17 #[.val (.ref a), .val (.ref b), .val (.int f), .val (.int (0 : Int32)), .val .null, .unset] [])) := fun tt hq => k6 tt (st9 tt hq)
  have z9 : h9.size = h4.size := W9.size
  have F9 := f8.same W9
  have N9 := Fr.snoc X9 N0 (by omega : n0 ≤ a)
  have C9 := C4.trans (CHr.wr W9 f5 C4.1)
  have k10 : To p.tables e below S0 (T9.setTop (mkF m 18 #[.val (.ref a), .val (.ref b), .val (.int f), .val (.int (0 : Int32)), .val .null, .unset] [(.ref a)])) := fun tt hq => k9 tt (by
    refine XS.aloadN X9.here hx rfl (hb hby d_jdk_42_method_149_code_17) rfl rfl ?_
    exact hq)
  obtain ⟨a11, T11, h11, kk11, b11, c11, X11, e11, E11, hS11, hk11, hZ11a, hown11a, A11, Fc11, Fv11, V11, ya11, yb11, Cq11, -, hne11, st11⟩ := ldcCH X9 hx hZ4 hown4 (wq hw 125 rfl) (own_wS hw) e9 hS4 (by omega) (own_EW hw) (List.mem_of_getElem? (i := 0) rfl) C9.1 (vs := []) (z := (0 : Int32)) ⟨by decide, by decide⟩ (by decide) (by decide) (g := (mkF m 18 #[.val (.ref a), .val (.ref b), .val (.int f), .val (.int (0 : Int32)), .val .null, .unset] [(.ref a)])) rfl (hb hby d_jdk_42_method_149_code_18) (n := 0) (by decide) (by decide) (by decide) (by decide)
  have k11 : To p.tables e below S0 (T11.setTop (mkF m 20 #[.val (.ref a), .val (.ref b), .val (.int f), .val (.int (0 : Int32)), .val .null, .unset] [(.ref a11), (.ref a)])) := fun tt hq => k10 tt (st11 tt hq)
  have hZ11 : Z.Warmed39 T11.vm := hZ11a
  have hown11 : T11.vm.findClass "java/lang/String" = some m.cls := hown11a
  have z11 : h9.size ≤ h11.size := E11.1
  have C11 := C9.trans Cq11
  have f12 : Safe Z own_EL T11.vm h11 a := (Cq11.safe (adr_lt (by omega)) (Safe.wr W9 f5 C4.1 f5))
  have nx11_a : ¬ (@Eq Nat a a11) ∧ ¬ (@Eq Nat a b11) := hne11 a f12
  obtain ⟨T13, X13, e13, st13⟩ := getF X11 hx hZ11 hown11 (host := "") (Or.inl (wq hw 81 rfl)) Via.refl e11 Fc11 (g := (mkF m 20 #[.val (.ref a), .val (.ref b), .val (.int f), .val (.int (0 : Int32)), .val .null, .unset] [(.ref a11), (.ref a)])) rfl rfl (hb hby d_jdk_42_method_149_code_20)
  have k13 : To p.tables e below S0 (T13.setTop (mkF m 23 #[.val (.ref a), .val (.ref b), .val (.int f), .val (.int (0 : Int32)), .val .null, .unset] [(.int (0 : Int32)), (.ref a)])) := fun tt hq => k11 tt (st13 tt hq)
  have f14 : Exa Z h11 a "java/lang/String" := ((f7.wr W9).ext E11)
  have f15 : Fld Z h11 a "java/lang/String" "coder" "B" u2 := (((F2.ext E4).other W9 (Or.inr (slot_ne (Or.inr (wq hw 82 rfl)) (Or.inr (wq hw 84 rfl)) (by decide) (t := .byte) (t' := (.array .byte)) (by decide) (by decide)))).ext E11)
  obtain ⟨T16, h16, X16, e16, W16, st16⟩ := putF X13 hx hZ11 hown11 (host := "") (Or.inl (wq hw 81 rfl)) Via.refl e13 f15 f14 (Or.inr ⟨(wq hw 82 rfl), rfl, hnm⟩) (wq hw 48 rfl) (ty := .byte) (by decide) rfl rfl (g := (mkF m 23 #[.val (.ref a), .val (.ref b), .val (.int f), .val (.int (0 : Int32)), .val .null, .unset] [(.int (0 : Int32)), (.ref a)])) rfl rfl (hb hby d_jdk_42_method_149_code_23)
  have k16 : To p.tables e below S0 (T16.setTop (mkF m 26 #[.val (.ref a), .val (.ref b), .val (.int f), .val (.int (0 : Int32)), .val .null, .unset] [])) := fun tt hq => k13 tt (st16 tt hq)
  have z16 : h16.size = h11.size := W16.size
  have F16 := f15.same W16
  have N16 := Fr.snoc X16 N9 (by omega : n0 ≤ a)
  have C16 := C11.trans (CHr.wr W16 f12 C11.1)
  have f17 : Arv Z h16 b4 c4 .byte (0 : Int32) [] (.int 0) := (((V4.other W9 (adr_ne (by omega))).ext E11).other W16 (adr_ne (by omega)))
  have f18 : Exa Z h16 a "java/lang/String" := (f14.wr W16)
  have f19 : Fld Z h16 a "java/lang/String" "value" "[B" (.ref b4) := ((F9.ext E11).other W16 (Or.inr (slot_ne (Or.inr (wq hw 84 rfl)) (Or.inr (wq hw 82 rfl)) (by decide) (t := (.array .byte)) (t' := .byte) (by decide) (by decide))))
  refine retVoidW X16 hx hZ11 (own_EW hw) hS11 (by omega) C16 e16 hret hlk (hb hby d_jdk_42_method_149_code_26) k16 ?_ (by decide) (by decide)
  exact ⟨rfl, N16, (((((Keep.refl h0 [a]).ext E4).wr W9 (Or.inl (by simp))).ext E11).wr W16 (Or.inl (by simp))), b4, c4, f17.lt, f18, f19, F16, f17⟩
theorem pd_11 : parseMethodDescriptor "([CIILjava/lang/Void;)V" = some ⟨[(.array .char), .int, .int, (.object "java/lang/Void")], none⟩ := by decide +kernel
set_option maxRecDepth 65536 in
set_option maxHeartbeats 40000000 in
theorem rm_n3_0 (l : Launch) (Z : State) (a0 : Array Value) (hw : ∀ d ∈ tables_1, d.before a0 Z = true) (zc : Int32) (fm : Value) (a : Addr) (b : Addr) (kb : ClassId) (u1 : Value) (u2 : Value) (f : Int32) (d0 : Int32) (d1 : Int32) (d2 : Int32) (d3 : Int32) (d4 : Int32) (d5 : Int32) (h0 : Heap) (n0 : Nat) (hn0 : n0 ≤ h0.size) (S_c : Sta Z Z.heap "java/lang/String" "COMPACT_STRINGS" "Z" (.int zc)) (hzc : ¬ zc = (0 : Int32)) (S_f : Sta Z Z.heap "jdk/internal/util/Preconditions" "SIOOBE_FORMATTER" "Ljava/util/function/BiFunction;" fm) (hfm : fm.isRef = true) (O0 : Old Z n0 h0) (E0 : Exa Z h0 a "java/lang/String") (F1 : Fld Z h0 a "java/lang/String" "value" "[B" u1) (F2 : Fld Z h0 a "java/lang/String" "coder" "B" u2) (P0 : Arv Z h0 b kb .char (6 : Int32) [(.int d0), (.int d1), (.int d2), (.int d3), (.int d4), (.int d5)] (.int (0 : Int32))) (ga : n0 ≤ a) (ya : @LT.lt Nat instLTNat a h0.size) (yb : @LT.lt Nat instLTNat b h0.size) (nab : ¬ (@Eq Nat b a)) (hf : f = (0 : Int32) ∨ f = (1 : Int32) ∨ f = (2 : Int32) ∨ f = (3 : Int32) ∨ f = (4 : Int32) ∨ f = (5 : Int32) ∨ f = (6 : Int32)) (hm : ∀ i : Int32, ¬ own_at [d0, d1, d2, d3, d4, d5] i < (0 : Int32) ∧ ¬ (255 : Int32) < own_at [d0, d1, d2, d3, d4, d5] i) (q1 : ¬ (((6 : Int32) ||| f) ||| (0 : Int32)) < (0 : Int32)) (q2 : ¬ ((6 : Int32) - f) < (0 : Int32)) :
    ConW l Z own_EL (⟨"java/lang/String", "<init>", "([CII)V"⟩ : MethodName) jdk_42_method_4_code 4 none [] ({ frames := 3, cells := 4, slots := 8, locals := 47 } : Room) #[(.ref a), (.ref b), (.int f), (.int (0 : Int32))] h0 [a] (fun v h L => v = none ∧ Fr n0 L ∧ Keep h0 h [a] ∧ ∃ (t : Addr) (k : ClassId), (@LT.lt Nat instLTNat t h.size) ∧ Exa Z h a "java/lang/String" ∧ Fld Z h a "java/lang/String" "value" "[B" (.ref t) ∧ Fld Z h a "java/lang/String" "coder" "B" (.int (0 : Int32)) ∧ Arv Z h t k .byte (0 : Int32) [] (.int 0)) := by
  refine enterW (Ls := #[.val (.ref a), .val (.ref b), .val (.int f), .val (.int (0 : Int32))]) (plainFor_of_name pn_3) (fun m => by exact entry_eq rfl) ?_
  intro p e s m below meth cd_ s₁ S0 vm0 hx hby hml hret hlk hnm hown hZ X0 e0 k0 C0 hsf hS0
  have N0 := Fr.nil n0
  have Sf_a : Safe Z own_EL vm0 h0 a := hsf _ (List.mem_of_getElem? (i := 0) rfl)
  have k1 : To p.tables e below S0 (s₁.setTop (mkF m 7 #[.val (.ref a), .val (.ref b), .val (.int f), .val (.int (0 : Int32))] [(.int (0 : Int32)), (.int f), (.ref b), (.int (0 : Int32)), (.int f), (.ref b), (.ref a)])) := fun tt hq => k0 tt (by
    refine XS.aloadN X0.here hx rfl (hb hby d_jdk_42_method_4_code_0) rfl rfl ?_
    refine XS.aloadN X0.here hx rfl (hb hby d_jdk_42_method_4_code_1) rfl rfl ?_
    refine XS.iloadN X0.here hx rfl (hb hby d_jdk_42_method_4_code_2) rfl ?_
    refine XS.iloadN X0.here hx rfl (hb hby d_jdk_42_method_4_code_3) rfl ?_
    refine XS.aloadN X0.here hx rfl (hb hby d_jdk_42_method_4_code_4) rfl rfl ?_
    refine XS.iloadN X0.here hx rfl (hb hby d_jdk_42_method_4_code_5) rfl ?_
    refine XS.iloadN X0.here hx rfl (hb hby d_jdk_42_method_4_code_6) rfl ?_
    exact hq)
  obtain ⟨_, T2, L2, X2, ⟨rfl, Nq2, eq2⟩, k2a⟩ := callS' X0 hx hZ (y := (⟨"java/lang/String", "rangeCheck", "([CII)Ljava/lang/Void;"⟩ : MethodName)) hown (wq hw 53 rfl) (wq hw 54 rfl) (wq hw 49 rfl) (wq hw 55 rfl) (by decide) (backC (W := 4) (rm_rck l Z a0 hw fm b kb f (0 : Int32) d0 d1 d2 d3 d4 d5 h0 n0 (by omega) S_f hfm O0 P0 q1 q2) hZ (wq hw 55 rfl) (wq hw 49 rfl) (by decide) (by decide)) e0 (argsL := [(.ref b), (.int f), (.int (0 : Int32))]) (rest := [(.int (0 : Int32)), (.int f), (.ref b), (.ref a)]) rfl rfl pd_10 rfl (by rw [hml]; rfl) (hb hby d_jdk_42_method_4_code_7) (Nat.le_of_eq rfl) (by decide) (by decide) k1
  have k2 : To p.tables e below S0 (T2.setTop (mkF m 10 #[.val (.ref a), .val (.ref b), .val (.int f), .val (.int (0 : Int32))] [.null, (.int (0 : Int32)), (.int f), (.ref b), (.ref a)])) := k2a
  have N2 := N0.app Nq2
  have e2 : T2.heap = h0 := eq2
  obtain ⟨_, T3, L3, X3, ⟨rfl, Nq3, Kq3, t3, kt3, gt3, P30, P31, P32, P33⟩, k3a, Cq3, hS3, hZ3, hown3⟩ := callCW X2 hx hZ (y := (⟨"java/lang/String", "<init>", "([CIILjava/lang/Void;)V"⟩ : MethodName)) rfl hown hS0 (by omega) (wq hw 64 rfl) (wq hw 65 rfl) (wq hw 67 rfl) (by decide) (backOfW (W := 0) (rm_n4_0 l Z a0 hw zc a b kb u1 u2 f d0 d1 d2 d3 d4 d5 h0 n0 (by omega) S_c hzc O0 E0 F1 F2 P0 (by omega) (by omega) (by omega) (by omega) hf hm) hZ (wq hw 67 rfl) (wq hw 49 rfl) (by decide) (by decide) (own_EW hw) C0.1 (allS ⟨adr_lt (by omega), Sf_a⟩ all0)) e2 (argsL := [(.ref b), (.int f), (.int (0 : Int32)), .null]) (rest := []) rfl rfl pd_11 rfl (by rw [hml]; rfl) (hb hby d_jdk_42_method_4_code_10) (Nat.le_of_eq rfl) (by decide) (by decide) k2
  have k3 : To p.tables e below S0 (T3.setTop (mkF m 13 #[.val (.ref a), .val (.ref b), .val (.int f), .val (.int (0 : Int32))] [])) := k3a
  have N3 := N2.app Nq3
  obtain ⟨h3, e3⟩ : ∃ z, T3.heap = z := ⟨_, rfl⟩
  rw [e3] at Kq3 gt3 P30 P31 P32 P33 Cq3 hS3
  have z3 : h0.size ≤ h3.size := Kq3.1
  have C3 := C0.trans Cq3
  refine retVoidW X3 hx hZ3 (own_EW hw) hS3 (by omega) C3 e3 hret hlk (hb hby d_jdk_42_method_4_code_13) k3 ?_ (by decide) (by decide)
  exact ⟨rfl, N3, ((Keep.refl h0 [a]).trans Kq3 (allS (Or.inl (by simp)) all0)), t3, kt3, P33.lt, P30, P31, P32, P33⟩
set_option maxRecDepth 65536 in
set_option maxHeartbeats 40000000 in
theorem rm_ts_0 (l : Launch) (Z : State) (a0 : Array Value) (hw : ∀ d ∈ tables_1, d.before a0 Z = true) (zc : Int32) (fm : Value) (r : Addr) (b : Addr) (kb : ClassId) (f : Int32) (d0 : Int32) (d1 : Int32) (d2 : Int32) (d3 : Int32) (d4 : Int32) (d5 : Int32) (h0 : Heap) (n0 : Nat) (hn0 : n0 ≤ h0.size) (S_c : Sta Z Z.heap "java/lang/String" "COMPACT_STRINGS" "Z" (.int zc)) (hzc : ¬ zc = (0 : Int32)) (S_f : Sta Z Z.heap "jdk/internal/util/Preconditions" "SIOOBE_FORMATTER" "Ljava/util/function/BiFunction;" fm) (hfm : fm.isRef = true) (O0 : Old Z n0 h0) (R0 : Exa Z h0 r "strikebound/cli/InPlaceText") (R1 : Fld Z h0 r "strikebound/cli/InPlaceText" "chars" "[C" (.ref b)) (R2 : Fld Z h0 r "strikebound/cli/InPlaceText" "start" "I" (.int f)) (R3 : Fld Z h0 r "strikebound/cli/InPlaceText" "length" "I" (.int (0 : Int32))) (P0 : Arv Z h0 b kb .char (6 : Int32) [(.int d0), (.int d1), (.int d2), (.int d3), (.int d4), (.int d5)] (.int (0 : Int32))) (yb : @LT.lt Nat instLTNat b h0.size) (hf : f = (0 : Int32) ∨ f = (1 : Int32) ∨ f = (2 : Int32) ∨ f = (3 : Int32) ∨ f = (4 : Int32) ∨ f = (5 : Int32) ∨ f = (6 : Int32)) (hm : ∀ i : Int32, ¬ own_at [d0, d1, d2, d3, d4, d5] i < (0 : Int32) ∧ ¬ (255 : Int32) < own_at [d0, d1, d2, d3, d4, d5] i) (q1 : ¬ (((6 : Int32) ||| f) ||| (0 : Int32)) < (0 : Int32)) (q2 : ¬ ((6 : Int32) - f) < (0 : Int32)) :
    ConW l Z own_EL (⟨"strikebound/cli/InPlaceText", "toString", "()Ljava/lang/String;"⟩ : MethodName) prog_26_method_8_code 1 (some (.object "java/lang/String")) [] ({ frames := 4, cells := 5, slots := 12, locals := 63 } : Room) #[(.ref r)] h0 [] (fun v h L => ∃ (c t : Addr) (k : ClassId), v = some (.ref c) ∧ Fr n0 L ∧ (@LT.lt Nat instLTNat c h.size) ∧ (@LT.lt Nat instLTNat t h.size) ∧ Keep h0 h [] ∧ Exa Z h c "java/lang/String" ∧ Fld Z h c "java/lang/String" "value" "[B" (.ref t) ∧ Fld Z h c "java/lang/String" "coder" "B" (.int (0 : Int32)) ∧ Arv Z h t k .byte (0 : Int32) [] (.int 0)) := by
  refine enterW (Ls := #[.val (.ref r)]) (plainFor_of_name pn_1) (fun m => by exact entry_eq rfl) ?_
  intro p e s m below meth cd_ s₁ S0 vm0 hx hby hml hret hlk hnm hown hZ X0 e0 k0 C0 hsf hS0
  have N0 := Fr.nil n0
  obtain ⟨T1, h1, X1, e1, E1, A1, D1, -, st1⟩ := newO X0 hx hZ hown (wq hw 47 rfl) (wq hw 48 rfl) (wq hw 49 rfl) e0 (g := (mkF m 0 #[.val (.ref r)] [])) rfl (hb hby d_prog_26_method_8_code_0) (by decide) (by decide)
  obtain ⟨b1, g1⟩ : ∃ z, z = h0.size := ⟨_, rfl⟩
  rw [← g1] at A1 D1 st1
  have k1 : To p.tables e below S0 (T1.setTop (mkF m 3 #[.val (.ref r)] [(.ref b1)])) := fun tt hq => k0 tt (st1 tt hq)
  have z1 : h0.size ≤ h1.size := E1.1
  have y1 : @LT.lt Nat instLTNat b1 h1.size := A1.lt
  have C1 := C0.trans (CHr.ext E1 C0.1)
  have Sf1 : Safe Z own_EL vm0 h1 b1 := Safe.ext E1 C0.1 (Safe.new (by omega))
  have F1_coder : Fld Z h1 b1 "java/lang/String" "coder" "B" (.int (0 : Int32)) := D1 (Or.inr (wq hw 82 rfl)) (ty := .byte) (by decide)
  have F1_value : Fld Z h1 b1 "java/lang/String" "value" "[B" .null := D1 (Or.inr (wq hw 84 rfl)) (ty := (.array .byte)) (by decide)
  have f2 : Fld Z h1 r "strikebound/cli/InPlaceText" "chars" "[C" (.ref b) := (R1.ext E1)
  have k3 : To p.tables e below S0 (T1.setTop (mkF m 5 #[.val (.ref r)] [(.ref r), (.ref b1), (.ref b1)])) := fun tt hq => k1 tt (by
    refine XS.dup X1.here hx rfl (hb hby d_prog_26_method_8_code_3) rfl rfl ?_
    refine XS.aloadN X1.here hx rfl (hb hby d_prog_26_method_8_code_4) rfl rfl ?_
    exact hq)
  obtain ⟨T4, X4, e4, st4⟩ := getF X1 hx hZ hown (host := "") (Or.inl (wq hw 16 rfl)) Via.refl e1 f2 (g := (mkF m 5 #[.val (.ref r)] [(.ref r), (.ref b1), (.ref b1)])) rfl rfl (hb hby d_prog_26_method_8_code_5)
  have k4 : To p.tables e below S0 (T4.setTop (mkF m 8 #[.val (.ref r)] [(.ref b), (.ref b1), (.ref b1)])) := fun tt hq => k3 tt (st4 tt hq)
  have f5 : Fld Z h1 r "strikebound/cli/InPlaceText" "start" "I" (.int f) := (R2.ext E1)
  have k6 : To p.tables e below S0 (T4.setTop (mkF m 9 #[.val (.ref r)] [(.ref r), (.ref b), (.ref b1), (.ref b1)])) := fun tt hq => k4 tt (by
    refine XS.aloadN X4.here hx rfl (hb hby d_prog_26_method_8_code_8) rfl rfl ?_
    exact hq)
  obtain ⟨T7, X7, e7, st7⟩ := getF X4 hx hZ hown (host := "") (Or.inl (wq hw 23 rfl)) Via.refl e4 f5 (g := (mkF m 9 #[.val (.ref r)] [(.ref r), (.ref b), (.ref b1), (.ref b1)])) rfl rfl (hb hby d_prog_26_method_8_code_9)
  have k7 : To p.tables e below S0 (T7.setTop (mkF m 12 #[.val (.ref r)] [(.int f), (.ref b), (.ref b1), (.ref b1)])) := fun tt hq => k6 tt (st7 tt hq)
  have f8 : Fld Z h1 r "strikebound/cli/InPlaceText" "length" "I" (.int (0 : Int32)) := (R3.ext E1)
  have k9 : To p.tables e below S0 (T7.setTop (mkF m 13 #[.val (.ref r)] [(.ref r), (.int f), (.ref b), (.ref b1), (.ref b1)])) := fun tt hq => k7 tt (by
    refine XS.aloadN X7.here hx rfl (hb hby d_prog_26_method_8_code_12) rfl rfl ?_
    exact hq)
  obtain ⟨T10, X10, e10, st10⟩ := getF X7 hx hZ hown (host := "") (Or.inl (wq hw 25 rfl)) Via.refl e7 f8 (g := (mkF m 13 #[.val (.ref r)] [(.ref r), (.int f), (.ref b), (.ref b1), (.ref b1)])) rfl rfl (hb hby d_prog_26_method_8_code_13)
  have k10 : To p.tables e below S0 (T10.setTop (mkF m 16 #[.val (.ref r)] [(.int (0 : Int32)), (.int f), (.ref b), (.ref b1), (.ref b1)])) := fun tt hq => k9 tt (st10 tt hq)
  have f11 : Old Z n0 h1 := (O0.ext E1)
  have f12 : Arv Z h1 b kb .char (6 : Int32) [(.int d0), (.int d1), (.int d2), (.int d3), (.int d4), (.int d5)] (.int (0 : Int32)) := (P0.ext E1)
  obtain ⟨_, T13, L13, X13, ⟨rfl, Nq13, Kq13, t13, kt13, gt13, P130, P131, P132, P133⟩, k13a, Cq13, hS13, hZ13, hown13⟩ := callCW X10 hx hZ (y := (⟨"java/lang/String", "<init>", "([CII)V"⟩ : MethodName)) rfl hown hS0 (by omega) (wq hw 50 rfl) (wq hw 51 rfl) (wq hw 52 rfl) (by decide) (backOfW (W := 1) (rm_n3_0 l Z a0 hw zc fm b1 b kb .null (.int (0 : Int32)) f d0 d1 d2 d3 d4 d5 h1 n0 (by omega) S_c hzc S_f hfm f11 A1 F1_value F1_coder f12 (by omega) (by omega) (by omega) (by omega) hf hm q1 q2) hZ (wq hw 52 rfl) (wq hw 49 rfl) (by decide) (by decide) (own_EW hw) C1.1 (allS ⟨adr_lt (by omega), Sf1⟩ all0)) e10 (argsL := [(.ref b), (.int f), (.int (0 : Int32))]) (rest := [(.ref b1)]) rfl rfl pd_7 rfl (by rw [hml]; rfl) (hb hby d_prog_26_method_8_code_16) (Nat.le_of_eq rfl) (by decide) (by decide) k10
  have k13 : To p.tables e below S0 (T13.setTop (mkF m 19 #[.val (.ref r)] [(.ref b1)])) := k13a
  have N13 := N0.app Nq13
  obtain ⟨h13, e13⟩ : ∃ z, T13.heap = z := ⟨_, rfl⟩
  rw [e13] at Kq13 gt13 P130 P131 P132 P133 Cq13 hS13
  have z13 : h1.size ≤ h13.size := Kq13.1
  have C13 := C1.trans Cq13
  refine retRefW X13 hx hZ13 (own_EW hw) hS13 (by omega) C13 e13 hret hlk rfl rfl (hb hby d_prog_26_method_8_code_19) k13 ?_ (by decide) (by decide)
  exact ⟨_, _, _, rfl, N13, P130.lt, P133.lt, (((Keep.refl h0 []).ext E1).trans Kq13 (allS (Or.inr (by omega)) all0)), P130, P131, P132, P133⟩
theorem pd_12 : parseMethodDescriptor "()Ljava/lang/String;" = some ⟨[], some (.object "java/lang/String")⟩ := by decide +kernel
theorem d_jdk_52_method_16_code_0 : decode jdk_52_method_16_code 0 = .ok (.iload_n 2, 1) := by decide +kernel
theorem d_jdk_52_method_16_code_1 : decode jdk_52_method_16_code 1 = .ok (.newarray .byte, 2) := by decide +kernel
theorem d_jdk_52_method_16_code_3 : decode jdk_52_method_16_code 3 = .ok (.astore_n 3, 1) := by decide +kernel
theorem d_jdk_52_method_16_code_4 : decode jdk_52_method_16_code 4 = .ok (.aload_n 0, 1) := by decide +kernel
theorem d_jdk_52_method_16_code_5 : decode jdk_52_method_16_code 5 = .ok (.iload_n 1, 1) := by decide +kernel
theorem d_jdk_52_method_16_code_6 : decode jdk_52_method_16_code 6 = .ok (.aload_n 3, 1) := by decide +kernel
theorem d_jdk_52_method_16_code_7 : decode jdk_52_method_16_code 7 = .ok (.iconst 0, 1) := by decide +kernel
theorem d_jdk_52_method_16_code_8 : decode jdk_52_method_16_code 8 = .ok (.iload_n 2, 1) := by decide +kernel
theorem d_jdk_52_method_16_code_9 : decode jdk_52_method_16_code 9 = .ok (.invokestatic 115, 3) := by decide +kernel
theorem d_jdk_52_method_16_code_12 : decode jdk_52_method_16_code 12 = .ok (.istore 4, 2) := by decide +kernel
theorem d_jdk_52_method_16_code_14 : decode jdk_52_method_16_code 14 = .ok (.iload 4, 2) := by decide +kernel
theorem d_jdk_52_method_16_code_16 : decode jdk_52_method_16_code 16 = .ok (.iload_n 2, 1) := by decide +kernel
theorem d_jdk_52_method_16_code_17 : decode jdk_52_method_16_code 17 = .ok (.if_icmp .eq 40, 3) := by decide +kernel
theorem d_jdk_52_method_16_code_20 : decode jdk_52_method_16_code 20 = .ok (.aload_n 0, 1) := by decide +kernel
theorem d_jdk_52_method_16_code_21 : decode jdk_52_method_16_code 21 = .ok (.iload_n 1, 1) := by decide +kernel
theorem d_jdk_52_method_16_code_22 : decode jdk_52_method_16_code 22 = .ok (.iload_n 2, 1) := by decide +kernel
theorem d_jdk_52_method_16_code_23 : decode jdk_52_method_16_code 23 = .ok (.invokestatic 119, 3) := by decide +kernel
theorem d_jdk_52_method_16_code_26 : decode jdk_52_method_16_code 26 = .ok (.astore 5, 2) := by decide +kernel
theorem d_jdk_52_method_16_code_28 : decode jdk_52_method_16_code 28 = .ok (.aload 5, 2) := by decide +kernel
theorem d_jdk_52_method_16_code_30 : decode jdk_52_method_16_code 30 = .ok (.iload 4, 2) := by decide +kernel
theorem d_jdk_52_method_16_code_32 : decode jdk_52_method_16_code 32 = .ok (.invokestatic 71, 3) := by decide +kernel
theorem d_jdk_52_method_16_code_35 : decode jdk_52_method_16_code 35 = .ok (.sipush 255, 3) := by decide +kernel
theorem d_jdk_52_method_16_code_38 : decode jdk_52_method_16_code 38 = .ok (.if_icmp .gt 16, 3) := by decide +kernel
theorem d_jdk_52_method_16_code_41 : decode jdk_52_method_16_code 41 = .ok (.aload 5, 2) := by decide +kernel
theorem d_jdk_52_method_16_code_43 : decode jdk_52_method_16_code 43 = .ok (.iconst 0, 1) := by decide +kernel
theorem d_jdk_52_method_16_code_44 : decode jdk_52_method_16_code 44 = .ok (.aload_n 3, 1) := by decide +kernel
theorem d_jdk_52_method_16_code_45 : decode jdk_52_method_16_code 45 = .ok (.iconst 0, 1) := by decide +kernel
theorem d_jdk_52_method_16_code_46 : decode jdk_52_method_16_code 46 = .ok (.iload_n 2, 1) := by decide +kernel
theorem d_jdk_52_method_16_code_47 : decode jdk_52_method_16_code 47 = .ok (.invokestatic 123, 3) := by decide +kernel
theorem d_jdk_52_method_16_code_50 : decode jdk_52_method_16_code 50 = .ok (.iload_n 2, 1) := by decide +kernel
theorem d_jdk_52_method_16_code_51 : decode jdk_52_method_16_code 51 = .ok (.if_icmp .eq 6, 3) := by decide +kernel
theorem d_jdk_52_method_16_code_54 : decode jdk_52_method_16_code 54 = .ok (.aload 5, 2) := by decide +kernel
theorem d_jdk_52_method_16_code_56 : decode jdk_52_method_16_code 56 = .ok (.areturn, 1) := by decide +kernel
theorem d_jdk_52_method_16_code_57 : decode jdk_52_method_16_code 57 = .ok (.aload_n 3, 1) := by decide +kernel
theorem d_jdk_52_method_16_code_58 : decode jdk_52_method_16_code 58 = .ok (.areturn, 1) := by decide +kernel
theorem pn_5 : plainName "java/lang/StringUTF16" = true := by first | (simp [plainName, overriddenIn]; done) | decide +kernel
theorem d_jdk_52_method_21_code_0 : decode jdk_52_method_21_code 0 = .ok (.iconst 0, 1) := by decide +kernel
theorem d_jdk_52_method_21_code_1 : decode jdk_52_method_21_code 1 = .ok (.istore 5, 2) := by decide +kernel
theorem d_jdk_52_method_21_code_3 : decode jdk_52_method_21_code 3 = .ok (.iload 5, 2) := by decide +kernel
theorem d_jdk_52_method_21_code_5 : decode jdk_52_method_21_code 5 = .ok (.iload 4, 2) := by decide +kernel
theorem d_jdk_52_method_21_code_7 : decode jdk_52_method_21_code 7 = .ok (.if_icmp .ge 37, 3) := by decide +kernel
theorem d_jdk_52_method_21_code_10 : decode jdk_52_method_21_code 10 = .ok (.aload_n 0, 1) := by decide +kernel
theorem d_jdk_52_method_21_code_11 : decode jdk_52_method_21_code 11 = .ok (.iload_n 1, 1) := by decide +kernel
theorem d_jdk_52_method_21_code_12 : decode jdk_52_method_21_code 12 = .ok (.caload, 1) := by decide +kernel
theorem d_jdk_52_method_21_code_13 : decode jdk_52_method_21_code 13 = .ok (.istore 6, 2) := by decide +kernel
theorem d_jdk_52_method_21_code_15 : decode jdk_52_method_21_code 15 = .ok (.iload 6, 2) := by decide +kernel
theorem d_jdk_52_method_21_code_17 : decode jdk_52_method_21_code 17 = .ok (.sipush 255, 3) := by decide +kernel
theorem d_jdk_52_method_21_code_20 : decode jdk_52_method_21_code 20 = .ok (.if_icmp .le 6, 3) := by decide +kernel
theorem d_jdk_52_method_21_code_23 : decode jdk_52_method_21_code 23 = .ok (.iload 5, 2) := by decide +kernel
theorem d_jdk_52_method_21_code_25 : decode jdk_52_method_21_code 25 = .ok (.ireturn, 1) := by decide +kernel
theorem d_jdk_52_method_21_code_26 : decode jdk_52_method_21_code 26 = .ok (.aload_n 2, 1) := by decide +kernel
theorem d_jdk_52_method_21_code_27 : decode jdk_52_method_21_code 27 = .ok (.iload_n 3, 1) := by decide +kernel
theorem d_jdk_52_method_21_code_28 : decode jdk_52_method_21_code 28 = .ok (.iload 6, 2) := by decide +kernel
theorem d_jdk_52_method_21_code_30 : decode jdk_52_method_21_code 30 = .ok (.i2b, 1) := by decide +kernel
theorem d_jdk_52_method_21_code_31 : decode jdk_52_method_21_code 31 = .ok (.bastore, 1) := by decide +kernel
theorem d_jdk_52_method_21_code_32 : decode jdk_52_method_21_code 32 = .ok (.iinc 1 1, 3) := by decide +kernel
theorem d_jdk_52_method_21_code_35 : decode jdk_52_method_21_code 35 = .ok (.iinc 3 1, 3) := by decide +kernel
theorem d_jdk_52_method_21_code_38 : decode jdk_52_method_21_code 38 = .ok (.iinc 5 1, 3) := by decide +kernel
theorem d_jdk_52_method_21_code_41 : decode jdk_52_method_21_code 41 = .ok (.goto (-38), 3) := by decide +kernel
theorem d_jdk_52_method_21_code_44 : decode jdk_52_method_21_code 44 = .ok (.iload 4, 2) := by decide +kernel
theorem d_jdk_52_method_21_code_46 : decode jdk_52_method_21_code 46 = .ok (.ireturn, 1) := by decide +kernel
set_option maxRecDepth 65536 in
set_option maxHeartbeats 40000000 in
theorem rm_c5_1 (l : Launch) (Z : State) (a0 : Array Value) (hw : ∀ d ∈ tables_1, d.before a0 Z = true) (b : Addr) (kb : ClassId) (t : Addr) (kt : ClassId) (f : Int32) (d0 : Int32) (d1 : Int32) (d2 : Int32) (d3 : Int32) (d4 : Int32) (d5 : Int32) (h0 : Heap) (n0 : Nat) (hn0 : n0 ≤ h0.size) (P0 : Arv Z h0 b kb .char (6 : Int32) [(.int d0), (.int d1), (.int d2), (.int d3), (.int d4), (.int d5)] (.int (0 : Int32))) (P1 : Arv Z h0 t kt .byte (1 : Int32) [(.int (0 : Int32))] (.int (0 : Int32))) (ga : n0 ≤ t) (nbt : ¬ (@Eq Nat b t)) (hf : f = (0 : Int32) ∨ f = (1 : Int32) ∨ f = (2 : Int32) ∨ f = (3 : Int32) ∨ f = (4 : Int32) ∨ f = (5 : Int32)) (hm : ∀ i : Int32, ¬ own_at [d0, d1, d2, d3, d4, d5] i < (0 : Int32) ∧ ¬ (255 : Int32) < own_at [d0, d1, d2, d3, d4, d5] i) :
    Con l Z (⟨"java/lang/StringUTF16", "compress", "([CI[BII)I"⟩ : MethodName) jdk_52_method_21_code 7 (some .int) [] ({ frames := 0, cells := 0, slots := 0, locals := 0 } : Room) #[(.ref b), (.int f), (.ref t), (.int (0 : Int32)), (.int (1 : Int32))] h0 (fun v h L => v = some (.int (1 : Int32)) ∧ Fr n0 L ∧ Keep h0 h [t] ∧ Arv Z h t kt .byte (1 : Int32) [(.int (nar .byte ((own_at [d0, d1, d2, d3, d4, d5] f).toInt8.toInt32)))] (.int (0 : Int32))) := by
  refine enter (Ls := #[.val (.ref b), .val (.int f), .val (.ref t), .val (.int (0 : Int32)), .val (.int (1 : Int32)), .unset, .unset]) (plainFor_of_name pn_5) (fun m => by exact entry_eq rfl) ?_
  intro p e s m below meth cd_ s₁ S0 hx hby hml hret hlk hnm hown hZ X0 e0 k0
  have N0 := Fr.nil n0
  have k1 : To p.tables e below S0 (s₁.setTop (mkF m 12 #[.val (.ref b), .val (.int f), .val (.ref t), .val (.int (0 : Int32)), .val (.int (1 : Int32)), .val (.int (0 : Int32)), .unset] [(.int f), (.ref b)])) := fun tt hq => k0 tt (by
    refine XS.iconst X0.here hx rfl (hb hby d_jdk_52_method_21_code_0) ?_
    refine XS.istore X0.here hx rfl (hb hby d_jdk_52_method_21_code_1) rfl (l' := #[.val (.ref b), .val (.int f), .val (.ref t), .val (.int (0 : Int32)), .val (.int (1 : Int32)), .val (.int (0 : Int32)), .unset]) rfl ?_
    refine XS.iload X0.here hx rfl (hb hby d_jdk_52_method_21_code_3) rfl ?_
    refine XS.iload X0.here hx rfl (hb hby d_jdk_52_method_21_code_5) rfl ?_
    refine XS.icmpNo X0.here hx rfl (hb hby d_jdk_52_method_21_code_7) rfl (tlt (by decide)).2.1 ?_
    refine XS.aloadN X0.here hx rfl (hb hby d_jdk_52_method_21_code_10) rfl rfl ?_
    refine XS.iloadN X0.here hx rfl (hb hby d_jdk_52_method_21_code_11) rfl ?_
    exact hq)
  obtain ⟨cl2, Ar2, -, S2, -, G2, -⟩ := id P0
  have hi2 := inb_of (j := f) S2 (by rcases hf with rfl | rfl | rfl | rfl | rfl | rfl <;> decide)
  have st2 := fun tt => X0.caload hx (j := f) (v := (.int (own_at [d0, d1, d2, d3, d4, d5] f))) (by rw [e0]; exact Ar2.1) (State.isArrayOf_alike hZ.alike Ar2.2.1) Ar2.2.2 hi2 (G2.at hi2 (own_atv [d0, d1, d2, d3, d4, d5] f)) (g := (mkF m 12 #[.val (.ref b), .val (.int f), .val (.ref t), .val (.int (0 : Int32)), .val (.int (1 : Int32)), .val (.int (0 : Int32)), .unset] [(.int f), (.ref b)])) rfl rfl (hb hby d_jdk_52_method_21_code_12) tt
  have k2 : To p.tables e below S0 (s₁.setTop (mkF m 13 #[.val (.ref b), .val (.int f), .val (.ref t), .val (.int (0 : Int32)), .val (.int (1 : Int32)), .val (.int (0 : Int32)), .unset] [(.int (own_at [d0, d1, d2, d3, d4, d5] f))])) := fun tt hq => k1 tt (st2 tt hq)
  have k3 : To p.tables e below S0 (s₁.setTop (mkF m 31 #[.val (.ref b), .val (.int f), .val (.ref t), .val (.int (0 : Int32)), .val (.int (1 : Int32)), .val (.int (0 : Int32)), .val (.int (own_at [d0, d1, d2, d3, d4, d5] f))] [(.int ((own_at [d0, d1, d2, d3, d4, d5] f).toInt8.toInt32)), (.int (0 : Int32)), (.ref t)])) := fun tt hq => k2 tt (by
    refine XS.istore X0.here hx rfl (hb hby d_jdk_52_method_21_code_13) rfl (l' := #[.val (.ref b), .val (.int f), .val (.ref t), .val (.int (0 : Int32)), .val (.int (1 : Int32)), .val (.int (0 : Int32)), .val (.int (own_at [d0, d1, d2, d3, d4, d5] f))]) rfl ?_
    refine XS.iload X0.here hx rfl (hb hby d_jdk_52_method_21_code_15) rfl ?_
    refine XS.sipush X0.here hx rfl (hb hby d_jdk_52_method_21_code_17) ?_
    refine XS.icmpYes X0.here hx rfl (pc0 := 20) (pc' := 26) rfl (hb hby d_jdk_52_method_21_code_20) rfl (flt (hm f).2).2.2.2 (by decide) (by decide) ?_
    refine XS.aloadN X0.here hx rfl (hb hby d_jdk_52_method_21_code_26) rfl rfl ?_
    refine XS.iloadN X0.here hx rfl (hb hby d_jdk_52_method_21_code_27) rfl ?_
    refine XS.iload X0.here hx rfl (hb hby d_jdk_52_method_21_code_28) rfl ?_
    refine XS.i2b X0.here hx rfl (hb hby d_jdk_52_method_21_code_30) rfl ?_
    exact hq)
  obtain ⟨cl4, Ar4, q4, S4, M4, G4, J4⟩ := id P1
  obtain ⟨T4, h4, X4, e4, W4, st4⟩ := stB X0 hx hZ e0 Ar4 (j := (0 : Int32)) (inb_of S4 ⟨by decide, by decide⟩) (g := (mkF m 31 #[.val (.ref b), .val (.int f), .val (.ref t), .val (.int (0 : Int32)), .val (.int (1 : Int32)), .val (.int (0 : Int32)), .val (.int (own_at [d0, d1, d2, d3, d4, d5] f))] [(.int ((own_at [d0, d1, d2, d3, d4, d5] f).toInt8.toInt32)), (.int (0 : Int32)), (.ref t)])) rfl rfl (hb hby d_jdk_52_method_21_code_31)
  have k4 : To p.tables e below S0 (T4.setTop (mkF m 32 #[.val (.ref b), .val (.int f), .val (.ref t), .val (.int (0 : Int32)), .val (.int (1 : Int32)), .val (.int (0 : Int32)), .val (.int (own_at [d0, d1, d2, d3, d4, d5] f))] [])) := fun tt hq => k3 tt (st4 tt hq)
  have z4 : h4.size = h0.size := W4.size
  have V4 : Arv Z h4 t kt .byte (1 : Int32) [(.int (nar .byte ((own_at [d0, d1, d2, d3, d4, d5] f).toInt8.toInt32)))] (.int (0 : Int32)) := Arv.set Ar4 q4 S4 M4 G4 J4 (fits_nar_byte _) W4 0 rfl (Nat.le_of_ble_eq_true rfl)
  have N4 := Fr.snoc X4 N0 (by omega : n0 ≤ t)
  have k5 : To p.tables e below S0 (T4.setTop (mkF m 46 #[.val (.ref b), .val (.int (f + (1 : Int32))), .val (.ref t), .val (.int (1 : Int32)), .val (.int (1 : Int32)), .val (.int (1 : Int32)), .val (.int (own_at [d0, d1, d2, d3, d4, d5] f))] [(.int (1 : Int32))])) := fun tt hq => k4 tt (by
    refine XS.iinc X4.here hx rfl (hb hby d_jdk_52_method_21_code_32) rfl (l' := #[.val (.ref b), .val (.int (f + (1 : Int32))), .val (.ref t), .val (.int (0 : Int32)), .val (.int (1 : Int32)), .val (.int (0 : Int32)), .val (.int (own_at [d0, d1, d2, d3, d4, d5] f))]) rfl ?_
    refine XS.iinc X4.here hx rfl (hb hby d_jdk_52_method_21_code_35) rfl (l' := #[.val (.ref b), .val (.int (f + (1 : Int32))), .val (.ref t), .val (.int (1 : Int32)), .val (.int (1 : Int32)), .val (.int (0 : Int32)), .val (.int (own_at [d0, d1, d2, d3, d4, d5] f))]) rfl ?_
    refine XS.iinc X4.here hx rfl (hb hby d_jdk_52_method_21_code_38) rfl (l' := #[.val (.ref b), .val (.int (f + (1 : Int32))), .val (.ref t), .val (.int (1 : Int32)), .val (.int (1 : Int32)), .val (.int (1 : Int32)), .val (.int (own_at [d0, d1, d2, d3, d4, d5] f))]) rfl ?_
    refine XS.goto X4.here hx rfl (pc0 := 41) (pc' := 3) rfl (hb hby d_jdk_52_method_21_code_41) (by decide) (by decide) ?_
    refine XS.iload X4.here hx rfl (hb hby d_jdk_52_method_21_code_3) rfl ?_
    refine XS.iload X4.here hx rfl (hb hby d_jdk_52_method_21_code_5) rfl ?_
    refine XS.icmpYes X4.here hx rfl (pc0 := 7) (pc' := 44) rfl (hb hby d_jdk_52_method_21_code_7) rfl (flt (by decide)).2.1 (by decide) (by decide) ?_
    refine XS.iload X4.here hx rfl (hb hby d_jdk_52_method_21_code_44) rfl ?_
    exact hq)
  have hE := e4
  refine retInt X4 hx hret hlk (by simp) rfl (hb hby d_jdk_52_method_21_code_46) k5 ?_ (by decide) (by decide)
  try rw [hE]
  exact ⟨rfl, N4, ((Keep.refl h0 [t]).wr W4 (Or.inl (by simp))), V4⟩
theorem pd_13 : parseMethodDescriptor "([CI[BII)I" = some ⟨[(.array .char), .int, (.array .byte), .int, .int], some .int⟩ := by decide +kernel
set_option maxRecDepth 65536 in
set_option maxHeartbeats 40000000 in
theorem rm_c3_1 (l : Launch) (Z : State) (a0 : Array Value) (hw : ∀ d ∈ tables_1, d.before a0 Z = true) (b : Addr) (kb : ClassId) (f : Int32) (d0 : Int32) (d1 : Int32) (d2 : Int32) (d3 : Int32) (d4 : Int32) (d5 : Int32) (h0 : Heap) (n0 : Nat) (hn0 : n0 ≤ h0.size) (P0 : Arv Z h0 b kb .char (6 : Int32) [(.int d0), (.int d1), (.int d2), (.int d3), (.int d4), (.int d5)] (.int (0 : Int32))) (yb : @LT.lt Nat instLTNat b h0.size) (hf : f = (0 : Int32) ∨ f = (1 : Int32) ∨ f = (2 : Int32) ∨ f = (3 : Int32) ∨ f = (4 : Int32) ∨ f = (5 : Int32)) (hm : ∀ i : Int32, ¬ own_at [d0, d1, d2, d3, d4, d5] i < (0 : Int32) ∧ ¬ (255 : Int32) < own_at [d0, d1, d2, d3, d4, d5] i) :
    Con l Z (⟨"java/lang/StringUTF16", "compress", "([CII)[B"⟩ : MethodName) jdk_52_method_16_code 6 (some (.array .byte)) [] ({ frames := 1, cells := 1, slots := 1, locals := 18 } : Room) #[(.ref b), (.int f), (.int (1 : Int32))] h0 (fun v h L => ∃ (t : Addr) (k : ClassId), v = some (.ref t) ∧ Fr n0 L ∧ h0.size ≤ t ∧ Keep h0 h [] ∧ Arv Z h t k .byte (1 : Int32) [(.int (nar .byte ((own_at [d0, d1, d2, d3, d4, d5] f).toInt8.toInt32)))] (.int (0 : Int32))) := by
  refine enter (Ls := #[.val (.ref b), .val (.int f), .val (.int (1 : Int32)), .unset, .unset, .unset]) (plainFor_of_name pn_5) (fun m => by exact entry_eq rfl) ?_
  intro p e s m below meth cd_ s₁ S0 hx hby hml hret hlk hnm hown hZ X0 e0 k0
  have N0 := Fr.nil n0
  have k1 : To p.tables e below S0 (s₁.setTop (mkF m 1 #[.val (.ref b), .val (.int f), .val (.int (1 : Int32)), .unset, .unset, .unset] [(.int (1 : Int32))])) := fun tt hq => k0 tt (by
    refine XS.iloadN X0.here hx rfl (hb hby d_jdk_52_method_16_code_0) rfl ?_
    exact hq)
  obtain ⟨T2, h2, c2, X2, e2, E2, A2, st2⟩ := newP X0 hx hZ (wq hw 74 rfl) e0 (g := (mkF m 1 #[.val (.ref b), .val (.int f), .val (.int (1 : Int32)), .unset, .unset, .unset] [(.int (1 : Int32))])) rfl (hb hby d_jdk_52_method_16_code_1) rfl (by decide) (cap := 1) (by decide) (by decide) (by decide) (by decide)
  obtain ⟨b2, g2⟩ : ∃ z, z = h0.size := ⟨_, rfl⟩
  rw [← g2] at A2 st2
  have k2 : To p.tables e below S0 (T2.setTop (mkF m 3 #[.val (.ref b), .val (.int f), .val (.int (1 : Int32)), .unset, .unset, .unset] [(.ref b2)])) := fun tt hq => k1 tt (st2 tt hq)
  have z2 : h0.size ≤ h2.size := E2.1
  have V2 : Arv Z h2 b2 c2 .byte (1 : Int32) [(.int (0 : Int32))] (.int (0 : Int32)) := (Arv.new A2 (by decide)).pad (pad_rep [] (.int (0 : Int32)) 1)
  have y2 : @LT.lt Nat instLTNat b2 h2.size := V2.lt
  have k3 : To p.tables e below S0 (T2.setTop (mkF m 9 #[.val (.ref b), .val (.int f), .val (.int (1 : Int32)), .val (.ref b2), .unset, .unset] [(.int (1 : Int32)), (.int (0 : Int32)), (.ref b2), (.int f), (.ref b)])) := fun tt hq => k2 tt (by
    refine XS.astoreN X2.here hx rfl (hb hby d_jdk_52_method_16_code_3) rfl rfl (l' := #[.val (.ref b), .val (.int f), .val (.int (1 : Int32)), .val (.ref b2), .unset, .unset]) rfl ?_
    refine XS.aloadN X2.here hx rfl (hb hby d_jdk_52_method_16_code_4) rfl rfl ?_
    refine XS.iloadN X2.here hx rfl (hb hby d_jdk_52_method_16_code_5) rfl ?_
    refine XS.aloadN X2.here hx rfl (hb hby d_jdk_52_method_16_code_6) rfl rfl ?_
    refine XS.iconst X2.here hx rfl (hb hby d_jdk_52_method_16_code_7) ?_
    refine XS.iloadN X2.here hx rfl (hb hby d_jdk_52_method_16_code_8) rfl ?_
    exact hq)
  have f4 : Arv Z h2 b kb .char (6 : Int32) [(.int d0), (.int d1), (.int d2), (.int d3), (.int d4), (.int d5)] (.int (0 : Int32)) := (P0.ext E2)
  obtain ⟨_, T5, L5, X5, ⟨rfl, Nq5, Kq5, V5⟩, k5a⟩ := callS' X2 hx hZ (y := (⟨"java/lang/StringUTF16", "compress", "([CI[BII)I"⟩ : MethodName)) hown (wq hw 75 rfl) (wq hw 76 rfl) (wq hw 72 rfl) (wq hw 77 rfl) (by decide) (backC (W := 0) (rm_c5_1 l Z a0 hw b kb b2 c2 f d0 d1 d2 d3 d4 d5 h2 n0 (by omega) f4 V2 (by omega) (by omega) hf hm) hZ (wq hw 77 rfl) (wq hw 72 rfl) (by decide) (by decide)) e2 (argsL := [(.ref b), (.int f), (.ref b2), (.int (0 : Int32)), (.int (1 : Int32))]) (rest := []) rfl rfl pd_13 rfl (by rw [hml]; rfl) (hb hby d_jdk_52_method_16_code_9) (Nat.le_of_eq rfl) (by decide) (by decide) k3
  have k5 : To p.tables e below S0 (T5.setTop (mkF m 12 #[.val (.ref b), .val (.int f), .val (.int (1 : Int32)), .val (.ref b2), .unset, .unset] [(.int (1 : Int32))])) := k5a
  have N5 := N0.app Nq5
  obtain ⟨h5, e5⟩ : ∃ z, T5.heap = z := ⟨_, rfl⟩
  rw [e5] at Kq5 V5
  have z5 : h2.size ≤ h5.size := Kq5.1
  have k6 : To p.tables e below S0 (T5.setTop (mkF m 58 #[.val (.ref b), .val (.int f), .val (.int (1 : Int32)), .val (.ref b2), .val (.int (1 : Int32)), .unset] [(.ref b2)])) := fun tt hq => k5 tt (by
    refine XS.istore X5.here hx rfl (hb hby d_jdk_52_method_16_code_12) rfl (l' := #[.val (.ref b), .val (.int f), .val (.int (1 : Int32)), .val (.ref b2), .val (.int (1 : Int32)), .unset]) rfl ?_
    refine XS.iload X5.here hx rfl (hb hby d_jdk_52_method_16_code_14) rfl ?_
    refine XS.iloadN X5.here hx rfl (hb hby d_jdk_52_method_16_code_16) rfl ?_
    refine XS.icmpYes X5.here hx rfl (pc0 := 17) (pc' := 57) rfl (hb hby d_jdk_52_method_16_code_17) rfl (teq (by decide)).1 (by decide) (by decide) ?_
    refine XS.aloadN X5.here hx rfl (hb hby d_jdk_52_method_16_code_57) rfl rfl ?_
    exact hq)
  have hE := e5
  refine retRef X5 hx hret hlk rfl rfl (hb hby d_jdk_52_method_16_code_58) k6 ?_ (by decide) (by decide)
  try rw [hE]
  exact ⟨b2, _, rfl, N5, (by omega), (((Keep.refl h0 []).ext E2).trans Kq5 (allS (Or.inr (by omega)) all0)), V5⟩
theorem pd_14 : parseMethodDescriptor "([CII)[B" = some ⟨[(.array .char), .int, .int], some (.array .byte)⟩ := by decide +kernel
theorem d_jdk_52_method_15_code_0 : decode jdk_52_method_15_code 0 = .ok (.iload_n 1, 1) := by decide +kernel
theorem d_jdk_52_method_15_code_1 : decode jdk_52_method_15_code 1 = .ok (.aload_n 0, 1) := by decide +kernel
theorem d_jdk_52_method_15_code_2 : decode jdk_52_method_15_code 2 = .ok (.arraylength, 1) := by decide +kernel
theorem d_jdk_52_method_15_code_3 : decode jdk_52_method_15_code 3 = .ok (.isub, 1) := by decide +kernel
theorem d_jdk_52_method_15_code_4 : decode jdk_52_method_15_code 4 = .ok (.bipush 31, 2) := by decide +kernel
theorem d_jdk_52_method_15_code_6 : decode jdk_52_method_15_code 6 = .ok (.iushr, 1) := by decide +kernel
theorem d_jdk_52_method_15_code_7 : decode jdk_52_method_15_code 7 = .ok (.i2b, 1) := by decide +kernel
theorem d_jdk_52_method_15_code_8 : decode jdk_52_method_15_code 8 = .ok (.ireturn, 1) := by decide +kernel
set_option maxRecDepth 65536 in
set_option maxHeartbeats 40000000 in
theorem rm_cl_1 (l : Launch) (Z : State) (a0 : Array Value) (hw : ∀ d ∈ tables_1, d.before a0 Z = true) (t : Addr) (kt : ClassId) (d0 : Int32) (h0 : Heap) (n0 : Nat) (hn0 : n0 ≤ h0.size) (P0 : Arv Z h0 t kt .byte (1 : Int32) [(.int d0)] (.int (0 : Int32))) :
    Con l Z (⟨"java/lang/StringUTF16", "coderFromArrayLen", "([BI)B"⟩ : MethodName) jdk_52_method_15_code 2 (some .byte) [] ({ frames := 0, cells := 0, slots := 0, locals := 0 } : Room) #[(.ref t), (.int (1 : Int32))] h0 (fun v h L => v = some (.int (0 : Int32)) ∧ Fr n0 L ∧ h = h0) := by
  refine enter (Ls := #[.val (.ref t), .val (.int (1 : Int32))]) (plainFor_of_name pn_5) (fun m => by exact entry_eq rfl) ?_
  intro p e s m below meth cd_ s₁ S0 hx hby hml hret hlk hnm hown hZ X0 e0 k0
  have N0 := Fr.nil n0
  have k1 : To p.tables e below S0 (s₁.setTop (mkF m 2 #[.val (.ref t), .val (.int (1 : Int32))] [(.ref t), (.int (1 : Int32))])) := fun tt hq => k0 tt (by
    refine XS.iloadN X0.here hx rfl (hb hby d_jdk_52_method_15_code_0) rfl ?_
    refine XS.aloadN X0.here hx rfl (hb hby d_jdk_52_method_15_code_1) rfl rfl ?_
    exact hq)
  obtain ⟨cl2, Ar2, -, S2, M2, -, -⟩ := id P0
  have st2 := fun tt => X0.arraylength hx (by rw [e0]; exact Ar2.1) (State.isArrayOf_alike hZ.alike Ar2.2.1) (g := (mkF m 2 #[.val (.ref t), .val (.int (1 : Int32))] [(.ref t), (.int (1 : Int32))])) rfl rfl (hb hby d_jdk_52_method_15_code_2) tt
  rw [len_of S2 M2] at st2
  have k2 : To p.tables e below S0 (s₁.setTop (mkF m 3 #[.val (.ref t), .val (.int (1 : Int32))] [(.int (1 : Int32)), (.int (1 : Int32))])) := fun tt hq => k1 tt (st2 tt hq)
  have k3 : To p.tables e below S0 (s₁.setTop (mkF m 8 #[.val (.ref t), .val (.int (1 : Int32))] [(.int (0 : Int32))])) := fun tt hq => k2 tt (by
    refine XS.isub X0.here hx rfl (hb hby d_jdk_52_method_15_code_3) rfl ?_
    refine XS.bipush X0.here hx rfl (hb hby d_jdk_52_method_15_code_4) ?_
    refine XS.iushr X0.here hx rfl (hb hby d_jdk_52_method_15_code_6) rfl ?_
    refine XS.i2b X0.here hx rfl (hb hby d_jdk_52_method_15_code_7) rfl ?_
    exact hq)
  have hE := e0
  refine retInt X0 hx hret hlk (by simp) rfl (hb hby d_jdk_52_method_15_code_8) k3 ?_ (by decide) (by decide)
  try rw [hE]
  exact ⟨rfl, N0, rfl⟩
theorem pd_15 : parseMethodDescriptor "([BI)B" = some ⟨[(.array .byte), .int], some .byte⟩ := by decide +kernel
set_option maxRecDepth 65536 in
set_option maxHeartbeats 40000000 in
theorem rm_n4_1 (l : Launch) (Z : State) (a0 : Array Value) (hw : ∀ d ∈ tables_1, d.before a0 Z = true) (zc : Int32) (a : Addr) (b : Addr) (kb : ClassId) (u1 : Value) (u2 : Value) (f : Int32) (d0 : Int32) (d1 : Int32) (d2 : Int32) (d3 : Int32) (d4 : Int32) (d5 : Int32) (h0 : Heap) (n0 : Nat) (hn0 : n0 ≤ h0.size) (S_c : Sta Z Z.heap "java/lang/String" "COMPACT_STRINGS" "Z" (.int zc)) (hzc : ¬ zc = (0 : Int32)) (O0 : Old Z n0 h0) (E0 : Exa Z h0 a "java/lang/String") (F1 : Fld Z h0 a "java/lang/String" "value" "[B" u1) (F2 : Fld Z h0 a "java/lang/String" "coder" "B" u2) (P0 : Arv Z h0 b kb .char (6 : Int32) [(.int d0), (.int d1), (.int d2), (.int d3), (.int d4), (.int d5)] (.int (0 : Int32))) (ga : n0 ≤ a) (ya : @LT.lt Nat instLTNat a h0.size) (yb : @LT.lt Nat instLTNat b h0.size) (nab : ¬ (@Eq Nat b a)) (hf : f = (0 : Int32) ∨ f = (1 : Int32) ∨ f = (2 : Int32) ∨ f = (3 : Int32) ∨ f = (4 : Int32) ∨ f = (5 : Int32)) (hm : ∀ i : Int32, ¬ own_at [d0, d1, d2, d3, d4, d5] i < (0 : Int32) ∧ ¬ (255 : Int32) < own_at [d0, d1, d2, d3, d4, d5] i) :
    Con l Z (⟨"java/lang/String", "<init>", "([CIILjava/lang/Void;)V"⟩ : MethodName) jdk_42_method_149_code 6 none [] ({ frames := 2, cells := 1, slots := 1, locals := 35 } : Room) #[(.ref a), (.ref b), (.int f), (.int (1 : Int32)), .null] h0 (fun v h L => v = none ∧ Fr n0 L ∧ Keep h0 h [a] ∧ ∃ (t : Addr) (k : ClassId), (@LT.lt Nat instLTNat t h.size) ∧ Exa Z h a "java/lang/String" ∧ Fld Z h a "java/lang/String" "value" "[B" (.ref t) ∧ Fld Z h a "java/lang/String" "coder" "B" (.int (0 : Int32)) ∧ Arv Z h t k .byte (1 : Int32) [(.int (nar .byte ((own_at [d0, d1, d2, d3, d4, d5] f).toInt8.toInt32)))] (.int 0)) := by
  refine enter (Ls := #[.val (.ref a), .val (.ref b), .val (.int f), .val (.int (1 : Int32)), .val .null, .unset]) (plainFor_of_name pn_3) (fun m => by exact entry_eq rfl) ?_
  intro p e s m below meth cd_ s₁ S0 hx hby hml hret hlk hnm hown hZ X0 e0 k0
  have N0 := Fr.nil n0
  have k1 : To p.tables e below S0 (s₁.setTop (mkF m 1 #[.val (.ref a), .val (.ref b), .val (.int f), .val (.int (1 : Int32)), .val .null, .unset] [(.ref a)])) := fun tt hq => k0 tt (by
    refine XS.aloadN X0.here hx rfl (hb hby d_jdk_42_method_149_code_0) rfl rfl ?_
    exact hq)
  obtain ⟨T2, X2, e2, st2⟩ := initO X0 hx hZ hown (wq hw 68 rfl) (wq hw 14 rfl) (wq hw 15 rfl) e0 (g := (mkF m 1 #[.val (.ref a), .val (.ref b), .val (.int f), .val (.int (1 : Int32)), .val .null, .unset] [(.ref a)])) rfl (by rw [hml]; rfl) rfl (hb hby d_jdk_42_method_149_code_1) (by decide) (W := 0) (by show 2 * 0 + _ ≤ _; exact Nat.le_of_eq rfl) (by decide)
  have k2 : To p.tables e below S0 (T2.setTop (mkF m 4 #[.val (.ref a), .val (.ref b), .val (.int f), .val (.int (1 : Int32)), .val .null, .unset] [])) := fun tt hq => k1 tt (st2 tt hq)
  have k3 : To p.tables e below S0 (T2.setTop (mkF m 27 #[.val (.ref a), .val (.ref b), .val (.int f), .val (.int (1 : Int32)), .val .null, .unset] [])) := fun tt hq => k2 tt (by
    refine XS.iloadN X2.here hx rfl (hb hby d_jdk_42_method_149_code_4) rfl ?_
    refine XS.ifYes X2.here hx rfl (pc0 := 5) (pc' := 27) rfl (hb hby d_jdk_42_method_149_code_5) rfl ((if0 _ _).trans (feq (by decide)).2) (by decide) (by decide) ?_
    exact hq)
  obtain ⟨T4, X4, e4, st4⟩ := getS2 X2 hx hZ hown (host := "") (Or.inl (wq hw 69 rfl)) Via.refl e2 (staOld S_c O0) (g := (mkF m 27 #[.val (.ref a), .val (.ref b), .val (.int f), .val (.int (1 : Int32)), .val .null, .unset] [])) rfl (hb hby d_jdk_42_method_149_code_27)
  have k4 : To p.tables e below S0 (T4.setTop (mkF m 30 #[.val (.ref a), .val (.ref b), .val (.int f), .val (.int (1 : Int32)), .val .null, .unset] [(.int zc)])) := fun tt hq => k3 tt (st4 tt hq)
  have k5 : To p.tables e below S0 (T4.setTop (mkF m 36 #[.val (.ref a), .val (.ref b), .val (.int f), .val (.int (1 : Int32)), .val .null, .unset] [(.int (1 : Int32)), (.int f), (.ref b)])) := fun tt hq => k4 tt (by
    refine XS.ifNo X4.here hx rfl (hb hby d_jdk_42_method_149_code_30) rfl ((if0 _ _).trans (feq hzc).1) ?_
    refine XS.aloadN X4.here hx rfl (hb hby d_jdk_42_method_149_code_33) rfl rfl ?_
    refine XS.iloadN X4.here hx rfl (hb hby d_jdk_42_method_149_code_34) rfl ?_
    refine XS.iloadN X4.here hx rfl (hb hby d_jdk_42_method_149_code_35) rfl ?_
    exact hq)
  obtain ⟨_, T6, L6, X6, ⟨t6, kt6, rfl, Nq6, gt6, Kq6, V6⟩, k6a⟩ := callS' X4 hx hZ (y := (⟨"java/lang/StringUTF16", "compress", "([CII)[B"⟩ : MethodName)) hown (wq hw 70 rfl) (wq hw 71 rfl) (wq hw 72 rfl) (wq hw 73 rfl) (by decide) (backC (W := 0) (rm_c3_1 l Z a0 hw b kb f d0 d1 d2 d3 d4 d5 h0 n0 (by omega) P0 (by omega) hf hm) hZ (wq hw 73 rfl) (wq hw 72 rfl) (by decide) (by decide)) e4 (argsL := [(.ref b), (.int f), (.int (1 : Int32))]) (rest := []) rfl rfl pd_14 rfl (by rw [hml]; rfl) (hb hby d_jdk_42_method_149_code_36) (Nat.le_of_eq rfl) (by decide) (by decide) k5
  have k6 : To p.tables e below S0 (T6.setTop (mkF m 39 #[.val (.ref a), .val (.ref b), .val (.int f), .val (.int (1 : Int32)), .val .null, .unset] [(.ref t6)])) := k6a
  have N6 := N0.app Nq6
  obtain ⟨h6, e6⟩ : ∃ z, T6.heap = z := ⟨_, rfl⟩
  rw [e6] at Kq6 V6
  have z6 : h0.size ≤ h6.size := Kq6.1
  have y6 : @LT.lt Nat instLTNat t6 h6.size := V6.lt
  have k7 : To p.tables e below S0 (T6.setTop (mkF m 45 #[.val (.ref a), .val (.ref b), .val (.int f), .val (.int (1 : Int32)), .val .null, .val (.ref t6)] [(.int (1 : Int32)), (.ref t6), (.ref a)])) := fun tt hq => k6 tt (by
    refine XS.astore X6.here hx rfl (hb hby d_jdk_42_method_149_code_39) rfl rfl (l' := #[.val (.ref a), .val (.ref b), .val (.int f), .val (.int (1 : Int32)), .val .null, .val (.ref t6)]) rfl ?_
    refine XS.aloadN X6.here hx rfl (hb hby d_jdk_42_method_149_code_41) rfl rfl ?_
    refine XS.aload X6.here hx rfl (hb hby d_jdk_42_method_149_code_42) rfl rfl ?_
    refine XS.iloadN X6.here hx rfl (hb hby d_jdk_42_method_149_code_44) rfl ?_
    exact hq)
  obtain ⟨_, T8, L8, X8, ⟨rfl, Nq8, eq8⟩, k8a⟩ := callS' X6 hx hZ (y := (⟨"java/lang/StringUTF16", "coderFromArrayLen", "([BI)B"⟩ : MethodName)) hown (wq hw 78 rfl) (wq hw 79 rfl) (wq hw 72 rfl) (wq hw 80 rfl) (by decide) (backC (W := 1) (rm_cl_1 l Z a0 hw t6 kt6 (nar .byte ((own_at [d0, d1, d2, d3, d4, d5] f).toInt8.toInt32)) h6 n0 (by omega) V6) hZ (wq hw 80 rfl) (wq hw 72 rfl) (by decide) (by decide)) e6 (argsL := [(.ref t6), (.int (1 : Int32))]) (rest := [(.ref a)]) rfl rfl pd_15 rfl (by rw [hml]; rfl) (hb hby d_jdk_42_method_149_code_45) (Nat.le_of_eq rfl) (by decide) (by decide) k7
  have k8 : To p.tables e below S0 (T8.setTop (mkF m 48 #[.val (.ref a), .val (.ref b), .val (.int f), .val (.int (1 : Int32)), .val .null, .val (.ref t6)] [(.int (0 : Int32)), (.ref a)])) := k8a
  have N8 := N6.app Nq8
  have e8 : T8.heap = h6 := eq8
  have f9 : Exa Z h6 a "java/lang/String" := (E0.keep Kq6)
  have f10 : Fld Z h6 a "java/lang/String" "coder" "B" u2 := (F2.keep Kq6 nin0)
  obtain ⟨T11, h11, X11, e11, W11, st11⟩ := putF X8 hx hZ hown (host := "") (Or.inl (wq hw 81 rfl)) Via.refl e8 f10 f9 (Or.inr ⟨(wq hw 82 rfl), rfl, hnm⟩) (wq hw 48 rfl) (ty := .byte) (by decide) rfl rfl (g := (mkF m 48 #[.val (.ref a), .val (.ref b), .val (.int f), .val (.int (1 : Int32)), .val .null, .val (.ref t6)] [(.int (0 : Int32)), (.ref a)])) rfl rfl (hb hby d_jdk_42_method_149_code_48)
  have k11 : To p.tables e below S0 (T11.setTop (mkF m 51 #[.val (.ref a), .val (.ref b), .val (.int f), .val (.int (1 : Int32)), .val .null, .val (.ref t6)] [])) := fun tt hq => k8 tt (st11 tt hq)
  have z11 : h11.size = h6.size := W11.size
  have F11 := f10.same W11
  have N11 := Fr.snoc X11 N8 (by omega : n0 ≤ a)
  have f12 : Exa Z h11 a "java/lang/String" := (f9.wr W11)
  have f13 : Fld Z h11 a "java/lang/String" "value" "[B" u1 := ((F1.keep Kq6 nin0).other W11 (Or.inr (slot_ne (Or.inr (wq hw 84 rfl)) (Or.inr (wq hw 82 rfl)) (by decide) (t := (.array .byte)) (t' := .byte) (by decide) (by decide))))
  have k14 : To p.tables e below S0 (T11.setTop (mkF m 54 #[.val (.ref a), .val (.ref b), .val (.int f), .val (.int (1 : Int32)), .val .null, .val (.ref t6)] [(.ref t6), (.ref a)])) := fun tt hq => k11 tt (by
    refine XS.aloadN X11.here hx rfl (hb hby d_jdk_42_method_149_code_51) rfl rfl ?_
    refine XS.aload X11.here hx rfl (hb hby d_jdk_42_method_149_code_52) rfl rfl ?_
    exact hq)
  obtain ⟨T15, h15, X15, e15, W15, st15⟩ := putF X11 hx hZ hown (host := "") (Or.inl (wq hw 83 rfl)) Via.refl e11 f13 f12 (Or.inr ⟨(wq hw 84 rfl), rfl, hnm⟩) (wq hw 48 rfl) (ty := (.array .byte)) (by decide) rfl rfl (g := (mkF m 54 #[.val (.ref a), .val (.ref b), .val (.int f), .val (.int (1 : Int32)), .val .null, .val (.ref t6)] [(.ref t6), (.ref a)])) rfl rfl (hb hby d_jdk_42_method_149_code_54)
  have k15 : To p.tables e below S0 (T15.setTop (mkF m 57 #[.val (.ref a), .val (.ref b), .val (.int f), .val (.int (1 : Int32)), .val .null, .val (.ref t6)] [])) := fun tt hq => k14 tt (st15 tt hq)
  have z15 : h15.size = h11.size := W15.size
  have F15 := f13.same W15
  have N15 := Fr.snoc X15 N11 (by omega : n0 ≤ a)
  have f16 : Arv Z h15 t6 kt6 .byte (1 : Int32) [(.int (nar .byte ((own_at [d0, d1, d2, d3, d4, d5] f).toInt8.toInt32)))] (.int (0 : Int32)) := ((V6.other W11 (adr_ne (by omega))).other W15 (adr_ne (by omega)))
  have f17 : Exa Z h15 a "java/lang/String" := (f12.wr W15)
  have f18 : Fld Z h15 a "java/lang/String" "coder" "B" (.int (0 : Int32)) := (F11.other W15 (Or.inr (slot_ne (Or.inr (wq hw 82 rfl)) (Or.inr (wq hw 84 rfl)) (by decide) (t := .byte) (t' := (.array .byte)) (by decide) (by decide))))
  have hE := e15
  refine retVoid X15 hx hret hlk (hb hby d_jdk_42_method_149_code_57) k15 ?_ (by decide) (by decide)
  try rw [hE]
  exact ⟨rfl, N15, ((((Keep.refl h0 [a]).trans Kq6 all0).wr W11 (Or.inl (by simp))).wr W15 (Or.inl (by simp))), t6, kt6, f16.lt, f17, F15, f18, f16⟩
set_option maxRecDepth 65536 in
set_option maxHeartbeats 40000000 in
theorem rm_n3_1 (l : Launch) (Z : State) (a0 : Array Value) (hw : ∀ d ∈ tables_1, d.before a0 Z = true) (zc : Int32) (fm : Value) (a : Addr) (b : Addr) (kb : ClassId) (u1 : Value) (u2 : Value) (f : Int32) (d0 : Int32) (d1 : Int32) (d2 : Int32) (d3 : Int32) (d4 : Int32) (d5 : Int32) (h0 : Heap) (n0 : Nat) (hn0 : n0 ≤ h0.size) (S_c : Sta Z Z.heap "java/lang/String" "COMPACT_STRINGS" "Z" (.int zc)) (hzc : ¬ zc = (0 : Int32)) (S_f : Sta Z Z.heap "jdk/internal/util/Preconditions" "SIOOBE_FORMATTER" "Ljava/util/function/BiFunction;" fm) (hfm : fm.isRef = true) (O0 : Old Z n0 h0) (E0 : Exa Z h0 a "java/lang/String") (F1 : Fld Z h0 a "java/lang/String" "value" "[B" u1) (F2 : Fld Z h0 a "java/lang/String" "coder" "B" u2) (P0 : Arv Z h0 b kb .char (6 : Int32) [(.int d0), (.int d1), (.int d2), (.int d3), (.int d4), (.int d5)] (.int (0 : Int32))) (ga : n0 ≤ a) (ya : @LT.lt Nat instLTNat a h0.size) (yb : @LT.lt Nat instLTNat b h0.size) (nab : ¬ (@Eq Nat b a)) (hf : f = (0 : Int32) ∨ f = (1 : Int32) ∨ f = (2 : Int32) ∨ f = (3 : Int32) ∨ f = (4 : Int32) ∨ f = (5 : Int32)) (hm : ∀ i : Int32, ¬ own_at [d0, d1, d2, d3, d4, d5] i < (0 : Int32) ∧ ¬ (255 : Int32) < own_at [d0, d1, d2, d3, d4, d5] i) (q1 : ¬ (((6 : Int32) ||| f) ||| (1 : Int32)) < (0 : Int32)) (q2 : ¬ ((6 : Int32) - f) < (1 : Int32)) :
    Con l Z (⟨"java/lang/String", "<init>", "([CII)V"⟩ : MethodName) jdk_42_method_4_code 4 none [] ({ frames := 3, cells := 1, slots := 1, locals := 52 } : Room) #[(.ref a), (.ref b), (.int f), (.int (1 : Int32))] h0 (fun v h L => v = none ∧ Fr n0 L ∧ Keep h0 h [a] ∧ ∃ (t : Addr) (k : ClassId), (@LT.lt Nat instLTNat t h.size) ∧ Exa Z h a "java/lang/String" ∧ Fld Z h a "java/lang/String" "value" "[B" (.ref t) ∧ Fld Z h a "java/lang/String" "coder" "B" (.int (0 : Int32)) ∧ Arv Z h t k .byte (1 : Int32) [(.int (nar .byte ((own_at [d0, d1, d2, d3, d4, d5] f).toInt8.toInt32)))] (.int 0)) := by
  refine enter (Ls := #[.val (.ref a), .val (.ref b), .val (.int f), .val (.int (1 : Int32))]) (plainFor_of_name pn_3) (fun m => by exact entry_eq rfl) ?_
  intro p e s m below meth cd_ s₁ S0 hx hby hml hret hlk hnm hown hZ X0 e0 k0
  have N0 := Fr.nil n0
  have k1 : To p.tables e below S0 (s₁.setTop (mkF m 7 #[.val (.ref a), .val (.ref b), .val (.int f), .val (.int (1 : Int32))] [(.int (1 : Int32)), (.int f), (.ref b), (.int (1 : Int32)), (.int f), (.ref b), (.ref a)])) := fun tt hq => k0 tt (by
    refine XS.aloadN X0.here hx rfl (hb hby d_jdk_42_method_4_code_0) rfl rfl ?_
    refine XS.aloadN X0.here hx rfl (hb hby d_jdk_42_method_4_code_1) rfl rfl ?_
    refine XS.iloadN X0.here hx rfl (hb hby d_jdk_42_method_4_code_2) rfl ?_
    refine XS.iloadN X0.here hx rfl (hb hby d_jdk_42_method_4_code_3) rfl ?_
    refine XS.aloadN X0.here hx rfl (hb hby d_jdk_42_method_4_code_4) rfl rfl ?_
    refine XS.iloadN X0.here hx rfl (hb hby d_jdk_42_method_4_code_5) rfl ?_
    refine XS.iloadN X0.here hx rfl (hb hby d_jdk_42_method_4_code_6) rfl ?_
    exact hq)
  obtain ⟨_, T2, L2, X2, ⟨rfl, Nq2, eq2⟩, k2a⟩ := callS' X0 hx hZ (y := (⟨"java/lang/String", "rangeCheck", "([CII)Ljava/lang/Void;"⟩ : MethodName)) hown (wq hw 53 rfl) (wq hw 54 rfl) (wq hw 49 rfl) (wq hw 55 rfl) (by decide) (backC (W := 4) (rm_rck l Z a0 hw fm b kb f (1 : Int32) d0 d1 d2 d3 d4 d5 h0 n0 (by omega) S_f hfm O0 P0 q1 q2) hZ (wq hw 55 rfl) (wq hw 49 rfl) (by decide) (by decide)) e0 (argsL := [(.ref b), (.int f), (.int (1 : Int32))]) (rest := [(.int (1 : Int32)), (.int f), (.ref b), (.ref a)]) rfl rfl pd_10 rfl (by rw [hml]; rfl) (hb hby d_jdk_42_method_4_code_7) (Nat.le_of_eq rfl) (by decide) (by decide) k1
  have k2 : To p.tables e below S0 (T2.setTop (mkF m 10 #[.val (.ref a), .val (.ref b), .val (.int f), .val (.int (1 : Int32))] [.null, (.int (1 : Int32)), (.int f), (.ref b), (.ref a)])) := k2a
  have N2 := N0.app Nq2
  have e2 : T2.heap = h0 := eq2
  obtain ⟨_, T3, L3, X3, ⟨rfl, Nq3, Kq3, t3, kt3, gt3, P30, P31, P32, P33⟩, k3a⟩ := callC' X2 hx hZ (y := (⟨"java/lang/String", "<init>", "([CIILjava/lang/Void;)V"⟩ : MethodName)) rfl hown (wq hw 64 rfl) (wq hw 65 rfl) (wq hw 67 rfl) (by decide) (backC (W := 0) (rm_n4_1 l Z a0 hw zc a b kb u1 u2 f d0 d1 d2 d3 d4 d5 h0 n0 (by omega) S_c hzc O0 E0 F1 F2 P0 (by omega) (by omega) (by omega) (by omega) hf hm) hZ (wq hw 67 rfl) (wq hw 49 rfl) (by decide) (by decide)) e2 (argsL := [(.ref b), (.int f), (.int (1 : Int32)), .null]) (rest := []) rfl rfl pd_11 rfl (by rw [hml]; rfl) (hb hby d_jdk_42_method_4_code_10) (Nat.le_of_eq rfl) (by decide) (by decide) k2
  have k3 : To p.tables e below S0 (T3.setTop (mkF m 13 #[.val (.ref a), .val (.ref b), .val (.int f), .val (.int (1 : Int32))] [])) := k3a
  have N3 := N2.app Nq3
  obtain ⟨h3, e3⟩ : ∃ z, T3.heap = z := ⟨_, rfl⟩
  rw [e3] at Kq3 gt3 P30 P31 P32 P33
  have z3 : h0.size ≤ h3.size := Kq3.1
  have hE := e3
  refine retVoid X3 hx hret hlk (hb hby d_jdk_42_method_4_code_13) k3 ?_ (by decide) (by decide)
  try rw [hE]
  exact ⟨rfl, N3, ((Keep.refl h0 [a]).trans Kq3 (allS (Or.inl (by simp)) all0)), t3, kt3, P33.lt, P30, P31, P32, P33⟩
set_option maxRecDepth 65536 in
set_option maxHeartbeats 40000000 in
theorem rm_ts_1 (l : Launch) (Z : State) (a0 : Array Value) (hw : ∀ d ∈ tables_1, d.before a0 Z = true) (zc : Int32) (fm : Value) (r : Addr) (b : Addr) (kb : ClassId) (f : Int32) (d0 : Int32) (d1 : Int32) (d2 : Int32) (d3 : Int32) (d4 : Int32) (d5 : Int32) (h0 : Heap) (n0 : Nat) (hn0 : n0 ≤ h0.size) (S_c : Sta Z Z.heap "java/lang/String" "COMPACT_STRINGS" "Z" (.int zc)) (hzc : ¬ zc = (0 : Int32)) (S_f : Sta Z Z.heap "jdk/internal/util/Preconditions" "SIOOBE_FORMATTER" "Ljava/util/function/BiFunction;" fm) (hfm : fm.isRef = true) (O0 : Old Z n0 h0) (R0 : Exa Z h0 r "strikebound/cli/InPlaceText") (R1 : Fld Z h0 r "strikebound/cli/InPlaceText" "chars" "[C" (.ref b)) (R2 : Fld Z h0 r "strikebound/cli/InPlaceText" "start" "I" (.int f)) (R3 : Fld Z h0 r "strikebound/cli/InPlaceText" "length" "I" (.int (1 : Int32))) (P0 : Arv Z h0 b kb .char (6 : Int32) [(.int d0), (.int d1), (.int d2), (.int d3), (.int d4), (.int d5)] (.int (0 : Int32))) (yb : @LT.lt Nat instLTNat b h0.size) (hf : f = (0 : Int32) ∨ f = (1 : Int32) ∨ f = (2 : Int32) ∨ f = (3 : Int32) ∨ f = (4 : Int32) ∨ f = (5 : Int32)) (hm : ∀ i : Int32, ¬ own_at [d0, d1, d2, d3, d4, d5] i < (0 : Int32) ∧ ¬ (255 : Int32) < own_at [d0, d1, d2, d3, d4, d5] i) (q1 : ¬ (((6 : Int32) ||| f) ||| (1 : Int32)) < (0 : Int32)) (q2 : ¬ ((6 : Int32) - f) < (1 : Int32)) :
    Con l Z (⟨"strikebound/cli/InPlaceText", "toString", "()Ljava/lang/String;"⟩ : MethodName) prog_26_method_8_code 1 (some (.object "java/lang/String")) [] ({ frames := 4, cells := 2, slots := 5, locals := 68 } : Room) #[(.ref r)] h0 (fun v h L => ∃ (c t : Addr) (k : ClassId), v = some (.ref c) ∧ Fr n0 L ∧ (@LT.lt Nat instLTNat c h.size) ∧ (@LT.lt Nat instLTNat t h.size) ∧ Keep h0 h [] ∧ Exa Z h c "java/lang/String" ∧ Fld Z h c "java/lang/String" "value" "[B" (.ref t) ∧ Fld Z h c "java/lang/String" "coder" "B" (.int (0 : Int32)) ∧ Arv Z h t k .byte (1 : Int32) [(.int (nar .byte ((own_at [d0, d1, d2, d3, d4, d5] f).toInt8.toInt32)))] (.int 0)) := by
  refine enter (Ls := #[.val (.ref r)]) (plainFor_of_name pn_1) (fun m => by exact entry_eq rfl) ?_
  intro p e s m below meth cd_ s₁ S0 hx hby hml hret hlk hnm hown hZ X0 e0 k0
  have N0 := Fr.nil n0
  obtain ⟨T1, h1, X1, e1, E1, A1, D1, -, st1⟩ := newO X0 hx hZ hown (wq hw 47 rfl) (wq hw 48 rfl) (wq hw 49 rfl) e0 (g := (mkF m 0 #[.val (.ref r)] [])) rfl (hb hby d_prog_26_method_8_code_0) (by decide) (by decide)
  obtain ⟨b1, g1⟩ : ∃ z, z = h0.size := ⟨_, rfl⟩
  rw [← g1] at A1 D1 st1
  have k1 : To p.tables e below S0 (T1.setTop (mkF m 3 #[.val (.ref r)] [(.ref b1)])) := fun tt hq => k0 tt (st1 tt hq)
  have z1 : h0.size ≤ h1.size := E1.1
  have y1 : @LT.lt Nat instLTNat b1 h1.size := A1.lt
  have F1_coder : Fld Z h1 b1 "java/lang/String" "coder" "B" (.int (0 : Int32)) := D1 (Or.inr (wq hw 82 rfl)) (ty := .byte) (by decide)
  have F1_value : Fld Z h1 b1 "java/lang/String" "value" "[B" .null := D1 (Or.inr (wq hw 84 rfl)) (ty := (.array .byte)) (by decide)
  have f2 : Fld Z h1 r "strikebound/cli/InPlaceText" "chars" "[C" (.ref b) := (R1.ext E1)
  have k3 : To p.tables e below S0 (T1.setTop (mkF m 5 #[.val (.ref r)] [(.ref r), (.ref b1), (.ref b1)])) := fun tt hq => k1 tt (by
    refine XS.dup X1.here hx rfl (hb hby d_prog_26_method_8_code_3) rfl rfl ?_
    refine XS.aloadN X1.here hx rfl (hb hby d_prog_26_method_8_code_4) rfl rfl ?_
    exact hq)
  obtain ⟨T4, X4, e4, st4⟩ := getF X1 hx hZ hown (host := "") (Or.inl (wq hw 16 rfl)) Via.refl e1 f2 (g := (mkF m 5 #[.val (.ref r)] [(.ref r), (.ref b1), (.ref b1)])) rfl rfl (hb hby d_prog_26_method_8_code_5)
  have k4 : To p.tables e below S0 (T4.setTop (mkF m 8 #[.val (.ref r)] [(.ref b), (.ref b1), (.ref b1)])) := fun tt hq => k3 tt (st4 tt hq)
  have f5 : Fld Z h1 r "strikebound/cli/InPlaceText" "start" "I" (.int f) := (R2.ext E1)
  have k6 : To p.tables e below S0 (T4.setTop (mkF m 9 #[.val (.ref r)] [(.ref r), (.ref b), (.ref b1), (.ref b1)])) := fun tt hq => k4 tt (by
    refine XS.aloadN X4.here hx rfl (hb hby d_prog_26_method_8_code_8) rfl rfl ?_
    exact hq)
  obtain ⟨T7, X7, e7, st7⟩ := getF X4 hx hZ hown (host := "") (Or.inl (wq hw 23 rfl)) Via.refl e4 f5 (g := (mkF m 9 #[.val (.ref r)] [(.ref r), (.ref b), (.ref b1), (.ref b1)])) rfl rfl (hb hby d_prog_26_method_8_code_9)
  have k7 : To p.tables e below S0 (T7.setTop (mkF m 12 #[.val (.ref r)] [(.int f), (.ref b), (.ref b1), (.ref b1)])) := fun tt hq => k6 tt (st7 tt hq)
  have f8 : Fld Z h1 r "strikebound/cli/InPlaceText" "length" "I" (.int (1 : Int32)) := (R3.ext E1)
  have k9 : To p.tables e below S0 (T7.setTop (mkF m 13 #[.val (.ref r)] [(.ref r), (.int f), (.ref b), (.ref b1), (.ref b1)])) := fun tt hq => k7 tt (by
    refine XS.aloadN X7.here hx rfl (hb hby d_prog_26_method_8_code_12) rfl rfl ?_
    exact hq)
  obtain ⟨T10, X10, e10, st10⟩ := getF X7 hx hZ hown (host := "") (Or.inl (wq hw 25 rfl)) Via.refl e7 f8 (g := (mkF m 13 #[.val (.ref r)] [(.ref r), (.int f), (.ref b), (.ref b1), (.ref b1)])) rfl rfl (hb hby d_prog_26_method_8_code_13)
  have k10 : To p.tables e below S0 (T10.setTop (mkF m 16 #[.val (.ref r)] [(.int (1 : Int32)), (.int f), (.ref b), (.ref b1), (.ref b1)])) := fun tt hq => k9 tt (st10 tt hq)
  have f11 : Old Z n0 h1 := (O0.ext E1)
  have f12 : Arv Z h1 b kb .char (6 : Int32) [(.int d0), (.int d1), (.int d2), (.int d3), (.int d4), (.int d5)] (.int (0 : Int32)) := (P0.ext E1)
  obtain ⟨_, T13, L13, X13, ⟨rfl, Nq13, Kq13, t13, kt13, gt13, P130, P131, P132, P133⟩, k13a⟩ := callC' X10 hx hZ (y := (⟨"java/lang/String", "<init>", "([CII)V"⟩ : MethodName)) rfl hown (wq hw 50 rfl) (wq hw 51 rfl) (wq hw 52 rfl) (by decide) (backC (W := 1) (rm_n3_1 l Z a0 hw zc fm b1 b kb .null (.int (0 : Int32)) f d0 d1 d2 d3 d4 d5 h1 n0 (by omega) S_c hzc S_f hfm f11 A1 F1_value F1_coder f12 (by omega) (by omega) (by omega) (by omega) hf hm q1 q2) hZ (wq hw 52 rfl) (wq hw 49 rfl) (by decide) (by decide)) e10 (argsL := [(.ref b), (.int f), (.int (1 : Int32))]) (rest := [(.ref b1)]) rfl rfl pd_7 rfl (by rw [hml]; rfl) (hb hby d_prog_26_method_8_code_16) (Nat.le_of_eq rfl) (by decide) (by decide) k10
  have k13 : To p.tables e below S0 (T13.setTop (mkF m 19 #[.val (.ref r)] [(.ref b1)])) := k13a
  have N13 := N0.app Nq13
  obtain ⟨h13, e13⟩ : ∃ z, T13.heap = z := ⟨_, rfl⟩
  rw [e13] at Kq13 gt13 P130 P131 P132 P133
  have z13 : h1.size ≤ h13.size := Kq13.1
  have hE := e13
  refine retRef X13 hx hret hlk rfl rfl (hb hby d_prog_26_method_8_code_19) k13 ?_ (by decide) (by decide)
  try rw [hE]
  exact ⟨_, _, _, rfl, N13, P130.lt, P133.lt, (((Keep.refl h0 []).ext E1).trans Kq13 (allS (Or.inr (by omega)) all0)), P130, P131, P132, P133⟩
theorem pd_16 : parseMethodDescriptor "(I)C" = some ⟨[.int], some .char⟩ := by decide +kernel
theorem d_jdk_42_method_56_code_0 : decode jdk_42_method_56_code 0 = .ok (.aload_n 0, 1) := by decide +kernel
theorem d_jdk_42_method_56_code_1 : decode jdk_42_method_56_code 1 = .ok (.invokevirtual 492, 3) := by decide +kernel
theorem d_jdk_42_method_56_code_4 : decode jdk_42_method_56_code 4 = .ok (.ifCond .eq 12, 3) := by decide +kernel
theorem d_jdk_42_method_56_code_7 : decode jdk_42_method_56_code 7 = .ok (.aload_n 0, 1) := by decide +kernel
theorem d_jdk_42_method_56_code_8 : decode jdk_42_method_56_code 8 = .ok (.getfield 9, 3) := by decide +kernel
theorem d_jdk_42_method_56_code_11 : decode jdk_42_method_56_code 11 = .ok (.iload_n 1, 1) := by decide +kernel
theorem d_jdk_42_method_56_code_12 : decode jdk_42_method_56_code 12 = .ok (.invokestatic 495, 3) := by decide +kernel
theorem d_jdk_42_method_56_code_15 : decode jdk_42_method_56_code 15 = .ok (.ireturn, 1) := by decide +kernel
theorem d_jdk_42_method_56_code_16 : decode jdk_42_method_56_code 16 = .ok (.aload_n 0, 1) := by decide +kernel
theorem d_jdk_42_method_56_code_17 : decode jdk_42_method_56_code 17 = .ok (.getfield 9, 3) := by decide +kernel
theorem d_jdk_42_method_56_code_20 : decode jdk_42_method_56_code 20 = .ok (.iload_n 1, 1) := by decide +kernel
theorem d_jdk_42_method_56_code_21 : decode jdk_42_method_56_code 21 = .ok (.invokestatic 498, 3) := by decide +kernel
theorem d_jdk_42_method_56_code_24 : decode jdk_42_method_56_code 24 = .ok (.ireturn, 1) := by decide +kernel
theorem pd_17 : parseMethodDescriptor "()Z" = some ⟨[], some .boolean⟩ := by decide +kernel
theorem d_jdk_43_method_2_code_0 : decode jdk_43_method_2_code 0 = .ok (.iload_n 1, 1) := by decide +kernel
theorem d_jdk_43_method_2_code_1 : decode jdk_43_method_2_code 1 = .ok (.aload_n 0, 1) := by decide +kernel
theorem d_jdk_43_method_2_code_2 : decode jdk_43_method_2_code 2 = .ok (.arraylength, 1) := by decide +kernel
theorem d_jdk_43_method_2_code_3 : decode jdk_43_method_2_code 3 = .ok (.invokestatic 9, 3) := by decide +kernel
theorem d_jdk_43_method_2_code_6 : decode jdk_43_method_2_code 6 = .ok (.aload_n 0, 1) := by decide +kernel
theorem d_jdk_43_method_2_code_7 : decode jdk_43_method_2_code 7 = .ok (.iload_n 1, 1) := by decide +kernel
theorem d_jdk_43_method_2_code_8 : decode jdk_43_method_2_code 8 = .ok (.baload, 1) := by decide +kernel
theorem d_jdk_43_method_2_code_9 : decode jdk_43_method_2_code 9 = .ok (.sipush 255, 3) := by decide +kernel
theorem d_jdk_43_method_2_code_12 : decode jdk_43_method_2_code 12 = .ok (.iand, 1) := by decide +kernel
theorem d_jdk_43_method_2_code_13 : decode jdk_43_method_2_code 13 = .ok (.i2c, 1) := by decide +kernel
theorem d_jdk_43_method_2_code_14 : decode jdk_43_method_2_code 14 = .ok (.ireturn, 1) := by decide +kernel
theorem pn_6 : plainName "java/lang/StringLatin1" = true := by first | (simp [plainName, overriddenIn]; done) | decide +kernel
theorem pd_18 : parseMethodDescriptor "(II)V" = some ⟨[.int, .int], none⟩ := by decide +kernel
set_option maxRecDepth 65536 in
set_option maxHeartbeats 40000000 in
theorem rm_lcs1 (l : Launch) (Z : State) (a0 : Array Value) (hw : ∀ d ∈ tables_1, d.before a0 Z = true) (fm : Value) (t : Addr) (kt : ClassId) (c0 : Int32) (i : Int32) (h0 : Heap) (n0 : Nat) (hn0 : n0 ≤ h0.size) (S_f : Sta Z Z.heap "jdk/internal/util/Preconditions" "SIOOBE_FORMATTER" "Ljava/util/function/BiFunction;" fm) (hfm : fm.isRef = true) (O0 : Old Z n0 h0) (P0 : Arv Z h0 t kt .byte (1 : Int32) [(.int c0)] (.int (0 : Int32))) (hi0 : ¬ i < (0 : Int32)) (hi1 : i < (1 : Int32)) :
    Con l Z (⟨"java/lang/StringLatin1", "charAt", "([BI)C"⟩ : MethodName) jdk_43_method_2_code 2 (some .char) [] ({ frames := 2, cells := 0, slots := 0, locals := 27 } : Room) #[(.ref t), (.int i)] h0 (fun v h L => v = some (.int ((own_at [c0] i) &&& (255 : Int32))) ∧ Fr n0 L ∧ h = h0) := by
  refine enter (Ls := #[.val (.ref t), .val (.int i)]) (plainFor_of_name pn_6) (fun m => by exact entry_eq rfl) ?_
  intro p e s m below meth cd_ s₁ S0 hx hby hml hret hlk hnm hown hZ X0 e0 k0
  have N0 := Fr.nil n0
  have k1 : To p.tables e below S0 (s₁.setTop (mkF m 2 #[.val (.ref t), .val (.int i)] [(.ref t), (.int i)])) := fun tt hq => k0 tt (by
    refine XS.iloadN X0.here hx rfl (hb hby d_jdk_43_method_2_code_0) rfl ?_
    refine XS.aloadN X0.here hx rfl (hb hby d_jdk_43_method_2_code_1) rfl rfl ?_
    exact hq)
  obtain ⟨cl2, Ar2, -, S2, M2, -, -⟩ := id P0
  have st2 := fun tt => X0.arraylength hx (by rw [e0]; exact Ar2.1) (State.isArrayOf_alike hZ.alike Ar2.2.1) (g := (mkF m 2 #[.val (.ref t), .val (.int i)] [(.ref t), (.int i)])) rfl rfl (hb hby d_jdk_43_method_2_code_2) tt
  rw [len_of S2 M2] at st2
  have k2 : To p.tables e below S0 (s₁.setTop (mkF m 3 #[.val (.ref t), .val (.int i)] [(.int (1 : Int32)), (.int i)])) := fun tt hq => k1 tt (st2 tt hq)
  obtain ⟨_, T3, L3, X3, ⟨rfl, Nq3, eq3⟩, k3a⟩ := callS' X0 hx hZ (y := (⟨"java/lang/String", "checkIndex", "(II)V"⟩ : MethodName)) hown (wq hw 121 rfl) (wq hw 122 rfl) (wq hw 49 rfl) (wq hw 123 rfl) (by decide) (backC (W := 0) (rm_chk l Z a0 hw fm i (1 : Int32) h0 n0 (by omega) S_f hfm O0 hi0 hi1) hZ (wq hw 123 rfl) (wq hw 49 rfl) (by decide) (by decide)) e0 (argsL := [(.int i), (.int (1 : Int32))]) (rest := []) rfl rfl pd_18 rfl (by rw [hml]; rfl) (hb hby d_jdk_43_method_2_code_3) (Nat.le_of_eq rfl) (by decide) (by decide) k2
  have k3 : To p.tables e below S0 (T3.setTop (mkF m 6 #[.val (.ref t), .val (.int i)] [])) := k3a
  have N3 := N0.app Nq3
  have e3 : T3.heap = h0 := eq3
  have k4 : To p.tables e below S0 (T3.setTop (mkF m 8 #[.val (.ref t), .val (.int i)] [(.int i), (.ref t)])) := fun tt hq => k3 tt (by
    refine XS.aloadN X3.here hx rfl (hb hby d_jdk_43_method_2_code_6) rfl rfl ?_
    refine XS.iloadN X3.here hx rfl (hb hby d_jdk_43_method_2_code_7) rfl ?_
    exact hq)
  obtain ⟨cl5, Ar5, -, S5, -, G5, -⟩ := id P0
  have hi5 := inb_of (j := i) S5 (⟨hi0, hi1⟩)
  have st5 := fun tt => X3.baloadBytes hx (j := i) (v := (.int (own_at [c0] i))) (by rw [e3]; exact Ar5.1) (State.isArrayOf_alike hZ.alike Ar5.2.1) Ar5.2.2 hi5 (G5.at hi5 (own_atv [c0] i)) (g := (mkF m 8 #[.val (.ref t), .val (.int i)] [(.int i), (.ref t)])) rfl rfl (hb hby d_jdk_43_method_2_code_8) tt
  have k5 : To p.tables e below S0 (T3.setTop (mkF m 9 #[.val (.ref t), .val (.int i)] [(.int (own_at [c0] i))])) := fun tt hq => k4 tt (st5 tt hq)
  have k6 : To p.tables e below S0 (T3.setTop (mkF m 14 #[.val (.ref t), .val (.int i)] [(.int (((own_at [c0] i) &&& (255 : Int32)).toUInt32.toUInt16.toUInt32.toInt32))])) := fun tt hq => k5 tt (by
    refine XS.sipush X3.here hx rfl (hb hby d_jdk_43_method_2_code_9) ?_
    refine XS.iand X3.here hx rfl (hb hby d_jdk_43_method_2_code_12) rfl ?_
    refine XS.i2c X3.here hx rfl (hb hby d_jdk_43_method_2_code_13) rfl ?_
    exact hq)
  have k7 : To p.tables e below S0 (T3.setTop (mkF m 14 #[.val (.ref t), .val (.int i)] [(.int ((own_at [c0] i) &&& (255 : Int32)))])) := by have hq := k6; rw [i2c_mask] at hq; exact hq
  obtain ⟨v8, hv8⟩ : ∃ z : Int32, z = ((own_at [c0] i) &&& (255 : Int32)) := ⟨_, rfl⟩
  have k8 : To p.tables e below S0 (T3.setTop (mkF m 14 #[.val (.ref t), .val (.int i)] [(.int v8)])) := by rw [hv8]; exact k7
  have mv8 : ¬ v8 < (0 : Int32) ∧ ¬ (255 : Int32) < v8 := by rw [hv8]; exact own_m255 _
  have hE := e3
  refine retInt X3 hx hret hlk (by simp) (congrArg Value.int (own_narc mv8)) (hb hby d_jdk_43_method_2_code_14) k8 ?_ (by decide) (by decide)
  try rw [hE]
  exact ⟨by rw [hv8], N3, rfl⟩
theorem pd_19 : parseMethodDescriptor "([BI)C" = some ⟨[(.array .byte), .int], some .char⟩ := by decide +kernel
set_option maxRecDepth 65536 in
set_option maxHeartbeats 40000000 in
theorem rm_cs1 (l : Launch) (Z : State) (a0 : Array Value) (hw : ∀ d ∈ tables_1, d.before a0 Z = true) (zc : Int32) (fm : Value) (a : Addr) (t : Addr) (kt : ClassId) (c0 : Int32) (i : Int32) (r : Int32) (h0 : Heap) (n0 : Nat) (hn0 : n0 ≤ h0.size) (S_c : Sta Z Z.heap "java/lang/String" "COMPACT_STRINGS" "Z" (.int zc)) (hzc : ¬ zc = (0 : Int32)) (S_f : Sta Z Z.heap "jdk/internal/util/Preconditions" "SIOOBE_FORMATTER" "Ljava/util/function/BiFunction;" fm) (hfm : fm.isRef = true) (O0 : Old Z n0 h0) (P0 : Exa Z h0 a "java/lang/String") (P1 : Fld Z h0 a "java/lang/String" "value" "[B" (.ref t)) (P2 : Fld Z h0 a "java/lang/String" "coder" "B" (.int (0 : Int32))) (P3 : Arv Z h0 t kt .byte (1 : Int32) [(.int c0)] (.int 0)) (hi0 : ¬ i < (0 : Int32)) (hi1 : i < (1 : Int32)) (hr : ((own_at [c0] i) &&& (255 : Int32)) = r) :
    Con l Z (⟨"java/lang/String", "charAt", "(I)C"⟩ : MethodName) jdk_42_method_56_code 2 (some .char) [] ({ frames := 3, cells := 0, slots := 0, locals := 40 } : Room) #[(.ref a), (.int i)] h0 (fun v h L => v = some (.int r) ∧ Fr n0 L ∧ h = h0) := by
  refine enter (Ls := #[.val (.ref a), .val (.int i)]) (plainFor_of_name pn_3) (fun m => by exact entry_eq rfl) ?_
  intro p e s m below meth cd_ s₁ S0 hx hby hml hret hlk hnm hown hZ X0 e0 k0
  have N0 := Fr.nil n0
  have k1 : To p.tables e below S0 (s₁.setTop (mkF m 1 #[.val (.ref a), .val (.int i)] [(.ref a)])) := fun tt hq => k0 tt (by
    refine XS.aloadN X0.here hx rfl (hb hby d_jdk_42_method_56_code_0) rfl rfl ?_
    exact hq)
  obtain ⟨_, T2, L2, X2, ⟨rfl, Nq2, eq2⟩, k2a⟩ := callV' X0 hx hZ (y := (⟨"java/lang/String", "isLatin1", "()Z"⟩ : MethodName)) (z := (⟨"java/lang/String", "isLatin1", "()Z"⟩ : MethodName)) hown (wq hw 112 rfl) (wq hw 113 rfl) (notFace_of_selects (args := #[]) (mvT hZ (wq hw 115 rfl))) (wq hw 115 rfl) (wq hw 114 rfl) (by decide) P0 (backC (W := 0) (rm_latin l Z a0 hw zc a h0 n0 (by omega) S_c hzc O0 P2) hZ (wq hw 116 rfl) (wq hw 49 rfl) (by decide) (by decide)) e0 (argsL := []) (rest := []) rfl rfl pd_17 rfl (by rw [hml]; rfl) (hb hby d_jdk_42_method_56_code_1) (Nat.le_of_eq rfl) (by decide) (by decide) k1
  have k2 : To p.tables e below S0 (T2.setTop (mkF m 4 #[.val (.ref a), .val (.int i)] [(.int (1 : Int32))])) := k2a
  have N2 := N0.app Nq2
  have e2 : T2.heap = h0 := eq2
  have k3 : To p.tables e below S0 (T2.setTop (mkF m 8 #[.val (.ref a), .val (.int i)] [(.ref a)])) := fun tt hq => k2 tt (by
    refine XS.ifNo X2.here hx rfl (hb hby d_jdk_42_method_56_code_4) rfl ((if0 _ _).trans (feq (by decide)).1) ?_
    refine XS.aloadN X2.here hx rfl (hb hby d_jdk_42_method_56_code_7) rfl rfl ?_
    exact hq)
  obtain ⟨T4, X4, e4, st4⟩ := getF X2 hx hZ hown (host := "") (Or.inl (wq hw 83 rfl)) Via.refl e2 P1 (g := (mkF m 8 #[.val (.ref a), .val (.int i)] [(.ref a)])) rfl rfl (hb hby d_jdk_42_method_56_code_8)
  have k4 : To p.tables e below S0 (T4.setTop (mkF m 11 #[.val (.ref a), .val (.int i)] [(.ref t)])) := fun tt hq => k3 tt (st4 tt hq)
  have k5 : To p.tables e below S0 (T4.setTop (mkF m 12 #[.val (.ref a), .val (.int i)] [(.int i), (.ref t)])) := fun tt hq => k4 tt (by
    refine XS.iloadN X4.here hx rfl (hb hby d_jdk_42_method_56_code_11) rfl ?_
    exact hq)
  obtain ⟨_, T6, L6, X6, ⟨rfl, Nq6, eq6⟩, k6a⟩ := callS' X4 hx hZ (y := (⟨"java/lang/StringLatin1", "charAt", "([BI)C"⟩ : MethodName)) hown (wq hw 117 rfl) (wq hw 118 rfl) (wq hw 119 rfl) (wq hw 120 rfl) (by decide) (backC (W := 0) (rm_lcs1 l Z a0 hw fm t kt c0 i h0 n0 (by omega) S_f hfm O0 P3 hi0 hi1) hZ (wq hw 120 rfl) (wq hw 119 rfl) (by decide) (by decide)) e4 (argsL := [(.ref t), (.int i)]) (rest := []) rfl rfl pd_19 rfl (by rw [hml]; rfl) (hb hby d_jdk_42_method_56_code_12) (Nat.le_of_eq rfl) (by decide) (by decide) k5
  have k6 : To p.tables e below S0 (T6.setTop (mkF m 15 #[.val (.ref a), .val (.int i)] [(.int ((own_at [c0] i) &&& (255 : Int32)))])) := k6a
  have N6 := N2.app Nq6
  have e6 : T6.heap = h0 := eq6
  have hE := e6
  refine retInt X6 hx hret hlk (by simp) (own_narrowc _) (hb hby d_jdk_42_method_56_code_15) k6 ?_ (by decide) (by decide)
  try rw [hE]
  exact ⟨by rw [hr], N6, rfl⟩
set_option maxRecDepth 65536 in
set_option maxHeartbeats 40000000 in
theorem rm_c5_2 (l : Launch) (Z : State) (a0 : Array Value) (hw : ∀ d ∈ tables_1, d.before a0 Z = true) (b : Addr) (kb : ClassId) (t : Addr) (kt : ClassId) (f : Int32) (d0 : Int32) (d1 : Int32) (d2 : Int32) (d3 : Int32) (d4 : Int32) (d5 : Int32) (h0 : Heap) (n0 : Nat) (hn0 : n0 ≤ h0.size) (P0 : Arv Z h0 b kb .char (6 : Int32) [(.int d0), (.int d1), (.int d2), (.int d3), (.int d4), (.int d5)] (.int (0 : Int32))) (P1 : Arv Z h0 t kt .byte (2 : Int32) [(.int (0 : Int32)), (.int (0 : Int32))] (.int (0 : Int32))) (ga : n0 ≤ t) (nbt : ¬ (@Eq Nat b t)) (hf : f = (0 : Int32) ∨ f = (1 : Int32) ∨ f = (2 : Int32) ∨ f = (3 : Int32) ∨ f = (4 : Int32)) (hm : ∀ i : Int32, ¬ own_at [d0, d1, d2, d3, d4, d5] i < (0 : Int32) ∧ ¬ (255 : Int32) < own_at [d0, d1, d2, d3, d4, d5] i) :
    Con l Z (⟨"java/lang/StringUTF16", "compress", "([CI[BII)I"⟩ : MethodName) jdk_52_method_21_code 7 (some .int) [] ({ frames := 0, cells := 0, slots := 0, locals := 0 } : Room) #[(.ref b), (.int f), (.ref t), (.int (0 : Int32)), (.int (2 : Int32))] h0 (fun v h L => v = some (.int (2 : Int32)) ∧ Fr n0 L ∧ Keep h0 h [t] ∧ Arv Z h t kt .byte (2 : Int32) [(.int (nar .byte ((own_at [d0, d1, d2, d3, d4, d5] f).toInt8.toInt32))), (.int (nar .byte ((own_at [d0, d1, d2, d3, d4, d5] (f + (1 : Int32))).toInt8.toInt32)))] (.int (0 : Int32))) := by
  refine enter (Ls := #[.val (.ref b), .val (.int f), .val (.ref t), .val (.int (0 : Int32)), .val (.int (2 : Int32)), .unset, .unset]) (plainFor_of_name pn_5) (fun m => by exact entry_eq rfl) ?_
  intro p e s m below meth cd_ s₁ S0 hx hby hml hret hlk hnm hown hZ X0 e0 k0
  have N0 := Fr.nil n0
  have k1 : To p.tables e below S0 (s₁.setTop (mkF m 12 #[.val (.ref b), .val (.int f), .val (.ref t), .val (.int (0 : Int32)), .val (.int (2 : Int32)), .val (.int (0 : Int32)), .unset] [(.int f), (.ref b)])) := fun tt hq => k0 tt (by
    refine XS.iconst X0.here hx rfl (hb hby d_jdk_52_method_21_code_0) ?_
    refine XS.istore X0.here hx rfl (hb hby d_jdk_52_method_21_code_1) rfl (l' := #[.val (.ref b), .val (.int f), .val (.ref t), .val (.int (0 : Int32)), .val (.int (2 : Int32)), .val (.int (0 : Int32)), .unset]) rfl ?_
    refine XS.iload X0.here hx rfl (hb hby d_jdk_52_method_21_code_3) rfl ?_
    refine XS.iload X0.here hx rfl (hb hby d_jdk_52_method_21_code_5) rfl ?_
    refine XS.icmpNo X0.here hx rfl (hb hby d_jdk_52_method_21_code_7) rfl (tlt (by decide)).2.1 ?_
    refine XS.aloadN X0.here hx rfl (hb hby d_jdk_52_method_21_code_10) rfl rfl ?_
    refine XS.iloadN X0.here hx rfl (hb hby d_jdk_52_method_21_code_11) rfl ?_
    exact hq)
  obtain ⟨cl2, Ar2, -, S2, -, G2, -⟩ := id P0
  have hi2 := inb_of (j := f) S2 (by rcases hf with rfl | rfl | rfl | rfl | rfl <;> decide)
  have st2 := fun tt => X0.caload hx (j := f) (v := (.int (own_at [d0, d1, d2, d3, d4, d5] f))) (by rw [e0]; exact Ar2.1) (State.isArrayOf_alike hZ.alike Ar2.2.1) Ar2.2.2 hi2 (G2.at hi2 (own_atv [d0, d1, d2, d3, d4, d5] f)) (g := (mkF m 12 #[.val (.ref b), .val (.int f), .val (.ref t), .val (.int (0 : Int32)), .val (.int (2 : Int32)), .val (.int (0 : Int32)), .unset] [(.int f), (.ref b)])) rfl rfl (hb hby d_jdk_52_method_21_code_12) tt
  have k2 : To p.tables e below S0 (s₁.setTop (mkF m 13 #[.val (.ref b), .val (.int f), .val (.ref t), .val (.int (0 : Int32)), .val (.int (2 : Int32)), .val (.int (0 : Int32)), .unset] [(.int (own_at [d0, d1, d2, d3, d4, d5] f))])) := fun tt hq => k1 tt (st2 tt hq)
  have k3 : To p.tables e below S0 (s₁.setTop (mkF m 31 #[.val (.ref b), .val (.int f), .val (.ref t), .val (.int (0 : Int32)), .val (.int (2 : Int32)), .val (.int (0 : Int32)), .val (.int (own_at [d0, d1, d2, d3, d4, d5] f))] [(.int ((own_at [d0, d1, d2, d3, d4, d5] f).toInt8.toInt32)), (.int (0 : Int32)), (.ref t)])) := fun tt hq => k2 tt (by
    refine XS.istore X0.here hx rfl (hb hby d_jdk_52_method_21_code_13) rfl (l' := #[.val (.ref b), .val (.int f), .val (.ref t), .val (.int (0 : Int32)), .val (.int (2 : Int32)), .val (.int (0 : Int32)), .val (.int (own_at [d0, d1, d2, d3, d4, d5] f))]) rfl ?_
    refine XS.iload X0.here hx rfl (hb hby d_jdk_52_method_21_code_15) rfl ?_
    refine XS.sipush X0.here hx rfl (hb hby d_jdk_52_method_21_code_17) ?_
    refine XS.icmpYes X0.here hx rfl (pc0 := 20) (pc' := 26) rfl (hb hby d_jdk_52_method_21_code_20) rfl (flt (hm f).2).2.2.2 (by decide) (by decide) ?_
    refine XS.aloadN X0.here hx rfl (hb hby d_jdk_52_method_21_code_26) rfl rfl ?_
    refine XS.iloadN X0.here hx rfl (hb hby d_jdk_52_method_21_code_27) rfl ?_
    refine XS.iload X0.here hx rfl (hb hby d_jdk_52_method_21_code_28) rfl ?_
    refine XS.i2b X0.here hx rfl (hb hby d_jdk_52_method_21_code_30) rfl ?_
    exact hq)
  obtain ⟨cl4, Ar4, q4, S4, M4, G4, J4⟩ := id P1
  obtain ⟨T4, h4, X4, e4, W4, st4⟩ := stB X0 hx hZ e0 Ar4 (j := (0 : Int32)) (inb_of S4 ⟨by decide, by decide⟩) (g := (mkF m 31 #[.val (.ref b), .val (.int f), .val (.ref t), .val (.int (0 : Int32)), .val (.int (2 : Int32)), .val (.int (0 : Int32)), .val (.int (own_at [d0, d1, d2, d3, d4, d5] f))] [(.int ((own_at [d0, d1, d2, d3, d4, d5] f).toInt8.toInt32)), (.int (0 : Int32)), (.ref t)])) rfl rfl (hb hby d_jdk_52_method_21_code_31)
  have k4 : To p.tables e below S0 (T4.setTop (mkF m 32 #[.val (.ref b), .val (.int f), .val (.ref t), .val (.int (0 : Int32)), .val (.int (2 : Int32)), .val (.int (0 : Int32)), .val (.int (own_at [d0, d1, d2, d3, d4, d5] f))] [])) := fun tt hq => k3 tt (st4 tt hq)
  have z4 : h4.size = h0.size := W4.size
  have V4 : Arv Z h4 t kt .byte (2 : Int32) [(.int (nar .byte ((own_at [d0, d1, d2, d3, d4, d5] f).toInt8.toInt32))), (.int (0 : Int32))] (.int (0 : Int32)) := Arv.set Ar4 q4 S4 M4 G4 J4 (fits_nar_byte _) W4 0 rfl (Nat.le_of_ble_eq_true rfl)
  have N4 := Fr.snoc X4 N0 (by omega : n0 ≤ t)
  have f5 : Arv Z h4 b kb .char (6 : Int32) [(.int d0), (.int d1), (.int d2), (.int d3), (.int d4), (.int d5)] (.int (0 : Int32)) := (P0.other W4 (adr_ne (by omega)))
  have k6 : To p.tables e below S0 (T4.setTop (mkF m 12 #[.val (.ref b), .val (.int (f + (1 : Int32))), .val (.ref t), .val (.int (1 : Int32)), .val (.int (2 : Int32)), .val (.int (1 : Int32)), .val (.int (own_at [d0, d1, d2, d3, d4, d5] f))] [(.int (f + (1 : Int32))), (.ref b)])) := fun tt hq => k4 tt (by
    refine XS.iinc X4.here hx rfl (hb hby d_jdk_52_method_21_code_32) rfl (l' := #[.val (.ref b), .val (.int (f + (1 : Int32))), .val (.ref t), .val (.int (0 : Int32)), .val (.int (2 : Int32)), .val (.int (0 : Int32)), .val (.int (own_at [d0, d1, d2, d3, d4, d5] f))]) rfl ?_
    refine XS.iinc X4.here hx rfl (hb hby d_jdk_52_method_21_code_35) rfl (l' := #[.val (.ref b), .val (.int (f + (1 : Int32))), .val (.ref t), .val (.int (1 : Int32)), .val (.int (2 : Int32)), .val (.int (0 : Int32)), .val (.int (own_at [d0, d1, d2, d3, d4, d5] f))]) rfl ?_
    refine XS.iinc X4.here hx rfl (hb hby d_jdk_52_method_21_code_38) rfl (l' := #[.val (.ref b), .val (.int (f + (1 : Int32))), .val (.ref t), .val (.int (1 : Int32)), .val (.int (2 : Int32)), .val (.int (1 : Int32)), .val (.int (own_at [d0, d1, d2, d3, d4, d5] f))]) rfl ?_
    refine XS.goto X4.here hx rfl (pc0 := 41) (pc' := 3) rfl (hb hby d_jdk_52_method_21_code_41) (by decide) (by decide) ?_
    refine XS.iload X4.here hx rfl (hb hby d_jdk_52_method_21_code_3) rfl ?_
    refine XS.iload X4.here hx rfl (hb hby d_jdk_52_method_21_code_5) rfl ?_
    refine XS.icmpNo X4.here hx rfl (hb hby d_jdk_52_method_21_code_7) rfl (tlt (by decide)).2.1 ?_
    refine XS.aloadN X4.here hx rfl (hb hby d_jdk_52_method_21_code_10) rfl rfl ?_
    refine XS.iloadN X4.here hx rfl (hb hby d_jdk_52_method_21_code_11) rfl ?_
    exact hq)
  obtain ⟨cl7, Ar7, -, S7, -, G7, -⟩ := id f5
  have hi7 := inb_of (j := (f + (1 : Int32))) S7 (by rcases hf with rfl | rfl | rfl | rfl | rfl <;> decide)
  have st7 := fun tt => X4.caload hx (j := (f + (1 : Int32))) (v := (.int (own_at [d0, d1, d2, d3, d4, d5] (f + (1 : Int32))))) (by rw [e4]; exact Ar7.1) (State.isArrayOf_alike hZ.alike Ar7.2.1) Ar7.2.2 hi7 (G7.at hi7 (own_atv [d0, d1, d2, d3, d4, d5] (f + (1 : Int32)))) (g := (mkF m 12 #[.val (.ref b), .val (.int (f + (1 : Int32))), .val (.ref t), .val (.int (1 : Int32)), .val (.int (2 : Int32)), .val (.int (1 : Int32)), .val (.int (own_at [d0, d1, d2, d3, d4, d5] f))] [(.int (f + (1 : Int32))), (.ref b)])) rfl rfl (hb hby d_jdk_52_method_21_code_12) tt
  have k7 : To p.tables e below S0 (T4.setTop (mkF m 13 #[.val (.ref b), .val (.int (f + (1 : Int32))), .val (.ref t), .val (.int (1 : Int32)), .val (.int (2 : Int32)), .val (.int (1 : Int32)), .val (.int (own_at [d0, d1, d2, d3, d4, d5] f))] [(.int (own_at [d0, d1, d2, d3, d4, d5] (f + (1 : Int32))))])) := fun tt hq => k6 tt (st7 tt hq)
  have k8 : To p.tables e below S0 (T4.setTop (mkF m 31 #[.val (.ref b), .val (.int (f + (1 : Int32))), .val (.ref t), .val (.int (1 : Int32)), .val (.int (2 : Int32)), .val (.int (1 : Int32)), .val (.int (own_at [d0, d1, d2, d3, d4, d5] (f + (1 : Int32))))] [(.int ((own_at [d0, d1, d2, d3, d4, d5] (f + (1 : Int32))).toInt8.toInt32)), (.int (1 : Int32)), (.ref t)])) := fun tt hq => k7 tt (by
    refine XS.istore X4.here hx rfl (hb hby d_jdk_52_method_21_code_13) rfl (l' := #[.val (.ref b), .val (.int (f + (1 : Int32))), .val (.ref t), .val (.int (1 : Int32)), .val (.int (2 : Int32)), .val (.int (1 : Int32)), .val (.int (own_at [d0, d1, d2, d3, d4, d5] (f + (1 : Int32))))]) rfl ?_
    refine XS.iload X4.here hx rfl (hb hby d_jdk_52_method_21_code_15) rfl ?_
    refine XS.sipush X4.here hx rfl (hb hby d_jdk_52_method_21_code_17) ?_
    refine XS.icmpYes X4.here hx rfl (pc0 := 20) (pc' := 26) rfl (hb hby d_jdk_52_method_21_code_20) rfl (flt (hm (f + (1 : Int32))).2).2.2.2 (by decide) (by decide) ?_
    refine XS.aloadN X4.here hx rfl (hb hby d_jdk_52_method_21_code_26) rfl rfl ?_
    refine XS.iloadN X4.here hx rfl (hb hby d_jdk_52_method_21_code_27) rfl ?_
    refine XS.iload X4.here hx rfl (hb hby d_jdk_52_method_21_code_28) rfl ?_
    refine XS.i2b X4.here hx rfl (hb hby d_jdk_52_method_21_code_30) rfl ?_
    exact hq)
  obtain ⟨cl9, Ar9, q9, S9, M9, G9, J9⟩ := id V4
  obtain ⟨T9, h9, X9, e9, W9, st9⟩ := stB X4 hx hZ e4 Ar9 (j := (1 : Int32)) (inb_of S9 ⟨by decide, by decide⟩) (g := (mkF m 31 #[.val (.ref b), .val (.int (f + (1 : Int32))), .val (.ref t), .val (.int (1 : Int32)), .val (.int (2 : Int32)), .val (.int (1 : Int32)), .val (.int (own_at [d0, d1, d2, d3, d4, d5] (f + (1 : Int32))))] [(.int ((own_at [d0, d1, d2, d3, d4, d5] (f + (1 : Int32))).toInt8.toInt32)), (.int (1 : Int32)), (.ref t)])) rfl rfl (hb hby d_jdk_52_method_21_code_31)
  have k9 : To p.tables e below S0 (T9.setTop (mkF m 32 #[.val (.ref b), .val (.int (f + (1 : Int32))), .val (.ref t), .val (.int (1 : Int32)), .val (.int (2 : Int32)), .val (.int (1 : Int32)), .val (.int (own_at [d0, d1, d2, d3, d4, d5] (f + (1 : Int32))))] [])) := fun tt hq => k8 tt (st9 tt hq)
  have z9 : h9.size = h4.size := W9.size
  have V9 : Arv Z h9 t kt .byte (2 : Int32) [(.int (nar .byte ((own_at [d0, d1, d2, d3, d4, d5] f).toInt8.toInt32))), (.int (nar .byte ((own_at [d0, d1, d2, d3, d4, d5] (f + (1 : Int32))).toInt8.toInt32)))] (.int (0 : Int32)) := Arv.set Ar9 q9 S9 M9 G9 J9 (fits_nar_byte _) W9 1 rfl (Nat.le_of_ble_eq_true rfl)
  have N9 := Fr.snoc X9 N4 (by omega : n0 ≤ t)
  have k10 : To p.tables e below S0 (T9.setTop (mkF m 46 #[.val (.ref b), .val (.int ((f + (1 : Int32)) + (1 : Int32))), .val (.ref t), .val (.int (2 : Int32)), .val (.int (2 : Int32)), .val (.int (2 : Int32)), .val (.int (own_at [d0, d1, d2, d3, d4, d5] (f + (1 : Int32))))] [(.int (2 : Int32))])) := fun tt hq => k9 tt (by
    refine XS.iinc X9.here hx rfl (hb hby d_jdk_52_method_21_code_32) rfl (l' := #[.val (.ref b), .val (.int ((f + (1 : Int32)) + (1 : Int32))), .val (.ref t), .val (.int (1 : Int32)), .val (.int (2 : Int32)), .val (.int (1 : Int32)), .val (.int (own_at [d0, d1, d2, d3, d4, d5] (f + (1 : Int32))))]) rfl ?_
    refine XS.iinc X9.here hx rfl (hb hby d_jdk_52_method_21_code_35) rfl (l' := #[.val (.ref b), .val (.int ((f + (1 : Int32)) + (1 : Int32))), .val (.ref t), .val (.int (2 : Int32)), .val (.int (2 : Int32)), .val (.int (1 : Int32)), .val (.int (own_at [d0, d1, d2, d3, d4, d5] (f + (1 : Int32))))]) rfl ?_
    refine XS.iinc X9.here hx rfl (hb hby d_jdk_52_method_21_code_38) rfl (l' := #[.val (.ref b), .val (.int ((f + (1 : Int32)) + (1 : Int32))), .val (.ref t), .val (.int (2 : Int32)), .val (.int (2 : Int32)), .val (.int (2 : Int32)), .val (.int (own_at [d0, d1, d2, d3, d4, d5] (f + (1 : Int32))))]) rfl ?_
    refine XS.goto X9.here hx rfl (pc0 := 41) (pc' := 3) rfl (hb hby d_jdk_52_method_21_code_41) (by decide) (by decide) ?_
    refine XS.iload X9.here hx rfl (hb hby d_jdk_52_method_21_code_3) rfl ?_
    refine XS.iload X9.here hx rfl (hb hby d_jdk_52_method_21_code_5) rfl ?_
    refine XS.icmpYes X9.here hx rfl (pc0 := 7) (pc' := 44) rfl (hb hby d_jdk_52_method_21_code_7) rfl (flt (by decide)).2.1 (by decide) (by decide) ?_
    refine XS.iload X9.here hx rfl (hb hby d_jdk_52_method_21_code_44) rfl ?_
    exact hq)
  have hE := e9
  refine retInt X9 hx hret hlk (by simp) rfl (hb hby d_jdk_52_method_21_code_46) k10 ?_ (by decide) (by decide)
  try rw [hE]
  exact ⟨rfl, N9, (((Keep.refl h0 [t]).wr W4 (Or.inl (by simp))).wr W9 (Or.inl (by simp))), V9⟩
set_option maxRecDepth 65536 in
set_option maxHeartbeats 40000000 in
theorem rm_c3_2 (l : Launch) (Z : State) (a0 : Array Value) (hw : ∀ d ∈ tables_1, d.before a0 Z = true) (b : Addr) (kb : ClassId) (f : Int32) (d0 : Int32) (d1 : Int32) (d2 : Int32) (d3 : Int32) (d4 : Int32) (d5 : Int32) (h0 : Heap) (n0 : Nat) (hn0 : n0 ≤ h0.size) (P0 : Arv Z h0 b kb .char (6 : Int32) [(.int d0), (.int d1), (.int d2), (.int d3), (.int d4), (.int d5)] (.int (0 : Int32))) (yb : @LT.lt Nat instLTNat b h0.size) (hf : f = (0 : Int32) ∨ f = (1 : Int32) ∨ f = (2 : Int32) ∨ f = (3 : Int32) ∨ f = (4 : Int32)) (hm : ∀ i : Int32, ¬ own_at [d0, d1, d2, d3, d4, d5] i < (0 : Int32) ∧ ¬ (255 : Int32) < own_at [d0, d1, d2, d3, d4, d5] i) :
    Con l Z (⟨"java/lang/StringUTF16", "compress", "([CII)[B"⟩ : MethodName) jdk_52_method_16_code 6 (some (.array .byte)) [] ({ frames := 1, cells := 1, slots := 2, locals := 18 } : Room) #[(.ref b), (.int f), (.int (2 : Int32))] h0 (fun v h L => ∃ (t : Addr) (k : ClassId), v = some (.ref t) ∧ Fr n0 L ∧ h0.size ≤ t ∧ Keep h0 h [] ∧ Arv Z h t k .byte (2 : Int32) [(.int (nar .byte ((own_at [d0, d1, d2, d3, d4, d5] f).toInt8.toInt32))), (.int (nar .byte ((own_at [d0, d1, d2, d3, d4, d5] (f + (1 : Int32))).toInt8.toInt32)))] (.int (0 : Int32))) := by
  refine enter (Ls := #[.val (.ref b), .val (.int f), .val (.int (2 : Int32)), .unset, .unset, .unset]) (plainFor_of_name pn_5) (fun m => by exact entry_eq rfl) ?_
  intro p e s m below meth cd_ s₁ S0 hx hby hml hret hlk hnm hown hZ X0 e0 k0
  have N0 := Fr.nil n0
  have k1 : To p.tables e below S0 (s₁.setTop (mkF m 1 #[.val (.ref b), .val (.int f), .val (.int (2 : Int32)), .unset, .unset, .unset] [(.int (2 : Int32))])) := fun tt hq => k0 tt (by
    refine XS.iloadN X0.here hx rfl (hb hby d_jdk_52_method_16_code_0) rfl ?_
    exact hq)
  obtain ⟨T2, h2, c2, X2, e2, E2, A2, st2⟩ := newP X0 hx hZ (wq hw 74 rfl) e0 (g := (mkF m 1 #[.val (.ref b), .val (.int f), .val (.int (2 : Int32)), .unset, .unset, .unset] [(.int (2 : Int32))])) rfl (hb hby d_jdk_52_method_16_code_1) rfl (by decide) (cap := 2) (by decide) (by decide) (by decide) (by decide)
  obtain ⟨b2, g2⟩ : ∃ z, z = h0.size := ⟨_, rfl⟩
  rw [← g2] at A2 st2
  have k2 : To p.tables e below S0 (T2.setTop (mkF m 3 #[.val (.ref b), .val (.int f), .val (.int (2 : Int32)), .unset, .unset, .unset] [(.ref b2)])) := fun tt hq => k1 tt (st2 tt hq)
  have z2 : h0.size ≤ h2.size := E2.1
  have V2 : Arv Z h2 b2 c2 .byte (2 : Int32) [(.int (0 : Int32)), (.int (0 : Int32))] (.int (0 : Int32)) := (Arv.new A2 (by decide)).pad (pad_rep [] (.int (0 : Int32)) 2)
  have y2 : @LT.lt Nat instLTNat b2 h2.size := V2.lt
  have k3 : To p.tables e below S0 (T2.setTop (mkF m 9 #[.val (.ref b), .val (.int f), .val (.int (2 : Int32)), .val (.ref b2), .unset, .unset] [(.int (2 : Int32)), (.int (0 : Int32)), (.ref b2), (.int f), (.ref b)])) := fun tt hq => k2 tt (by
    refine XS.astoreN X2.here hx rfl (hb hby d_jdk_52_method_16_code_3) rfl rfl (l' := #[.val (.ref b), .val (.int f), .val (.int (2 : Int32)), .val (.ref b2), .unset, .unset]) rfl ?_
    refine XS.aloadN X2.here hx rfl (hb hby d_jdk_52_method_16_code_4) rfl rfl ?_
    refine XS.iloadN X2.here hx rfl (hb hby d_jdk_52_method_16_code_5) rfl ?_
    refine XS.aloadN X2.here hx rfl (hb hby d_jdk_52_method_16_code_6) rfl rfl ?_
    refine XS.iconst X2.here hx rfl (hb hby d_jdk_52_method_16_code_7) ?_
    refine XS.iloadN X2.here hx rfl (hb hby d_jdk_52_method_16_code_8) rfl ?_
    exact hq)
  have f4 : Arv Z h2 b kb .char (6 : Int32) [(.int d0), (.int d1), (.int d2), (.int d3), (.int d4), (.int d5)] (.int (0 : Int32)) := (P0.ext E2)
  obtain ⟨_, T5, L5, X5, ⟨rfl, Nq5, Kq5, V5⟩, k5a⟩ := callS' X2 hx hZ (y := (⟨"java/lang/StringUTF16", "compress", "([CI[BII)I"⟩ : MethodName)) hown (wq hw 75 rfl) (wq hw 76 rfl) (wq hw 72 rfl) (wq hw 77 rfl) (by decide) (backC (W := 0) (rm_c5_2 l Z a0 hw b kb b2 c2 f d0 d1 d2 d3 d4 d5 h2 n0 (by omega) f4 V2 (by omega) (by omega) hf hm) hZ (wq hw 77 rfl) (wq hw 72 rfl) (by decide) (by decide)) e2 (argsL := [(.ref b), (.int f), (.ref b2), (.int (0 : Int32)), (.int (2 : Int32))]) (rest := []) rfl rfl pd_13 rfl (by rw [hml]; rfl) (hb hby d_jdk_52_method_16_code_9) (Nat.le_of_eq rfl) (by decide) (by decide) k3
  have k5 : To p.tables e below S0 (T5.setTop (mkF m 12 #[.val (.ref b), .val (.int f), .val (.int (2 : Int32)), .val (.ref b2), .unset, .unset] [(.int (2 : Int32))])) := k5a
  have N5 := N0.app Nq5
  obtain ⟨h5, e5⟩ : ∃ z, T5.heap = z := ⟨_, rfl⟩
  rw [e5] at Kq5 V5
  have z5 : h2.size ≤ h5.size := Kq5.1
  have k6 : To p.tables e below S0 (T5.setTop (mkF m 58 #[.val (.ref b), .val (.int f), .val (.int (2 : Int32)), .val (.ref b2), .val (.int (2 : Int32)), .unset] [(.ref b2)])) := fun tt hq => k5 tt (by
    refine XS.istore X5.here hx rfl (hb hby d_jdk_52_method_16_code_12) rfl (l' := #[.val (.ref b), .val (.int f), .val (.int (2 : Int32)), .val (.ref b2), .val (.int (2 : Int32)), .unset]) rfl ?_
    refine XS.iload X5.here hx rfl (hb hby d_jdk_52_method_16_code_14) rfl ?_
    refine XS.iloadN X5.here hx rfl (hb hby d_jdk_52_method_16_code_16) rfl ?_
    refine XS.icmpYes X5.here hx rfl (pc0 := 17) (pc' := 57) rfl (hb hby d_jdk_52_method_16_code_17) rfl (teq (by decide)).1 (by decide) (by decide) ?_
    refine XS.aloadN X5.here hx rfl (hb hby d_jdk_52_method_16_code_57) rfl rfl ?_
    exact hq)
  have hE := e5
  refine retRef X5 hx hret hlk rfl rfl (hb hby d_jdk_52_method_16_code_58) k6 ?_ (by decide) (by decide)
  try rw [hE]
  exact ⟨b2, _, rfl, N5, (by omega), (((Keep.refl h0 []).ext E2).trans Kq5 (allS (Or.inr (by omega)) all0)), V5⟩
set_option maxRecDepth 65536 in
set_option maxHeartbeats 40000000 in
theorem rm_cl_2 (l : Launch) (Z : State) (a0 : Array Value) (hw : ∀ d ∈ tables_1, d.before a0 Z = true) (t : Addr) (kt : ClassId) (d0 : Int32) (d1 : Int32) (h0 : Heap) (n0 : Nat) (hn0 : n0 ≤ h0.size) (P0 : Arv Z h0 t kt .byte (2 : Int32) [(.int d0), (.int d1)] (.int (0 : Int32))) :
    Con l Z (⟨"java/lang/StringUTF16", "coderFromArrayLen", "([BI)B"⟩ : MethodName) jdk_52_method_15_code 2 (some .byte) [] ({ frames := 0, cells := 0, slots := 0, locals := 0 } : Room) #[(.ref t), (.int (2 : Int32))] h0 (fun v h L => v = some (.int (0 : Int32)) ∧ Fr n0 L ∧ h = h0) := by
  refine enter (Ls := #[.val (.ref t), .val (.int (2 : Int32))]) (plainFor_of_name pn_5) (fun m => by exact entry_eq rfl) ?_
  intro p e s m below meth cd_ s₁ S0 hx hby hml hret hlk hnm hown hZ X0 e0 k0
  have N0 := Fr.nil n0
  have k1 : To p.tables e below S0 (s₁.setTop (mkF m 2 #[.val (.ref t), .val (.int (2 : Int32))] [(.ref t), (.int (2 : Int32))])) := fun tt hq => k0 tt (by
    refine XS.iloadN X0.here hx rfl (hb hby d_jdk_52_method_15_code_0) rfl ?_
    refine XS.aloadN X0.here hx rfl (hb hby d_jdk_52_method_15_code_1) rfl rfl ?_
    exact hq)
  obtain ⟨cl2, Ar2, -, S2, M2, -, -⟩ := id P0
  have st2 := fun tt => X0.arraylength hx (by rw [e0]; exact Ar2.1) (State.isArrayOf_alike hZ.alike Ar2.2.1) (g := (mkF m 2 #[.val (.ref t), .val (.int (2 : Int32))] [(.ref t), (.int (2 : Int32))])) rfl rfl (hb hby d_jdk_52_method_15_code_2) tt
  rw [len_of S2 M2] at st2
  have k2 : To p.tables e below S0 (s₁.setTop (mkF m 3 #[.val (.ref t), .val (.int (2 : Int32))] [(.int (2 : Int32)), (.int (2 : Int32))])) := fun tt hq => k1 tt (st2 tt hq)
  have k3 : To p.tables e below S0 (s₁.setTop (mkF m 8 #[.val (.ref t), .val (.int (2 : Int32))] [(.int (0 : Int32))])) := fun tt hq => k2 tt (by
    refine XS.isub X0.here hx rfl (hb hby d_jdk_52_method_15_code_3) rfl ?_
    refine XS.bipush X0.here hx rfl (hb hby d_jdk_52_method_15_code_4) ?_
    refine XS.iushr X0.here hx rfl (hb hby d_jdk_52_method_15_code_6) rfl ?_
    refine XS.i2b X0.here hx rfl (hb hby d_jdk_52_method_15_code_7) rfl ?_
    exact hq)
  have hE := e0
  refine retInt X0 hx hret hlk (by simp) rfl (hb hby d_jdk_52_method_15_code_8) k3 ?_ (by decide) (by decide)
  try rw [hE]
  exact ⟨rfl, N0, rfl⟩
set_option maxRecDepth 65536 in
set_option maxHeartbeats 40000000 in
theorem rm_n4_2 (l : Launch) (Z : State) (a0 : Array Value) (hw : ∀ d ∈ tables_1, d.before a0 Z = true) (zc : Int32) (a : Addr) (b : Addr) (kb : ClassId) (u1 : Value) (u2 : Value) (f : Int32) (d0 : Int32) (d1 : Int32) (d2 : Int32) (d3 : Int32) (d4 : Int32) (d5 : Int32) (h0 : Heap) (n0 : Nat) (hn0 : n0 ≤ h0.size) (S_c : Sta Z Z.heap "java/lang/String" "COMPACT_STRINGS" "Z" (.int zc)) (hzc : ¬ zc = (0 : Int32)) (O0 : Old Z n0 h0) (E0 : Exa Z h0 a "java/lang/String") (F1 : Fld Z h0 a "java/lang/String" "value" "[B" u1) (F2 : Fld Z h0 a "java/lang/String" "coder" "B" u2) (P0 : Arv Z h0 b kb .char (6 : Int32) [(.int d0), (.int d1), (.int d2), (.int d3), (.int d4), (.int d5)] (.int (0 : Int32))) (ga : n0 ≤ a) (ya : @LT.lt Nat instLTNat a h0.size) (yb : @LT.lt Nat instLTNat b h0.size) (nab : ¬ (@Eq Nat b a)) (hf : f = (0 : Int32) ∨ f = (1 : Int32) ∨ f = (2 : Int32) ∨ f = (3 : Int32) ∨ f = (4 : Int32)) (hm : ∀ i : Int32, ¬ own_at [d0, d1, d2, d3, d4, d5] i < (0 : Int32) ∧ ¬ (255 : Int32) < own_at [d0, d1, d2, d3, d4, d5] i) :
    Con l Z (⟨"java/lang/String", "<init>", "([CIILjava/lang/Void;)V"⟩ : MethodName) jdk_42_method_149_code 6 none [] ({ frames := 2, cells := 1, slots := 2, locals := 35 } : Room) #[(.ref a), (.ref b), (.int f), (.int (2 : Int32)), .null] h0 (fun v h L => v = none ∧ Fr n0 L ∧ Keep h0 h [a] ∧ ∃ (t : Addr) (k : ClassId), (@LT.lt Nat instLTNat t h.size) ∧ Exa Z h a "java/lang/String" ∧ Fld Z h a "java/lang/String" "value" "[B" (.ref t) ∧ Fld Z h a "java/lang/String" "coder" "B" (.int (0 : Int32)) ∧ Arv Z h t k .byte (2 : Int32) [(.int (nar .byte ((own_at [d0, d1, d2, d3, d4, d5] f).toInt8.toInt32))), (.int (nar .byte ((own_at [d0, d1, d2, d3, d4, d5] (f + (1 : Int32))).toInt8.toInt32)))] (.int 0)) := by
  refine enter (Ls := #[.val (.ref a), .val (.ref b), .val (.int f), .val (.int (2 : Int32)), .val .null, .unset]) (plainFor_of_name pn_3) (fun m => by exact entry_eq rfl) ?_
  intro p e s m below meth cd_ s₁ S0 hx hby hml hret hlk hnm hown hZ X0 e0 k0
  have N0 := Fr.nil n0
  have k1 : To p.tables e below S0 (s₁.setTop (mkF m 1 #[.val (.ref a), .val (.ref b), .val (.int f), .val (.int (2 : Int32)), .val .null, .unset] [(.ref a)])) := fun tt hq => k0 tt (by
    refine XS.aloadN X0.here hx rfl (hb hby d_jdk_42_method_149_code_0) rfl rfl ?_
    exact hq)
  obtain ⟨T2, X2, e2, st2⟩ := initO X0 hx hZ hown (wq hw 68 rfl) (wq hw 14 rfl) (wq hw 15 rfl) e0 (g := (mkF m 1 #[.val (.ref a), .val (.ref b), .val (.int f), .val (.int (2 : Int32)), .val .null, .unset] [(.ref a)])) rfl (by rw [hml]; rfl) rfl (hb hby d_jdk_42_method_149_code_1) (by decide) (W := 0) (by show 2 * 0 + _ ≤ _; exact Nat.le_of_eq rfl) (by decide)
  have k2 : To p.tables e below S0 (T2.setTop (mkF m 4 #[.val (.ref a), .val (.ref b), .val (.int f), .val (.int (2 : Int32)), .val .null, .unset] [])) := fun tt hq => k1 tt (st2 tt hq)
  have k3 : To p.tables e below S0 (T2.setTop (mkF m 27 #[.val (.ref a), .val (.ref b), .val (.int f), .val (.int (2 : Int32)), .val .null, .unset] [])) := fun tt hq => k2 tt (by
    refine XS.iloadN X2.here hx rfl (hb hby d_jdk_42_method_149_code_4) rfl ?_
    refine XS.ifYes X2.here hx rfl (pc0 := 5) (pc' := 27) rfl (hb hby d_jdk_42_method_149_code_5) rfl ((if0 _ _).trans (feq (by decide)).2) (by decide) (by decide) ?_
    exact hq)
  obtain ⟨T4, X4, e4, st4⟩ := getS2 X2 hx hZ hown (host := "") (Or.inl (wq hw 69 rfl)) Via.refl e2 (staOld S_c O0) (g := (mkF m 27 #[.val (.ref a), .val (.ref b), .val (.int f), .val (.int (2 : Int32)), .val .null, .unset] [])) rfl (hb hby d_jdk_42_method_149_code_27)
  have k4 : To p.tables e below S0 (T4.setTop (mkF m 30 #[.val (.ref a), .val (.ref b), .val (.int f), .val (.int (2 : Int32)), .val .null, .unset] [(.int zc)])) := fun tt hq => k3 tt (st4 tt hq)
  have k5 : To p.tables e below S0 (T4.setTop (mkF m 36 #[.val (.ref a), .val (.ref b), .val (.int f), .val (.int (2 : Int32)), .val .null, .unset] [(.int (2 : Int32)), (.int f), (.ref b)])) := fun tt hq => k4 tt (by
    refine XS.ifNo X4.here hx rfl (hb hby d_jdk_42_method_149_code_30) rfl ((if0 _ _).trans (feq hzc).1) ?_
    refine XS.aloadN X4.here hx rfl (hb hby d_jdk_42_method_149_code_33) rfl rfl ?_
    refine XS.iloadN X4.here hx rfl (hb hby d_jdk_42_method_149_code_34) rfl ?_
    refine XS.iloadN X4.here hx rfl (hb hby d_jdk_42_method_149_code_35) rfl ?_
    exact hq)
  obtain ⟨_, T6, L6, X6, ⟨t6, kt6, rfl, Nq6, gt6, Kq6, V6⟩, k6a⟩ := callS' X4 hx hZ (y := (⟨"java/lang/StringUTF16", "compress", "([CII)[B"⟩ : MethodName)) hown (wq hw 70 rfl) (wq hw 71 rfl) (wq hw 72 rfl) (wq hw 73 rfl) (by decide) (backC (W := 0) (rm_c3_2 l Z a0 hw b kb f d0 d1 d2 d3 d4 d5 h0 n0 (by omega) P0 (by omega) hf hm) hZ (wq hw 73 rfl) (wq hw 72 rfl) (by decide) (by decide)) e4 (argsL := [(.ref b), (.int f), (.int (2 : Int32))]) (rest := []) rfl rfl pd_14 rfl (by rw [hml]; rfl) (hb hby d_jdk_42_method_149_code_36) (Nat.le_of_eq rfl) (by decide) (by decide) k5
  have k6 : To p.tables e below S0 (T6.setTop (mkF m 39 #[.val (.ref a), .val (.ref b), .val (.int f), .val (.int (2 : Int32)), .val .null, .unset] [(.ref t6)])) := k6a
  have N6 := N0.app Nq6
  obtain ⟨h6, e6⟩ : ∃ z, T6.heap = z := ⟨_, rfl⟩
  rw [e6] at Kq6 V6
  have z6 : h0.size ≤ h6.size := Kq6.1
  have y6 : @LT.lt Nat instLTNat t6 h6.size := V6.lt
  have k7 : To p.tables e below S0 (T6.setTop (mkF m 45 #[.val (.ref a), .val (.ref b), .val (.int f), .val (.int (2 : Int32)), .val .null, .val (.ref t6)] [(.int (2 : Int32)), (.ref t6), (.ref a)])) := fun tt hq => k6 tt (by
    refine XS.astore X6.here hx rfl (hb hby d_jdk_42_method_149_code_39) rfl rfl (l' := #[.val (.ref a), .val (.ref b), .val (.int f), .val (.int (2 : Int32)), .val .null, .val (.ref t6)]) rfl ?_
    refine XS.aloadN X6.here hx rfl (hb hby d_jdk_42_method_149_code_41) rfl rfl ?_
    refine XS.aload X6.here hx rfl (hb hby d_jdk_42_method_149_code_42) rfl rfl ?_
    refine XS.iloadN X6.here hx rfl (hb hby d_jdk_42_method_149_code_44) rfl ?_
    exact hq)
  obtain ⟨_, T8, L8, X8, ⟨rfl, Nq8, eq8⟩, k8a⟩ := callS' X6 hx hZ (y := (⟨"java/lang/StringUTF16", "coderFromArrayLen", "([BI)B"⟩ : MethodName)) hown (wq hw 78 rfl) (wq hw 79 rfl) (wq hw 72 rfl) (wq hw 80 rfl) (by decide) (backC (W := 1) (rm_cl_2 l Z a0 hw t6 kt6 (nar .byte ((own_at [d0, d1, d2, d3, d4, d5] f).toInt8.toInt32)) (nar .byte ((own_at [d0, d1, d2, d3, d4, d5] (f + (1 : Int32))).toInt8.toInt32)) h6 n0 (by omega) V6) hZ (wq hw 80 rfl) (wq hw 72 rfl) (by decide) (by decide)) e6 (argsL := [(.ref t6), (.int (2 : Int32))]) (rest := [(.ref a)]) rfl rfl pd_15 rfl (by rw [hml]; rfl) (hb hby d_jdk_42_method_149_code_45) (Nat.le_of_eq rfl) (by decide) (by decide) k7
  have k8 : To p.tables e below S0 (T8.setTop (mkF m 48 #[.val (.ref a), .val (.ref b), .val (.int f), .val (.int (2 : Int32)), .val .null, .val (.ref t6)] [(.int (0 : Int32)), (.ref a)])) := k8a
  have N8 := N6.app Nq8
  have e8 : T8.heap = h6 := eq8
  have f9 : Exa Z h6 a "java/lang/String" := (E0.keep Kq6)
  have f10 : Fld Z h6 a "java/lang/String" "coder" "B" u2 := (F2.keep Kq6 nin0)
  obtain ⟨T11, h11, X11, e11, W11, st11⟩ := putF X8 hx hZ hown (host := "") (Or.inl (wq hw 81 rfl)) Via.refl e8 f10 f9 (Or.inr ⟨(wq hw 82 rfl), rfl, hnm⟩) (wq hw 48 rfl) (ty := .byte) (by decide) rfl rfl (g := (mkF m 48 #[.val (.ref a), .val (.ref b), .val (.int f), .val (.int (2 : Int32)), .val .null, .val (.ref t6)] [(.int (0 : Int32)), (.ref a)])) rfl rfl (hb hby d_jdk_42_method_149_code_48)
  have k11 : To p.tables e below S0 (T11.setTop (mkF m 51 #[.val (.ref a), .val (.ref b), .val (.int f), .val (.int (2 : Int32)), .val .null, .val (.ref t6)] [])) := fun tt hq => k8 tt (st11 tt hq)
  have z11 : h11.size = h6.size := W11.size
  have F11 := f10.same W11
  have N11 := Fr.snoc X11 N8 (by omega : n0 ≤ a)
  have f12 : Exa Z h11 a "java/lang/String" := (f9.wr W11)
  have f13 : Fld Z h11 a "java/lang/String" "value" "[B" u1 := ((F1.keep Kq6 nin0).other W11 (Or.inr (slot_ne (Or.inr (wq hw 84 rfl)) (Or.inr (wq hw 82 rfl)) (by decide) (t := (.array .byte)) (t' := .byte) (by decide) (by decide))))
  have k14 : To p.tables e below S0 (T11.setTop (mkF m 54 #[.val (.ref a), .val (.ref b), .val (.int f), .val (.int (2 : Int32)), .val .null, .val (.ref t6)] [(.ref t6), (.ref a)])) := fun tt hq => k11 tt (by
    refine XS.aloadN X11.here hx rfl (hb hby d_jdk_42_method_149_code_51) rfl rfl ?_
    refine XS.aload X11.here hx rfl (hb hby d_jdk_42_method_149_code_52) rfl rfl ?_
    exact hq)
  obtain ⟨T15, h15, X15, e15, W15, st15⟩ := putF X11 hx hZ hown (host := "") (Or.inl (wq hw 83 rfl)) Via.refl e11 f13 f12 (Or.inr ⟨(wq hw 84 rfl), rfl, hnm⟩) (wq hw 48 rfl) (ty := (.array .byte)) (by decide) rfl rfl (g := (mkF m 54 #[.val (.ref a), .val (.ref b), .val (.int f), .val (.int (2 : Int32)), .val .null, .val (.ref t6)] [(.ref t6), (.ref a)])) rfl rfl (hb hby d_jdk_42_method_149_code_54)
  have k15 : To p.tables e below S0 (T15.setTop (mkF m 57 #[.val (.ref a), .val (.ref b), .val (.int f), .val (.int (2 : Int32)), .val .null, .val (.ref t6)] [])) := fun tt hq => k14 tt (st15 tt hq)
  have z15 : h15.size = h11.size := W15.size
  have F15 := f13.same W15
  have N15 := Fr.snoc X15 N11 (by omega : n0 ≤ a)
  have f16 : Arv Z h15 t6 kt6 .byte (2 : Int32) [(.int (nar .byte ((own_at [d0, d1, d2, d3, d4, d5] f).toInt8.toInt32))), (.int (nar .byte ((own_at [d0, d1, d2, d3, d4, d5] (f + (1 : Int32))).toInt8.toInt32)))] (.int (0 : Int32)) := ((V6.other W11 (adr_ne (by omega))).other W15 (adr_ne (by omega)))
  have f17 : Exa Z h15 a "java/lang/String" := (f12.wr W15)
  have f18 : Fld Z h15 a "java/lang/String" "coder" "B" (.int (0 : Int32)) := (F11.other W15 (Or.inr (slot_ne (Or.inr (wq hw 82 rfl)) (Or.inr (wq hw 84 rfl)) (by decide) (t := .byte) (t' := (.array .byte)) (by decide) (by decide))))
  have hE := e15
  refine retVoid X15 hx hret hlk (hb hby d_jdk_42_method_149_code_57) k15 ?_ (by decide) (by decide)
  try rw [hE]
  exact ⟨rfl, N15, ((((Keep.refl h0 [a]).trans Kq6 all0).wr W11 (Or.inl (by simp))).wr W15 (Or.inl (by simp))), t6, kt6, f16.lt, f17, F15, f18, f16⟩
set_option maxRecDepth 65536 in
set_option maxHeartbeats 40000000 in
theorem rm_n3_2 (l : Launch) (Z : State) (a0 : Array Value) (hw : ∀ d ∈ tables_1, d.before a0 Z = true) (zc : Int32) (fm : Value) (a : Addr) (b : Addr) (kb : ClassId) (u1 : Value) (u2 : Value) (f : Int32) (d0 : Int32) (d1 : Int32) (d2 : Int32) (d3 : Int32) (d4 : Int32) (d5 : Int32) (h0 : Heap) (n0 : Nat) (hn0 : n0 ≤ h0.size) (S_c : Sta Z Z.heap "java/lang/String" "COMPACT_STRINGS" "Z" (.int zc)) (hzc : ¬ zc = (0 : Int32)) (S_f : Sta Z Z.heap "jdk/internal/util/Preconditions" "SIOOBE_FORMATTER" "Ljava/util/function/BiFunction;" fm) (hfm : fm.isRef = true) (O0 : Old Z n0 h0) (E0 : Exa Z h0 a "java/lang/String") (F1 : Fld Z h0 a "java/lang/String" "value" "[B" u1) (F2 : Fld Z h0 a "java/lang/String" "coder" "B" u2) (P0 : Arv Z h0 b kb .char (6 : Int32) [(.int d0), (.int d1), (.int d2), (.int d3), (.int d4), (.int d5)] (.int (0 : Int32))) (ga : n0 ≤ a) (ya : @LT.lt Nat instLTNat a h0.size) (yb : @LT.lt Nat instLTNat b h0.size) (nab : ¬ (@Eq Nat b a)) (hf : f = (0 : Int32) ∨ f = (1 : Int32) ∨ f = (2 : Int32) ∨ f = (3 : Int32) ∨ f = (4 : Int32)) (hm : ∀ i : Int32, ¬ own_at [d0, d1, d2, d3, d4, d5] i < (0 : Int32) ∧ ¬ (255 : Int32) < own_at [d0, d1, d2, d3, d4, d5] i) (q1 : ¬ (((6 : Int32) ||| f) ||| (2 : Int32)) < (0 : Int32)) (q2 : ¬ ((6 : Int32) - f) < (2 : Int32)) :
    Con l Z (⟨"java/lang/String", "<init>", "([CII)V"⟩ : MethodName) jdk_42_method_4_code 4 none [] ({ frames := 3, cells := 1, slots := 2, locals := 52 } : Room) #[(.ref a), (.ref b), (.int f), (.int (2 : Int32))] h0 (fun v h L => v = none ∧ Fr n0 L ∧ Keep h0 h [a] ∧ ∃ (t : Addr) (k : ClassId), (@LT.lt Nat instLTNat t h.size) ∧ Exa Z h a "java/lang/String" ∧ Fld Z h a "java/lang/String" "value" "[B" (.ref t) ∧ Fld Z h a "java/lang/String" "coder" "B" (.int (0 : Int32)) ∧ Arv Z h t k .byte (2 : Int32) [(.int (nar .byte ((own_at [d0, d1, d2, d3, d4, d5] f).toInt8.toInt32))), (.int (nar .byte ((own_at [d0, d1, d2, d3, d4, d5] (f + (1 : Int32))).toInt8.toInt32)))] (.int 0)) := by
  refine enter (Ls := #[.val (.ref a), .val (.ref b), .val (.int f), .val (.int (2 : Int32))]) (plainFor_of_name pn_3) (fun m => by exact entry_eq rfl) ?_
  intro p e s m below meth cd_ s₁ S0 hx hby hml hret hlk hnm hown hZ X0 e0 k0
  have N0 := Fr.nil n0
  have k1 : To p.tables e below S0 (s₁.setTop (mkF m 7 #[.val (.ref a), .val (.ref b), .val (.int f), .val (.int (2 : Int32))] [(.int (2 : Int32)), (.int f), (.ref b), (.int (2 : Int32)), (.int f), (.ref b), (.ref a)])) := fun tt hq => k0 tt (by
    refine XS.aloadN X0.here hx rfl (hb hby d_jdk_42_method_4_code_0) rfl rfl ?_
    refine XS.aloadN X0.here hx rfl (hb hby d_jdk_42_method_4_code_1) rfl rfl ?_
    refine XS.iloadN X0.here hx rfl (hb hby d_jdk_42_method_4_code_2) rfl ?_
    refine XS.iloadN X0.here hx rfl (hb hby d_jdk_42_method_4_code_3) rfl ?_
    refine XS.aloadN X0.here hx rfl (hb hby d_jdk_42_method_4_code_4) rfl rfl ?_
    refine XS.iloadN X0.here hx rfl (hb hby d_jdk_42_method_4_code_5) rfl ?_
    refine XS.iloadN X0.here hx rfl (hb hby d_jdk_42_method_4_code_6) rfl ?_
    exact hq)
  obtain ⟨_, T2, L2, X2, ⟨rfl, Nq2, eq2⟩, k2a⟩ := callS' X0 hx hZ (y := (⟨"java/lang/String", "rangeCheck", "([CII)Ljava/lang/Void;"⟩ : MethodName)) hown (wq hw 53 rfl) (wq hw 54 rfl) (wq hw 49 rfl) (wq hw 55 rfl) (by decide) (backC (W := 4) (rm_rck l Z a0 hw fm b kb f (2 : Int32) d0 d1 d2 d3 d4 d5 h0 n0 (by omega) S_f hfm O0 P0 q1 q2) hZ (wq hw 55 rfl) (wq hw 49 rfl) (by decide) (by decide)) e0 (argsL := [(.ref b), (.int f), (.int (2 : Int32))]) (rest := [(.int (2 : Int32)), (.int f), (.ref b), (.ref a)]) rfl rfl pd_10 rfl (by rw [hml]; rfl) (hb hby d_jdk_42_method_4_code_7) (Nat.le_of_eq rfl) (by decide) (by decide) k1
  have k2 : To p.tables e below S0 (T2.setTop (mkF m 10 #[.val (.ref a), .val (.ref b), .val (.int f), .val (.int (2 : Int32))] [.null, (.int (2 : Int32)), (.int f), (.ref b), (.ref a)])) := k2a
  have N2 := N0.app Nq2
  have e2 : T2.heap = h0 := eq2
  obtain ⟨_, T3, L3, X3, ⟨rfl, Nq3, Kq3, t3, kt3, gt3, P30, P31, P32, P33⟩, k3a⟩ := callC' X2 hx hZ (y := (⟨"java/lang/String", "<init>", "([CIILjava/lang/Void;)V"⟩ : MethodName)) rfl hown (wq hw 64 rfl) (wq hw 65 rfl) (wq hw 67 rfl) (by decide) (backC (W := 0) (rm_n4_2 l Z a0 hw zc a b kb u1 u2 f d0 d1 d2 d3 d4 d5 h0 n0 (by omega) S_c hzc O0 E0 F1 F2 P0 (by omega) (by omega) (by omega) (by omega) hf hm) hZ (wq hw 67 rfl) (wq hw 49 rfl) (by decide) (by decide)) e2 (argsL := [(.ref b), (.int f), (.int (2 : Int32)), .null]) (rest := []) rfl rfl pd_11 rfl (by rw [hml]; rfl) (hb hby d_jdk_42_method_4_code_10) (Nat.le_of_eq rfl) (by decide) (by decide) k2
  have k3 : To p.tables e below S0 (T3.setTop (mkF m 13 #[.val (.ref a), .val (.ref b), .val (.int f), .val (.int (2 : Int32))] [])) := k3a
  have N3 := N2.app Nq3
  obtain ⟨h3, e3⟩ : ∃ z, T3.heap = z := ⟨_, rfl⟩
  rw [e3] at Kq3 gt3 P30 P31 P32 P33
  have z3 : h0.size ≤ h3.size := Kq3.1
  have hE := e3
  refine retVoid X3 hx hret hlk (hb hby d_jdk_42_method_4_code_13) k3 ?_ (by decide) (by decide)
  try rw [hE]
  exact ⟨rfl, N3, ((Keep.refl h0 [a]).trans Kq3 (allS (Or.inl (by simp)) all0)), t3, kt3, P33.lt, P30, P31, P32, P33⟩
set_option maxRecDepth 65536 in
set_option maxHeartbeats 40000000 in
theorem rm_ts_2 (l : Launch) (Z : State) (a0 : Array Value) (hw : ∀ d ∈ tables_1, d.before a0 Z = true) (zc : Int32) (fm : Value) (r : Addr) (b : Addr) (kb : ClassId) (f : Int32) (d0 : Int32) (d1 : Int32) (d2 : Int32) (d3 : Int32) (d4 : Int32) (d5 : Int32) (h0 : Heap) (n0 : Nat) (hn0 : n0 ≤ h0.size) (S_c : Sta Z Z.heap "java/lang/String" "COMPACT_STRINGS" "Z" (.int zc)) (hzc : ¬ zc = (0 : Int32)) (S_f : Sta Z Z.heap "jdk/internal/util/Preconditions" "SIOOBE_FORMATTER" "Ljava/util/function/BiFunction;" fm) (hfm : fm.isRef = true) (O0 : Old Z n0 h0) (R0 : Exa Z h0 r "strikebound/cli/InPlaceText") (R1 : Fld Z h0 r "strikebound/cli/InPlaceText" "chars" "[C" (.ref b)) (R2 : Fld Z h0 r "strikebound/cli/InPlaceText" "start" "I" (.int f)) (R3 : Fld Z h0 r "strikebound/cli/InPlaceText" "length" "I" (.int (2 : Int32))) (P0 : Arv Z h0 b kb .char (6 : Int32) [(.int d0), (.int d1), (.int d2), (.int d3), (.int d4), (.int d5)] (.int (0 : Int32))) (yb : @LT.lt Nat instLTNat b h0.size) (hf : f = (0 : Int32) ∨ f = (1 : Int32) ∨ f = (2 : Int32) ∨ f = (3 : Int32) ∨ f = (4 : Int32)) (hm : ∀ i : Int32, ¬ own_at [d0, d1, d2, d3, d4, d5] i < (0 : Int32) ∧ ¬ (255 : Int32) < own_at [d0, d1, d2, d3, d4, d5] i) (q1 : ¬ (((6 : Int32) ||| f) ||| (2 : Int32)) < (0 : Int32)) (q2 : ¬ ((6 : Int32) - f) < (2 : Int32)) :
    Con l Z (⟨"strikebound/cli/InPlaceText", "toString", "()Ljava/lang/String;"⟩ : MethodName) prog_26_method_8_code 1 (some (.object "java/lang/String")) [] ({ frames := 4, cells := 2, slots := 6, locals := 68 } : Room) #[(.ref r)] h0 (fun v h L => ∃ (c t : Addr) (k : ClassId), v = some (.ref c) ∧ Fr n0 L ∧ (@LT.lt Nat instLTNat c h.size) ∧ (@LT.lt Nat instLTNat t h.size) ∧ Keep h0 h [] ∧ Exa Z h c "java/lang/String" ∧ Fld Z h c "java/lang/String" "value" "[B" (.ref t) ∧ Fld Z h c "java/lang/String" "coder" "B" (.int (0 : Int32)) ∧ Arv Z h t k .byte (2 : Int32) [(.int (nar .byte ((own_at [d0, d1, d2, d3, d4, d5] f).toInt8.toInt32))), (.int (nar .byte ((own_at [d0, d1, d2, d3, d4, d5] (f + (1 : Int32))).toInt8.toInt32)))] (.int 0)) := by
  refine enter (Ls := #[.val (.ref r)]) (plainFor_of_name pn_1) (fun m => by exact entry_eq rfl) ?_
  intro p e s m below meth cd_ s₁ S0 hx hby hml hret hlk hnm hown hZ X0 e0 k0
  have N0 := Fr.nil n0
  obtain ⟨T1, h1, X1, e1, E1, A1, D1, -, st1⟩ := newO X0 hx hZ hown (wq hw 47 rfl) (wq hw 48 rfl) (wq hw 49 rfl) e0 (g := (mkF m 0 #[.val (.ref r)] [])) rfl (hb hby d_prog_26_method_8_code_0) (by decide) (by decide)
  obtain ⟨b1, g1⟩ : ∃ z, z = h0.size := ⟨_, rfl⟩
  rw [← g1] at A1 D1 st1
  have k1 : To p.tables e below S0 (T1.setTop (mkF m 3 #[.val (.ref r)] [(.ref b1)])) := fun tt hq => k0 tt (st1 tt hq)
  have z1 : h0.size ≤ h1.size := E1.1
  have y1 : @LT.lt Nat instLTNat b1 h1.size := A1.lt
  have F1_coder : Fld Z h1 b1 "java/lang/String" "coder" "B" (.int (0 : Int32)) := D1 (Or.inr (wq hw 82 rfl)) (ty := .byte) (by decide)
  have F1_value : Fld Z h1 b1 "java/lang/String" "value" "[B" .null := D1 (Or.inr (wq hw 84 rfl)) (ty := (.array .byte)) (by decide)
  have f2 : Fld Z h1 r "strikebound/cli/InPlaceText" "chars" "[C" (.ref b) := (R1.ext E1)
  have k3 : To p.tables e below S0 (T1.setTop (mkF m 5 #[.val (.ref r)] [(.ref r), (.ref b1), (.ref b1)])) := fun tt hq => k1 tt (by
    refine XS.dup X1.here hx rfl (hb hby d_prog_26_method_8_code_3) rfl rfl ?_
    refine XS.aloadN X1.here hx rfl (hb hby d_prog_26_method_8_code_4) rfl rfl ?_
    exact hq)
  obtain ⟨T4, X4, e4, st4⟩ := getF X1 hx hZ hown (host := "") (Or.inl (wq hw 16 rfl)) Via.refl e1 f2 (g := (mkF m 5 #[.val (.ref r)] [(.ref r), (.ref b1), (.ref b1)])) rfl rfl (hb hby d_prog_26_method_8_code_5)
  have k4 : To p.tables e below S0 (T4.setTop (mkF m 8 #[.val (.ref r)] [(.ref b), (.ref b1), (.ref b1)])) := fun tt hq => k3 tt (st4 tt hq)
  have f5 : Fld Z h1 r "strikebound/cli/InPlaceText" "start" "I" (.int f) := (R2.ext E1)
  have k6 : To p.tables e below S0 (T4.setTop (mkF m 9 #[.val (.ref r)] [(.ref r), (.ref b), (.ref b1), (.ref b1)])) := fun tt hq => k4 tt (by
    refine XS.aloadN X4.here hx rfl (hb hby d_prog_26_method_8_code_8) rfl rfl ?_
    exact hq)
  obtain ⟨T7, X7, e7, st7⟩ := getF X4 hx hZ hown (host := "") (Or.inl (wq hw 23 rfl)) Via.refl e4 f5 (g := (mkF m 9 #[.val (.ref r)] [(.ref r), (.ref b), (.ref b1), (.ref b1)])) rfl rfl (hb hby d_prog_26_method_8_code_9)
  have k7 : To p.tables e below S0 (T7.setTop (mkF m 12 #[.val (.ref r)] [(.int f), (.ref b), (.ref b1), (.ref b1)])) := fun tt hq => k6 tt (st7 tt hq)
  have f8 : Fld Z h1 r "strikebound/cli/InPlaceText" "length" "I" (.int (2 : Int32)) := (R3.ext E1)
  have k9 : To p.tables e below S0 (T7.setTop (mkF m 13 #[.val (.ref r)] [(.ref r), (.int f), (.ref b), (.ref b1), (.ref b1)])) := fun tt hq => k7 tt (by
    refine XS.aloadN X7.here hx rfl (hb hby d_prog_26_method_8_code_12) rfl rfl ?_
    exact hq)
  obtain ⟨T10, X10, e10, st10⟩ := getF X7 hx hZ hown (host := "") (Or.inl (wq hw 25 rfl)) Via.refl e7 f8 (g := (mkF m 13 #[.val (.ref r)] [(.ref r), (.int f), (.ref b), (.ref b1), (.ref b1)])) rfl rfl (hb hby d_prog_26_method_8_code_13)
  have k10 : To p.tables e below S0 (T10.setTop (mkF m 16 #[.val (.ref r)] [(.int (2 : Int32)), (.int f), (.ref b), (.ref b1), (.ref b1)])) := fun tt hq => k9 tt (st10 tt hq)
  have f11 : Old Z n0 h1 := (O0.ext E1)
  have f12 : Arv Z h1 b kb .char (6 : Int32) [(.int d0), (.int d1), (.int d2), (.int d3), (.int d4), (.int d5)] (.int (0 : Int32)) := (P0.ext E1)
  obtain ⟨_, T13, L13, X13, ⟨rfl, Nq13, Kq13, t13, kt13, gt13, P130, P131, P132, P133⟩, k13a⟩ := callC' X10 hx hZ (y := (⟨"java/lang/String", "<init>", "([CII)V"⟩ : MethodName)) rfl hown (wq hw 50 rfl) (wq hw 51 rfl) (wq hw 52 rfl) (by decide) (backC (W := 1) (rm_n3_2 l Z a0 hw zc fm b1 b kb .null (.int (0 : Int32)) f d0 d1 d2 d3 d4 d5 h1 n0 (by omega) S_c hzc S_f hfm f11 A1 F1_value F1_coder f12 (by omega) (by omega) (by omega) (by omega) hf hm q1 q2) hZ (wq hw 52 rfl) (wq hw 49 rfl) (by decide) (by decide)) e10 (argsL := [(.ref b), (.int f), (.int (2 : Int32))]) (rest := [(.ref b1)]) rfl rfl pd_7 rfl (by rw [hml]; rfl) (hb hby d_prog_26_method_8_code_16) (Nat.le_of_eq rfl) (by decide) (by decide) k10
  have k13 : To p.tables e below S0 (T13.setTop (mkF m 19 #[.val (.ref r)] [(.ref b1)])) := k13a
  have N13 := N0.app Nq13
  obtain ⟨h13, e13⟩ : ∃ z, T13.heap = z := ⟨_, rfl⟩
  rw [e13] at Kq13 gt13 P130 P131 P132 P133
  have z13 : h1.size ≤ h13.size := Kq13.1
  have hE := e13
  refine retRef X13 hx hret hlk rfl rfl (hb hby d_prog_26_method_8_code_19) k13 ?_ (by decide) (by decide)
  try rw [hE]
  exact ⟨_, _, _, rfl, N13, P130.lt, P133.lt, (((Keep.refl h0 []).ext E1).trans Kq13 (allS (Or.inr (by omega)) all0)), P130, P131, P132, P133⟩
set_option maxRecDepth 65536 in
set_option maxHeartbeats 40000000 in
theorem rm_lcs2 (l : Launch) (Z : State) (a0 : Array Value) (hw : ∀ d ∈ tables_1, d.before a0 Z = true) (fm : Value) (t : Addr) (kt : ClassId) (c0 : Int32) (c1 : Int32) (i : Int32) (h0 : Heap) (n0 : Nat) (hn0 : n0 ≤ h0.size) (S_f : Sta Z Z.heap "jdk/internal/util/Preconditions" "SIOOBE_FORMATTER" "Ljava/util/function/BiFunction;" fm) (hfm : fm.isRef = true) (O0 : Old Z n0 h0) (P0 : Arv Z h0 t kt .byte (2 : Int32) [(.int c0), (.int c1)] (.int (0 : Int32))) (hi0 : ¬ i < (0 : Int32)) (hi1 : i < (2 : Int32)) :
    Con l Z (⟨"java/lang/StringLatin1", "charAt", "([BI)C"⟩ : MethodName) jdk_43_method_2_code 2 (some .char) [] ({ frames := 2, cells := 0, slots := 0, locals := 27 } : Room) #[(.ref t), (.int i)] h0 (fun v h L => v = some (.int ((own_at [c0, c1] i) &&& (255 : Int32))) ∧ Fr n0 L ∧ h = h0) := by
  refine enter (Ls := #[.val (.ref t), .val (.int i)]) (plainFor_of_name pn_6) (fun m => by exact entry_eq rfl) ?_
  intro p e s m below meth cd_ s₁ S0 hx hby hml hret hlk hnm hown hZ X0 e0 k0
  have N0 := Fr.nil n0
  have k1 : To p.tables e below S0 (s₁.setTop (mkF m 2 #[.val (.ref t), .val (.int i)] [(.ref t), (.int i)])) := fun tt hq => k0 tt (by
    refine XS.iloadN X0.here hx rfl (hb hby d_jdk_43_method_2_code_0) rfl ?_
    refine XS.aloadN X0.here hx rfl (hb hby d_jdk_43_method_2_code_1) rfl rfl ?_
    exact hq)
  obtain ⟨cl2, Ar2, -, S2, M2, -, -⟩ := id P0
  have st2 := fun tt => X0.arraylength hx (by rw [e0]; exact Ar2.1) (State.isArrayOf_alike hZ.alike Ar2.2.1) (g := (mkF m 2 #[.val (.ref t), .val (.int i)] [(.ref t), (.int i)])) rfl rfl (hb hby d_jdk_43_method_2_code_2) tt
  rw [len_of S2 M2] at st2
  have k2 : To p.tables e below S0 (s₁.setTop (mkF m 3 #[.val (.ref t), .val (.int i)] [(.int (2 : Int32)), (.int i)])) := fun tt hq => k1 tt (st2 tt hq)
  obtain ⟨_, T3, L3, X3, ⟨rfl, Nq3, eq3⟩, k3a⟩ := callS' X0 hx hZ (y := (⟨"java/lang/String", "checkIndex", "(II)V"⟩ : MethodName)) hown (wq hw 121 rfl) (wq hw 122 rfl) (wq hw 49 rfl) (wq hw 123 rfl) (by decide) (backC (W := 0) (rm_chk l Z a0 hw fm i (2 : Int32) h0 n0 (by omega) S_f hfm O0 hi0 hi1) hZ (wq hw 123 rfl) (wq hw 49 rfl) (by decide) (by decide)) e0 (argsL := [(.int i), (.int (2 : Int32))]) (rest := []) rfl rfl pd_18 rfl (by rw [hml]; rfl) (hb hby d_jdk_43_method_2_code_3) (Nat.le_of_eq rfl) (by decide) (by decide) k2
  have k3 : To p.tables e below S0 (T3.setTop (mkF m 6 #[.val (.ref t), .val (.int i)] [])) := k3a
  have N3 := N0.app Nq3
  have e3 : T3.heap = h0 := eq3
  have k4 : To p.tables e below S0 (T3.setTop (mkF m 8 #[.val (.ref t), .val (.int i)] [(.int i), (.ref t)])) := fun tt hq => k3 tt (by
    refine XS.aloadN X3.here hx rfl (hb hby d_jdk_43_method_2_code_6) rfl rfl ?_
    refine XS.iloadN X3.here hx rfl (hb hby d_jdk_43_method_2_code_7) rfl ?_
    exact hq)
  obtain ⟨cl5, Ar5, -, S5, -, G5, -⟩ := id P0
  have hi5 := inb_of (j := i) S5 (⟨hi0, hi1⟩)
  have st5 := fun tt => X3.baloadBytes hx (j := i) (v := (.int (own_at [c0, c1] i))) (by rw [e3]; exact Ar5.1) (State.isArrayOf_alike hZ.alike Ar5.2.1) Ar5.2.2 hi5 (G5.at hi5 (own_atv [c0, c1] i)) (g := (mkF m 8 #[.val (.ref t), .val (.int i)] [(.int i), (.ref t)])) rfl rfl (hb hby d_jdk_43_method_2_code_8) tt
  have k5 : To p.tables e below S0 (T3.setTop (mkF m 9 #[.val (.ref t), .val (.int i)] [(.int (own_at [c0, c1] i))])) := fun tt hq => k4 tt (st5 tt hq)
  have k6 : To p.tables e below S0 (T3.setTop (mkF m 14 #[.val (.ref t), .val (.int i)] [(.int (((own_at [c0, c1] i) &&& (255 : Int32)).toUInt32.toUInt16.toUInt32.toInt32))])) := fun tt hq => k5 tt (by
    refine XS.sipush X3.here hx rfl (hb hby d_jdk_43_method_2_code_9) ?_
    refine XS.iand X3.here hx rfl (hb hby d_jdk_43_method_2_code_12) rfl ?_
    refine XS.i2c X3.here hx rfl (hb hby d_jdk_43_method_2_code_13) rfl ?_
    exact hq)
  have k7 : To p.tables e below S0 (T3.setTop (mkF m 14 #[.val (.ref t), .val (.int i)] [(.int ((own_at [c0, c1] i) &&& (255 : Int32)))])) := by have hq := k6; rw [i2c_mask] at hq; exact hq
  obtain ⟨v8, hv8⟩ : ∃ z : Int32, z = ((own_at [c0, c1] i) &&& (255 : Int32)) := ⟨_, rfl⟩
  have k8 : To p.tables e below S0 (T3.setTop (mkF m 14 #[.val (.ref t), .val (.int i)] [(.int v8)])) := by rw [hv8]; exact k7
  have mv8 : ¬ v8 < (0 : Int32) ∧ ¬ (255 : Int32) < v8 := by rw [hv8]; exact own_m255 _
  have hE := e3
  refine retInt X3 hx hret hlk (by simp) (congrArg Value.int (own_narc mv8)) (hb hby d_jdk_43_method_2_code_14) k8 ?_ (by decide) (by decide)
  try rw [hE]
  exact ⟨by rw [hv8], N3, rfl⟩
set_option maxRecDepth 65536 in
set_option maxHeartbeats 40000000 in
theorem rm_cs2 (l : Launch) (Z : State) (a0 : Array Value) (hw : ∀ d ∈ tables_1, d.before a0 Z = true) (zc : Int32) (fm : Value) (a : Addr) (t : Addr) (kt : ClassId) (c0 : Int32) (c1 : Int32) (i : Int32) (r : Int32) (h0 : Heap) (n0 : Nat) (hn0 : n0 ≤ h0.size) (S_c : Sta Z Z.heap "java/lang/String" "COMPACT_STRINGS" "Z" (.int zc)) (hzc : ¬ zc = (0 : Int32)) (S_f : Sta Z Z.heap "jdk/internal/util/Preconditions" "SIOOBE_FORMATTER" "Ljava/util/function/BiFunction;" fm) (hfm : fm.isRef = true) (O0 : Old Z n0 h0) (P0 : Exa Z h0 a "java/lang/String") (P1 : Fld Z h0 a "java/lang/String" "value" "[B" (.ref t)) (P2 : Fld Z h0 a "java/lang/String" "coder" "B" (.int (0 : Int32))) (P3 : Arv Z h0 t kt .byte (2 : Int32) [(.int c0), (.int c1)] (.int 0)) (hi0 : ¬ i < (0 : Int32)) (hi1 : i < (2 : Int32)) (hr : ((own_at [c0, c1] i) &&& (255 : Int32)) = r) :
    Con l Z (⟨"java/lang/String", "charAt", "(I)C"⟩ : MethodName) jdk_42_method_56_code 2 (some .char) [] ({ frames := 3, cells := 0, slots := 0, locals := 40 } : Room) #[(.ref a), (.int i)] h0 (fun v h L => v = some (.int r) ∧ Fr n0 L ∧ h = h0) := by
  refine enter (Ls := #[.val (.ref a), .val (.int i)]) (plainFor_of_name pn_3) (fun m => by exact entry_eq rfl) ?_
  intro p e s m below meth cd_ s₁ S0 hx hby hml hret hlk hnm hown hZ X0 e0 k0
  have N0 := Fr.nil n0
  have k1 : To p.tables e below S0 (s₁.setTop (mkF m 1 #[.val (.ref a), .val (.int i)] [(.ref a)])) := fun tt hq => k0 tt (by
    refine XS.aloadN X0.here hx rfl (hb hby d_jdk_42_method_56_code_0) rfl rfl ?_
    exact hq)
  obtain ⟨_, T2, L2, X2, ⟨rfl, Nq2, eq2⟩, k2a⟩ := callV' X0 hx hZ (y := (⟨"java/lang/String", "isLatin1", "()Z"⟩ : MethodName)) (z := (⟨"java/lang/String", "isLatin1", "()Z"⟩ : MethodName)) hown (wq hw 112 rfl) (wq hw 113 rfl) (notFace_of_selects (args := #[]) (mvT hZ (wq hw 115 rfl))) (wq hw 115 rfl) (wq hw 114 rfl) (by decide) P0 (backC (W := 0) (rm_latin l Z a0 hw zc a h0 n0 (by omega) S_c hzc O0 P2) hZ (wq hw 116 rfl) (wq hw 49 rfl) (by decide) (by decide)) e0 (argsL := []) (rest := []) rfl rfl pd_17 rfl (by rw [hml]; rfl) (hb hby d_jdk_42_method_56_code_1) (Nat.le_of_eq rfl) (by decide) (by decide) k1
  have k2 : To p.tables e below S0 (T2.setTop (mkF m 4 #[.val (.ref a), .val (.int i)] [(.int (1 : Int32))])) := k2a
  have N2 := N0.app Nq2
  have e2 : T2.heap = h0 := eq2
  have k3 : To p.tables e below S0 (T2.setTop (mkF m 8 #[.val (.ref a), .val (.int i)] [(.ref a)])) := fun tt hq => k2 tt (by
    refine XS.ifNo X2.here hx rfl (hb hby d_jdk_42_method_56_code_4) rfl ((if0 _ _).trans (feq (by decide)).1) ?_
    refine XS.aloadN X2.here hx rfl (hb hby d_jdk_42_method_56_code_7) rfl rfl ?_
    exact hq)
  obtain ⟨T4, X4, e4, st4⟩ := getF X2 hx hZ hown (host := "") (Or.inl (wq hw 83 rfl)) Via.refl e2 P1 (g := (mkF m 8 #[.val (.ref a), .val (.int i)] [(.ref a)])) rfl rfl (hb hby d_jdk_42_method_56_code_8)
  have k4 : To p.tables e below S0 (T4.setTop (mkF m 11 #[.val (.ref a), .val (.int i)] [(.ref t)])) := fun tt hq => k3 tt (st4 tt hq)
  have k5 : To p.tables e below S0 (T4.setTop (mkF m 12 #[.val (.ref a), .val (.int i)] [(.int i), (.ref t)])) := fun tt hq => k4 tt (by
    refine XS.iloadN X4.here hx rfl (hb hby d_jdk_42_method_56_code_11) rfl ?_
    exact hq)
  obtain ⟨_, T6, L6, X6, ⟨rfl, Nq6, eq6⟩, k6a⟩ := callS' X4 hx hZ (y := (⟨"java/lang/StringLatin1", "charAt", "([BI)C"⟩ : MethodName)) hown (wq hw 117 rfl) (wq hw 118 rfl) (wq hw 119 rfl) (wq hw 120 rfl) (by decide) (backC (W := 0) (rm_lcs2 l Z a0 hw fm t kt c0 c1 i h0 n0 (by omega) S_f hfm O0 P3 hi0 hi1) hZ (wq hw 120 rfl) (wq hw 119 rfl) (by decide) (by decide)) e4 (argsL := [(.ref t), (.int i)]) (rest := []) rfl rfl pd_19 rfl (by rw [hml]; rfl) (hb hby d_jdk_42_method_56_code_12) (Nat.le_of_eq rfl) (by decide) (by decide) k5
  have k6 : To p.tables e below S0 (T6.setTop (mkF m 15 #[.val (.ref a), .val (.int i)] [(.int ((own_at [c0, c1] i) &&& (255 : Int32)))])) := k6a
  have N6 := N2.app Nq6
  have e6 : T6.heap = h0 := eq6
  have hE := e6
  refine retInt X6 hx hret hlk (by simp) (own_narrowc _) (hb hby d_jdk_42_method_56_code_15) k6 ?_ (by decide) (by decide)
  try rw [hE]
  exact ⟨by rw [hr], N6, rfl⟩
set_option maxRecDepth 65536 in
set_option maxHeartbeats 40000000 in
theorem rm_c5_3 (l : Launch) (Z : State) (a0 : Array Value) (hw : ∀ d ∈ tables_1, d.before a0 Z = true) (b : Addr) (kb : ClassId) (t : Addr) (kt : ClassId) (f : Int32) (d0 : Int32) (d1 : Int32) (d2 : Int32) (d3 : Int32) (d4 : Int32) (d5 : Int32) (h0 : Heap) (n0 : Nat) (hn0 : n0 ≤ h0.size) (P0 : Arv Z h0 b kb .char (6 : Int32) [(.int d0), (.int d1), (.int d2), (.int d3), (.int d4), (.int d5)] (.int (0 : Int32))) (P1 : Arv Z h0 t kt .byte (3 : Int32) [(.int (0 : Int32)), (.int (0 : Int32)), (.int (0 : Int32))] (.int (0 : Int32))) (ga : n0 ≤ t) (nbt : ¬ (@Eq Nat b t)) (hf : f = (0 : Int32) ∨ f = (1 : Int32) ∨ f = (2 : Int32) ∨ f = (3 : Int32)) (hm : ∀ i : Int32, ¬ own_at [d0, d1, d2, d3, d4, d5] i < (0 : Int32) ∧ ¬ (255 : Int32) < own_at [d0, d1, d2, d3, d4, d5] i) :
    Con l Z (⟨"java/lang/StringUTF16", "compress", "([CI[BII)I"⟩ : MethodName) jdk_52_method_21_code 7 (some .int) [] ({ frames := 0, cells := 0, slots := 0, locals := 0 } : Room) #[(.ref b), (.int f), (.ref t), (.int (0 : Int32)), (.int (3 : Int32))] h0 (fun v h L => v = some (.int (3 : Int32)) ∧ Fr n0 L ∧ Keep h0 h [t] ∧ Arv Z h t kt .byte (3 : Int32) [(.int (nar .byte ((own_at [d0, d1, d2, d3, d4, d5] f).toInt8.toInt32))), (.int (nar .byte ((own_at [d0, d1, d2, d3, d4, d5] (f + (1 : Int32))).toInt8.toInt32))), (.int (nar .byte ((own_at [d0, d1, d2, d3, d4, d5] ((f + (1 : Int32)) + (1 : Int32))).toInt8.toInt32)))] (.int (0 : Int32))) := by
  refine enter (Ls := #[.val (.ref b), .val (.int f), .val (.ref t), .val (.int (0 : Int32)), .val (.int (3 : Int32)), .unset, .unset]) (plainFor_of_name pn_5) (fun m => by exact entry_eq rfl) ?_
  intro p e s m below meth cd_ s₁ S0 hx hby hml hret hlk hnm hown hZ X0 e0 k0
  have N0 := Fr.nil n0
  have k1 : To p.tables e below S0 (s₁.setTop (mkF m 12 #[.val (.ref b), .val (.int f), .val (.ref t), .val (.int (0 : Int32)), .val (.int (3 : Int32)), .val (.int (0 : Int32)), .unset] [(.int f), (.ref b)])) := fun tt hq => k0 tt (by
    refine XS.iconst X0.here hx rfl (hb hby d_jdk_52_method_21_code_0) ?_
    refine XS.istore X0.here hx rfl (hb hby d_jdk_52_method_21_code_1) rfl (l' := #[.val (.ref b), .val (.int f), .val (.ref t), .val (.int (0 : Int32)), .val (.int (3 : Int32)), .val (.int (0 : Int32)), .unset]) rfl ?_
    refine XS.iload X0.here hx rfl (hb hby d_jdk_52_method_21_code_3) rfl ?_
    refine XS.iload X0.here hx rfl (hb hby d_jdk_52_method_21_code_5) rfl ?_
    refine XS.icmpNo X0.here hx rfl (hb hby d_jdk_52_method_21_code_7) rfl (tlt (by decide)).2.1 ?_
    refine XS.aloadN X0.here hx rfl (hb hby d_jdk_52_method_21_code_10) rfl rfl ?_
    refine XS.iloadN X0.here hx rfl (hb hby d_jdk_52_method_21_code_11) rfl ?_
    exact hq)
  obtain ⟨cl2, Ar2, -, S2, -, G2, -⟩ := id P0
  have hi2 := inb_of (j := f) S2 (by rcases hf with rfl | rfl | rfl | rfl <;> decide)
  have st2 := fun tt => X0.caload hx (j := f) (v := (.int (own_at [d0, d1, d2, d3, d4, d5] f))) (by rw [e0]; exact Ar2.1) (State.isArrayOf_alike hZ.alike Ar2.2.1) Ar2.2.2 hi2 (G2.at hi2 (own_atv [d0, d1, d2, d3, d4, d5] f)) (g := (mkF m 12 #[.val (.ref b), .val (.int f), .val (.ref t), .val (.int (0 : Int32)), .val (.int (3 : Int32)), .val (.int (0 : Int32)), .unset] [(.int f), (.ref b)])) rfl rfl (hb hby d_jdk_52_method_21_code_12) tt
  have k2 : To p.tables e below S0 (s₁.setTop (mkF m 13 #[.val (.ref b), .val (.int f), .val (.ref t), .val (.int (0 : Int32)), .val (.int (3 : Int32)), .val (.int (0 : Int32)), .unset] [(.int (own_at [d0, d1, d2, d3, d4, d5] f))])) := fun tt hq => k1 tt (st2 tt hq)
  have k3 : To p.tables e below S0 (s₁.setTop (mkF m 31 #[.val (.ref b), .val (.int f), .val (.ref t), .val (.int (0 : Int32)), .val (.int (3 : Int32)), .val (.int (0 : Int32)), .val (.int (own_at [d0, d1, d2, d3, d4, d5] f))] [(.int ((own_at [d0, d1, d2, d3, d4, d5] f).toInt8.toInt32)), (.int (0 : Int32)), (.ref t)])) := fun tt hq => k2 tt (by
    refine XS.istore X0.here hx rfl (hb hby d_jdk_52_method_21_code_13) rfl (l' := #[.val (.ref b), .val (.int f), .val (.ref t), .val (.int (0 : Int32)), .val (.int (3 : Int32)), .val (.int (0 : Int32)), .val (.int (own_at [d0, d1, d2, d3, d4, d5] f))]) rfl ?_
    refine XS.iload X0.here hx rfl (hb hby d_jdk_52_method_21_code_15) rfl ?_
    refine XS.sipush X0.here hx rfl (hb hby d_jdk_52_method_21_code_17) ?_
    refine XS.icmpYes X0.here hx rfl (pc0 := 20) (pc' := 26) rfl (hb hby d_jdk_52_method_21_code_20) rfl (flt (hm f).2).2.2.2 (by decide) (by decide) ?_
    refine XS.aloadN X0.here hx rfl (hb hby d_jdk_52_method_21_code_26) rfl rfl ?_
    refine XS.iloadN X0.here hx rfl (hb hby d_jdk_52_method_21_code_27) rfl ?_
    refine XS.iload X0.here hx rfl (hb hby d_jdk_52_method_21_code_28) rfl ?_
    refine XS.i2b X0.here hx rfl (hb hby d_jdk_52_method_21_code_30) rfl ?_
    exact hq)
  obtain ⟨cl4, Ar4, q4, S4, M4, G4, J4⟩ := id P1
  obtain ⟨T4, h4, X4, e4, W4, st4⟩ := stB X0 hx hZ e0 Ar4 (j := (0 : Int32)) (inb_of S4 ⟨by decide, by decide⟩) (g := (mkF m 31 #[.val (.ref b), .val (.int f), .val (.ref t), .val (.int (0 : Int32)), .val (.int (3 : Int32)), .val (.int (0 : Int32)), .val (.int (own_at [d0, d1, d2, d3, d4, d5] f))] [(.int ((own_at [d0, d1, d2, d3, d4, d5] f).toInt8.toInt32)), (.int (0 : Int32)), (.ref t)])) rfl rfl (hb hby d_jdk_52_method_21_code_31)
  have k4 : To p.tables e below S0 (T4.setTop (mkF m 32 #[.val (.ref b), .val (.int f), .val (.ref t), .val (.int (0 : Int32)), .val (.int (3 : Int32)), .val (.int (0 : Int32)), .val (.int (own_at [d0, d1, d2, d3, d4, d5] f))] [])) := fun tt hq => k3 tt (st4 tt hq)
  have z4 : h4.size = h0.size := W4.size
  have V4 : Arv Z h4 t kt .byte (3 : Int32) [(.int (nar .byte ((own_at [d0, d1, d2, d3, d4, d5] f).toInt8.toInt32))), (.int (0 : Int32)), (.int (0 : Int32))] (.int (0 : Int32)) := Arv.set Ar4 q4 S4 M4 G4 J4 (fits_nar_byte _) W4 0 rfl (Nat.le_of_ble_eq_true rfl)
  have N4 := Fr.snoc X4 N0 (by omega : n0 ≤ t)
  have f5 : Arv Z h4 b kb .char (6 : Int32) [(.int d0), (.int d1), (.int d2), (.int d3), (.int d4), (.int d5)] (.int (0 : Int32)) := (P0.other W4 (adr_ne (by omega)))
  have k6 : To p.tables e below S0 (T4.setTop (mkF m 12 #[.val (.ref b), .val (.int (f + (1 : Int32))), .val (.ref t), .val (.int (1 : Int32)), .val (.int (3 : Int32)), .val (.int (1 : Int32)), .val (.int (own_at [d0, d1, d2, d3, d4, d5] f))] [(.int (f + (1 : Int32))), (.ref b)])) := fun tt hq => k4 tt (by
    refine XS.iinc X4.here hx rfl (hb hby d_jdk_52_method_21_code_32) rfl (l' := #[.val (.ref b), .val (.int (f + (1 : Int32))), .val (.ref t), .val (.int (0 : Int32)), .val (.int (3 : Int32)), .val (.int (0 : Int32)), .val (.int (own_at [d0, d1, d2, d3, d4, d5] f))]) rfl ?_
    refine XS.iinc X4.here hx rfl (hb hby d_jdk_52_method_21_code_35) rfl (l' := #[.val (.ref b), .val (.int (f + (1 : Int32))), .val (.ref t), .val (.int (1 : Int32)), .val (.int (3 : Int32)), .val (.int (0 : Int32)), .val (.int (own_at [d0, d1, d2, d3, d4, d5] f))]) rfl ?_
    refine XS.iinc X4.here hx rfl (hb hby d_jdk_52_method_21_code_38) rfl (l' := #[.val (.ref b), .val (.int (f + (1 : Int32))), .val (.ref t), .val (.int (1 : Int32)), .val (.int (3 : Int32)), .val (.int (1 : Int32)), .val (.int (own_at [d0, d1, d2, d3, d4, d5] f))]) rfl ?_
    refine XS.goto X4.here hx rfl (pc0 := 41) (pc' := 3) rfl (hb hby d_jdk_52_method_21_code_41) (by decide) (by decide) ?_
    refine XS.iload X4.here hx rfl (hb hby d_jdk_52_method_21_code_3) rfl ?_
    refine XS.iload X4.here hx rfl (hb hby d_jdk_52_method_21_code_5) rfl ?_
    refine XS.icmpNo X4.here hx rfl (hb hby d_jdk_52_method_21_code_7) rfl (tlt (by decide)).2.1 ?_
    refine XS.aloadN X4.here hx rfl (hb hby d_jdk_52_method_21_code_10) rfl rfl ?_
    refine XS.iloadN X4.here hx rfl (hb hby d_jdk_52_method_21_code_11) rfl ?_
    exact hq)
  obtain ⟨cl7, Ar7, -, S7, -, G7, -⟩ := id f5
  have hi7 := inb_of (j := (f + (1 : Int32))) S7 (by rcases hf with rfl | rfl | rfl | rfl <;> decide)
  have st7 := fun tt => X4.caload hx (j := (f + (1 : Int32))) (v := (.int (own_at [d0, d1, d2, d3, d4, d5] (f + (1 : Int32))))) (by rw [e4]; exact Ar7.1) (State.isArrayOf_alike hZ.alike Ar7.2.1) Ar7.2.2 hi7 (G7.at hi7 (own_atv [d0, d1, d2, d3, d4, d5] (f + (1 : Int32)))) (g := (mkF m 12 #[.val (.ref b), .val (.int (f + (1 : Int32))), .val (.ref t), .val (.int (1 : Int32)), .val (.int (3 : Int32)), .val (.int (1 : Int32)), .val (.int (own_at [d0, d1, d2, d3, d4, d5] f))] [(.int (f + (1 : Int32))), (.ref b)])) rfl rfl (hb hby d_jdk_52_method_21_code_12) tt
  have k7 : To p.tables e below S0 (T4.setTop (mkF m 13 #[.val (.ref b), .val (.int (f + (1 : Int32))), .val (.ref t), .val (.int (1 : Int32)), .val (.int (3 : Int32)), .val (.int (1 : Int32)), .val (.int (own_at [d0, d1, d2, d3, d4, d5] f))] [(.int (own_at [d0, d1, d2, d3, d4, d5] (f + (1 : Int32))))])) := fun tt hq => k6 tt (st7 tt hq)
  have k8 : To p.tables e below S0 (T4.setTop (mkF m 31 #[.val (.ref b), .val (.int (f + (1 : Int32))), .val (.ref t), .val (.int (1 : Int32)), .val (.int (3 : Int32)), .val (.int (1 : Int32)), .val (.int (own_at [d0, d1, d2, d3, d4, d5] (f + (1 : Int32))))] [(.int ((own_at [d0, d1, d2, d3, d4, d5] (f + (1 : Int32))).toInt8.toInt32)), (.int (1 : Int32)), (.ref t)])) := fun tt hq => k7 tt (by
    refine XS.istore X4.here hx rfl (hb hby d_jdk_52_method_21_code_13) rfl (l' := #[.val (.ref b), .val (.int (f + (1 : Int32))), .val (.ref t), .val (.int (1 : Int32)), .val (.int (3 : Int32)), .val (.int (1 : Int32)), .val (.int (own_at [d0, d1, d2, d3, d4, d5] (f + (1 : Int32))))]) rfl ?_
    refine XS.iload X4.here hx rfl (hb hby d_jdk_52_method_21_code_15) rfl ?_
    refine XS.sipush X4.here hx rfl (hb hby d_jdk_52_method_21_code_17) ?_
    refine XS.icmpYes X4.here hx rfl (pc0 := 20) (pc' := 26) rfl (hb hby d_jdk_52_method_21_code_20) rfl (flt (hm (f + (1 : Int32))).2).2.2.2 (by decide) (by decide) ?_
    refine XS.aloadN X4.here hx rfl (hb hby d_jdk_52_method_21_code_26) rfl rfl ?_
    refine XS.iloadN X4.here hx rfl (hb hby d_jdk_52_method_21_code_27) rfl ?_
    refine XS.iload X4.here hx rfl (hb hby d_jdk_52_method_21_code_28) rfl ?_
    refine XS.i2b X4.here hx rfl (hb hby d_jdk_52_method_21_code_30) rfl ?_
    exact hq)
  obtain ⟨cl9, Ar9, q9, S9, M9, G9, J9⟩ := id V4
  obtain ⟨T9, h9, X9, e9, W9, st9⟩ := stB X4 hx hZ e4 Ar9 (j := (1 : Int32)) (inb_of S9 ⟨by decide, by decide⟩) (g := (mkF m 31 #[.val (.ref b), .val (.int (f + (1 : Int32))), .val (.ref t), .val (.int (1 : Int32)), .val (.int (3 : Int32)), .val (.int (1 : Int32)), .val (.int (own_at [d0, d1, d2, d3, d4, d5] (f + (1 : Int32))))] [(.int ((own_at [d0, d1, d2, d3, d4, d5] (f + (1 : Int32))).toInt8.toInt32)), (.int (1 : Int32)), (.ref t)])) rfl rfl (hb hby d_jdk_52_method_21_code_31)
  have k9 : To p.tables e below S0 (T9.setTop (mkF m 32 #[.val (.ref b), .val (.int (f + (1 : Int32))), .val (.ref t), .val (.int (1 : Int32)), .val (.int (3 : Int32)), .val (.int (1 : Int32)), .val (.int (own_at [d0, d1, d2, d3, d4, d5] (f + (1 : Int32))))] [])) := fun tt hq => k8 tt (st9 tt hq)
  have z9 : h9.size = h4.size := W9.size
  have V9 : Arv Z h9 t kt .byte (3 : Int32) [(.int (nar .byte ((own_at [d0, d1, d2, d3, d4, d5] f).toInt8.toInt32))), (.int (nar .byte ((own_at [d0, d1, d2, d3, d4, d5] (f + (1 : Int32))).toInt8.toInt32))), (.int (0 : Int32))] (.int (0 : Int32)) := Arv.set Ar9 q9 S9 M9 G9 J9 (fits_nar_byte _) W9 1 rfl (Nat.le_of_ble_eq_true rfl)
  have N9 := Fr.snoc X9 N4 (by omega : n0 ≤ t)
  have f10 : Arv Z h9 b kb .char (6 : Int32) [(.int d0), (.int d1), (.int d2), (.int d3), (.int d4), (.int d5)] (.int (0 : Int32)) := (f5.other W9 (adr_ne (by omega)))
  have k11 : To p.tables e below S0 (T9.setTop (mkF m 12 #[.val (.ref b), .val (.int ((f + (1 : Int32)) + (1 : Int32))), .val (.ref t), .val (.int (2 : Int32)), .val (.int (3 : Int32)), .val (.int (2 : Int32)), .val (.int (own_at [d0, d1, d2, d3, d4, d5] (f + (1 : Int32))))] [(.int ((f + (1 : Int32)) + (1 : Int32))), (.ref b)])) := fun tt hq => k9 tt (by
    refine XS.iinc X9.here hx rfl (hb hby d_jdk_52_method_21_code_32) rfl (l' := #[.val (.ref b), .val (.int ((f + (1 : Int32)) + (1 : Int32))), .val (.ref t), .val (.int (1 : Int32)), .val (.int (3 : Int32)), .val (.int (1 : Int32)), .val (.int (own_at [d0, d1, d2, d3, d4, d5] (f + (1 : Int32))))]) rfl ?_
    refine XS.iinc X9.here hx rfl (hb hby d_jdk_52_method_21_code_35) rfl (l' := #[.val (.ref b), .val (.int ((f + (1 : Int32)) + (1 : Int32))), .val (.ref t), .val (.int (2 : Int32)), .val (.int (3 : Int32)), .val (.int (1 : Int32)), .val (.int (own_at [d0, d1, d2, d3, d4, d5] (f + (1 : Int32))))]) rfl ?_
    refine XS.iinc X9.here hx rfl (hb hby d_jdk_52_method_21_code_38) rfl (l' := #[.val (.ref b), .val (.int ((f + (1 : Int32)) + (1 : Int32))), .val (.ref t), .val (.int (2 : Int32)), .val (.int (3 : Int32)), .val (.int (2 : Int32)), .val (.int (own_at [d0, d1, d2, d3, d4, d5] (f + (1 : Int32))))]) rfl ?_
    refine XS.goto X9.here hx rfl (pc0 := 41) (pc' := 3) rfl (hb hby d_jdk_52_method_21_code_41) (by decide) (by decide) ?_
    refine XS.iload X9.here hx rfl (hb hby d_jdk_52_method_21_code_3) rfl ?_
    refine XS.iload X9.here hx rfl (hb hby d_jdk_52_method_21_code_5) rfl ?_
    refine XS.icmpNo X9.here hx rfl (hb hby d_jdk_52_method_21_code_7) rfl (tlt (by decide)).2.1 ?_
    refine XS.aloadN X9.here hx rfl (hb hby d_jdk_52_method_21_code_10) rfl rfl ?_
    refine XS.iloadN X9.here hx rfl (hb hby d_jdk_52_method_21_code_11) rfl ?_
    exact hq)
  obtain ⟨cl12, Ar12, -, S12, -, G12, -⟩ := id f10
  have hi12 := inb_of (j := ((f + (1 : Int32)) + (1 : Int32))) S12 (by rcases hf with rfl | rfl | rfl | rfl <;> decide)
  have st12 := fun tt => X9.caload hx (j := ((f + (1 : Int32)) + (1 : Int32))) (v := (.int (own_at [d0, d1, d2, d3, d4, d5] ((f + (1 : Int32)) + (1 : Int32))))) (by rw [e9]; exact Ar12.1) (State.isArrayOf_alike hZ.alike Ar12.2.1) Ar12.2.2 hi12 (G12.at hi12 (own_atv [d0, d1, d2, d3, d4, d5] ((f + (1 : Int32)) + (1 : Int32)))) (g := (mkF m 12 #[.val (.ref b), .val (.int ((f + (1 : Int32)) + (1 : Int32))), .val (.ref t), .val (.int (2 : Int32)), .val (.int (3 : Int32)), .val (.int (2 : Int32)), .val (.int (own_at [d0, d1, d2, d3, d4, d5] (f + (1 : Int32))))] [(.int ((f + (1 : Int32)) + (1 : Int32))), (.ref b)])) rfl rfl (hb hby d_jdk_52_method_21_code_12) tt
  have k12 : To p.tables e below S0 (T9.setTop (mkF m 13 #[.val (.ref b), .val (.int ((f + (1 : Int32)) + (1 : Int32))), .val (.ref t), .val (.int (2 : Int32)), .val (.int (3 : Int32)), .val (.int (2 : Int32)), .val (.int (own_at [d0, d1, d2, d3, d4, d5] (f + (1 : Int32))))] [(.int (own_at [d0, d1, d2, d3, d4, d5] ((f + (1 : Int32)) + (1 : Int32))))])) := fun tt hq => k11 tt (st12 tt hq)
  have k13 : To p.tables e below S0 (T9.setTop (mkF m 31 #[.val (.ref b), .val (.int ((f + (1 : Int32)) + (1 : Int32))), .val (.ref t), .val (.int (2 : Int32)), .val (.int (3 : Int32)), .val (.int (2 : Int32)), .val (.int (own_at [d0, d1, d2, d3, d4, d5] ((f + (1 : Int32)) + (1 : Int32))))] [(.int ((own_at [d0, d1, d2, d3, d4, d5] ((f + (1 : Int32)) + (1 : Int32))).toInt8.toInt32)), (.int (2 : Int32)), (.ref t)])) := fun tt hq => k12 tt (by
    refine XS.istore X9.here hx rfl (hb hby d_jdk_52_method_21_code_13) rfl (l' := #[.val (.ref b), .val (.int ((f + (1 : Int32)) + (1 : Int32))), .val (.ref t), .val (.int (2 : Int32)), .val (.int (3 : Int32)), .val (.int (2 : Int32)), .val (.int (own_at [d0, d1, d2, d3, d4, d5] ((f + (1 : Int32)) + (1 : Int32))))]) rfl ?_
    refine XS.iload X9.here hx rfl (hb hby d_jdk_52_method_21_code_15) rfl ?_
    refine XS.sipush X9.here hx rfl (hb hby d_jdk_52_method_21_code_17) ?_
    refine XS.icmpYes X9.here hx rfl (pc0 := 20) (pc' := 26) rfl (hb hby d_jdk_52_method_21_code_20) rfl (flt (hm ((f + (1 : Int32)) + (1 : Int32))).2).2.2.2 (by decide) (by decide) ?_
    refine XS.aloadN X9.here hx rfl (hb hby d_jdk_52_method_21_code_26) rfl rfl ?_
    refine XS.iloadN X9.here hx rfl (hb hby d_jdk_52_method_21_code_27) rfl ?_
    refine XS.iload X9.here hx rfl (hb hby d_jdk_52_method_21_code_28) rfl ?_
    refine XS.i2b X9.here hx rfl (hb hby d_jdk_52_method_21_code_30) rfl ?_
    exact hq)
  obtain ⟨cl14, Ar14, q14, S14, M14, G14, J14⟩ := id V9
  obtain ⟨T14, h14, X14, e14, W14, st14⟩ := stB X9 hx hZ e9 Ar14 (j := (2 : Int32)) (inb_of S14 ⟨by decide, by decide⟩) (g := (mkF m 31 #[.val (.ref b), .val (.int ((f + (1 : Int32)) + (1 : Int32))), .val (.ref t), .val (.int (2 : Int32)), .val (.int (3 : Int32)), .val (.int (2 : Int32)), .val (.int (own_at [d0, d1, d2, d3, d4, d5] ((f + (1 : Int32)) + (1 : Int32))))] [(.int ((own_at [d0, d1, d2, d3, d4, d5] ((f + (1 : Int32)) + (1 : Int32))).toInt8.toInt32)), (.int (2 : Int32)), (.ref t)])) rfl rfl (hb hby d_jdk_52_method_21_code_31)
  have k14 : To p.tables e below S0 (T14.setTop (mkF m 32 #[.val (.ref b), .val (.int ((f + (1 : Int32)) + (1 : Int32))), .val (.ref t), .val (.int (2 : Int32)), .val (.int (3 : Int32)), .val (.int (2 : Int32)), .val (.int (own_at [d0, d1, d2, d3, d4, d5] ((f + (1 : Int32)) + (1 : Int32))))] [])) := fun tt hq => k13 tt (st14 tt hq)
  have z14 : h14.size = h9.size := W14.size
  have V14 : Arv Z h14 t kt .byte (3 : Int32) [(.int (nar .byte ((own_at [d0, d1, d2, d3, d4, d5] f).toInt8.toInt32))), (.int (nar .byte ((own_at [d0, d1, d2, d3, d4, d5] (f + (1 : Int32))).toInt8.toInt32))), (.int (nar .byte ((own_at [d0, d1, d2, d3, d4, d5] ((f + (1 : Int32)) + (1 : Int32))).toInt8.toInt32)))] (.int (0 : Int32)) := Arv.set Ar14 q14 S14 M14 G14 J14 (fits_nar_byte _) W14 2 rfl (Nat.le_of_ble_eq_true rfl)
  have N14 := Fr.snoc X14 N9 (by omega : n0 ≤ t)
  have k15 : To p.tables e below S0 (T14.setTop (mkF m 46 #[.val (.ref b), .val (.int (((f + (1 : Int32)) + (1 : Int32)) + (1 : Int32))), .val (.ref t), .val (.int (3 : Int32)), .val (.int (3 : Int32)), .val (.int (3 : Int32)), .val (.int (own_at [d0, d1, d2, d3, d4, d5] ((f + (1 : Int32)) + (1 : Int32))))] [(.int (3 : Int32))])) := fun tt hq => k14 tt (by
    refine XS.iinc X14.here hx rfl (hb hby d_jdk_52_method_21_code_32) rfl (l' := #[.val (.ref b), .val (.int (((f + (1 : Int32)) + (1 : Int32)) + (1 : Int32))), .val (.ref t), .val (.int (2 : Int32)), .val (.int (3 : Int32)), .val (.int (2 : Int32)), .val (.int (own_at [d0, d1, d2, d3, d4, d5] ((f + (1 : Int32)) + (1 : Int32))))]) rfl ?_
    refine XS.iinc X14.here hx rfl (hb hby d_jdk_52_method_21_code_35) rfl (l' := #[.val (.ref b), .val (.int (((f + (1 : Int32)) + (1 : Int32)) + (1 : Int32))), .val (.ref t), .val (.int (3 : Int32)), .val (.int (3 : Int32)), .val (.int (2 : Int32)), .val (.int (own_at [d0, d1, d2, d3, d4, d5] ((f + (1 : Int32)) + (1 : Int32))))]) rfl ?_
    refine XS.iinc X14.here hx rfl (hb hby d_jdk_52_method_21_code_38) rfl (l' := #[.val (.ref b), .val (.int (((f + (1 : Int32)) + (1 : Int32)) + (1 : Int32))), .val (.ref t), .val (.int (3 : Int32)), .val (.int (3 : Int32)), .val (.int (3 : Int32)), .val (.int (own_at [d0, d1, d2, d3, d4, d5] ((f + (1 : Int32)) + (1 : Int32))))]) rfl ?_
    refine XS.goto X14.here hx rfl (pc0 := 41) (pc' := 3) rfl (hb hby d_jdk_52_method_21_code_41) (by decide) (by decide) ?_
    refine XS.iload X14.here hx rfl (hb hby d_jdk_52_method_21_code_3) rfl ?_
    refine XS.iload X14.here hx rfl (hb hby d_jdk_52_method_21_code_5) rfl ?_
    refine XS.icmpYes X14.here hx rfl (pc0 := 7) (pc' := 44) rfl (hb hby d_jdk_52_method_21_code_7) rfl (flt (by decide)).2.1 (by decide) (by decide) ?_
    refine XS.iload X14.here hx rfl (hb hby d_jdk_52_method_21_code_44) rfl ?_
    exact hq)
  have hE := e14
  refine retInt X14 hx hret hlk (by simp) rfl (hb hby d_jdk_52_method_21_code_46) k15 ?_ (by decide) (by decide)
  try rw [hE]
  exact ⟨rfl, N14, ((((Keep.refl h0 [t]).wr W4 (Or.inl (by simp))).wr W9 (Or.inl (by simp))).wr W14 (Or.inl (by simp))), V14⟩
set_option maxRecDepth 65536 in
set_option maxHeartbeats 40000000 in
theorem rm_c3_3 (l : Launch) (Z : State) (a0 : Array Value) (hw : ∀ d ∈ tables_1, d.before a0 Z = true) (b : Addr) (kb : ClassId) (f : Int32) (d0 : Int32) (d1 : Int32) (d2 : Int32) (d3 : Int32) (d4 : Int32) (d5 : Int32) (h0 : Heap) (n0 : Nat) (hn0 : n0 ≤ h0.size) (P0 : Arv Z h0 b kb .char (6 : Int32) [(.int d0), (.int d1), (.int d2), (.int d3), (.int d4), (.int d5)] (.int (0 : Int32))) (yb : @LT.lt Nat instLTNat b h0.size) (hf : f = (0 : Int32) ∨ f = (1 : Int32) ∨ f = (2 : Int32) ∨ f = (3 : Int32)) (hm : ∀ i : Int32, ¬ own_at [d0, d1, d2, d3, d4, d5] i < (0 : Int32) ∧ ¬ (255 : Int32) < own_at [d0, d1, d2, d3, d4, d5] i) :
    Con l Z (⟨"java/lang/StringUTF16", "compress", "([CII)[B"⟩ : MethodName) jdk_52_method_16_code 6 (some (.array .byte)) [] ({ frames := 1, cells := 1, slots := 3, locals := 18 } : Room) #[(.ref b), (.int f), (.int (3 : Int32))] h0 (fun v h L => ∃ (t : Addr) (k : ClassId), v = some (.ref t) ∧ Fr n0 L ∧ h0.size ≤ t ∧ Keep h0 h [] ∧ Arv Z h t k .byte (3 : Int32) [(.int (nar .byte ((own_at [d0, d1, d2, d3, d4, d5] f).toInt8.toInt32))), (.int (nar .byte ((own_at [d0, d1, d2, d3, d4, d5] (f + (1 : Int32))).toInt8.toInt32))), (.int (nar .byte ((own_at [d0, d1, d2, d3, d4, d5] ((f + (1 : Int32)) + (1 : Int32))).toInt8.toInt32)))] (.int (0 : Int32))) := by
  refine enter (Ls := #[.val (.ref b), .val (.int f), .val (.int (3 : Int32)), .unset, .unset, .unset]) (plainFor_of_name pn_5) (fun m => by exact entry_eq rfl) ?_
  intro p e s m below meth cd_ s₁ S0 hx hby hml hret hlk hnm hown hZ X0 e0 k0
  have N0 := Fr.nil n0
  have k1 : To p.tables e below S0 (s₁.setTop (mkF m 1 #[.val (.ref b), .val (.int f), .val (.int (3 : Int32)), .unset, .unset, .unset] [(.int (3 : Int32))])) := fun tt hq => k0 tt (by
    refine XS.iloadN X0.here hx rfl (hb hby d_jdk_52_method_16_code_0) rfl ?_
    exact hq)
  obtain ⟨T2, h2, c2, X2, e2, E2, A2, st2⟩ := newP X0 hx hZ (wq hw 74 rfl) e0 (g := (mkF m 1 #[.val (.ref b), .val (.int f), .val (.int (3 : Int32)), .unset, .unset, .unset] [(.int (3 : Int32))])) rfl (hb hby d_jdk_52_method_16_code_1) rfl (by decide) (cap := 3) (by decide) (by decide) (by decide) (by decide)
  obtain ⟨b2, g2⟩ : ∃ z, z = h0.size := ⟨_, rfl⟩
  rw [← g2] at A2 st2
  have k2 : To p.tables e below S0 (T2.setTop (mkF m 3 #[.val (.ref b), .val (.int f), .val (.int (3 : Int32)), .unset, .unset, .unset] [(.ref b2)])) := fun tt hq => k1 tt (st2 tt hq)
  have z2 : h0.size ≤ h2.size := E2.1
  have V2 : Arv Z h2 b2 c2 .byte (3 : Int32) [(.int (0 : Int32)), (.int (0 : Int32)), (.int (0 : Int32))] (.int (0 : Int32)) := (Arv.new A2 (by decide)).pad (pad_rep [] (.int (0 : Int32)) 3)
  have y2 : @LT.lt Nat instLTNat b2 h2.size := V2.lt
  have k3 : To p.tables e below S0 (T2.setTop (mkF m 9 #[.val (.ref b), .val (.int f), .val (.int (3 : Int32)), .val (.ref b2), .unset, .unset] [(.int (3 : Int32)), (.int (0 : Int32)), (.ref b2), (.int f), (.ref b)])) := fun tt hq => k2 tt (by
    refine XS.astoreN X2.here hx rfl (hb hby d_jdk_52_method_16_code_3) rfl rfl (l' := #[.val (.ref b), .val (.int f), .val (.int (3 : Int32)), .val (.ref b2), .unset, .unset]) rfl ?_
    refine XS.aloadN X2.here hx rfl (hb hby d_jdk_52_method_16_code_4) rfl rfl ?_
    refine XS.iloadN X2.here hx rfl (hb hby d_jdk_52_method_16_code_5) rfl ?_
    refine XS.aloadN X2.here hx rfl (hb hby d_jdk_52_method_16_code_6) rfl rfl ?_
    refine XS.iconst X2.here hx rfl (hb hby d_jdk_52_method_16_code_7) ?_
    refine XS.iloadN X2.here hx rfl (hb hby d_jdk_52_method_16_code_8) rfl ?_
    exact hq)
  have f4 : Arv Z h2 b kb .char (6 : Int32) [(.int d0), (.int d1), (.int d2), (.int d3), (.int d4), (.int d5)] (.int (0 : Int32)) := (P0.ext E2)
  obtain ⟨_, T5, L5, X5, ⟨rfl, Nq5, Kq5, V5⟩, k5a⟩ := callS' X2 hx hZ (y := (⟨"java/lang/StringUTF16", "compress", "([CI[BII)I"⟩ : MethodName)) hown (wq hw 75 rfl) (wq hw 76 rfl) (wq hw 72 rfl) (wq hw 77 rfl) (by decide) (backC (W := 0) (rm_c5_3 l Z a0 hw b kb b2 c2 f d0 d1 d2 d3 d4 d5 h2 n0 (by omega) f4 V2 (by omega) (by omega) hf hm) hZ (wq hw 77 rfl) (wq hw 72 rfl) (by decide) (by decide)) e2 (argsL := [(.ref b), (.int f), (.ref b2), (.int (0 : Int32)), (.int (3 : Int32))]) (rest := []) rfl rfl pd_13 rfl (by rw [hml]; rfl) (hb hby d_jdk_52_method_16_code_9) (Nat.le_of_eq rfl) (by decide) (by decide) k3
  have k5 : To p.tables e below S0 (T5.setTop (mkF m 12 #[.val (.ref b), .val (.int f), .val (.int (3 : Int32)), .val (.ref b2), .unset, .unset] [(.int (3 : Int32))])) := k5a
  have N5 := N0.app Nq5
  obtain ⟨h5, e5⟩ : ∃ z, T5.heap = z := ⟨_, rfl⟩
  rw [e5] at Kq5 V5
  have z5 : h2.size ≤ h5.size := Kq5.1
  have k6 : To p.tables e below S0 (T5.setTop (mkF m 58 #[.val (.ref b), .val (.int f), .val (.int (3 : Int32)), .val (.ref b2), .val (.int (3 : Int32)), .unset] [(.ref b2)])) := fun tt hq => k5 tt (by
    refine XS.istore X5.here hx rfl (hb hby d_jdk_52_method_16_code_12) rfl (l' := #[.val (.ref b), .val (.int f), .val (.int (3 : Int32)), .val (.ref b2), .val (.int (3 : Int32)), .unset]) rfl ?_
    refine XS.iload X5.here hx rfl (hb hby d_jdk_52_method_16_code_14) rfl ?_
    refine XS.iloadN X5.here hx rfl (hb hby d_jdk_52_method_16_code_16) rfl ?_
    refine XS.icmpYes X5.here hx rfl (pc0 := 17) (pc' := 57) rfl (hb hby d_jdk_52_method_16_code_17) rfl (teq (by decide)).1 (by decide) (by decide) ?_
    refine XS.aloadN X5.here hx rfl (hb hby d_jdk_52_method_16_code_57) rfl rfl ?_
    exact hq)
  have hE := e5
  refine retRef X5 hx hret hlk rfl rfl (hb hby d_jdk_52_method_16_code_58) k6 ?_ (by decide) (by decide)
  try rw [hE]
  exact ⟨b2, _, rfl, N5, (by omega), (((Keep.refl h0 []).ext E2).trans Kq5 (allS (Or.inr (by omega)) all0)), V5⟩
set_option maxRecDepth 65536 in
set_option maxHeartbeats 40000000 in
theorem rm_cl_3 (l : Launch) (Z : State) (a0 : Array Value) (hw : ∀ d ∈ tables_1, d.before a0 Z = true) (t : Addr) (kt : ClassId) (d0 : Int32) (d1 : Int32) (d2 : Int32) (h0 : Heap) (n0 : Nat) (hn0 : n0 ≤ h0.size) (P0 : Arv Z h0 t kt .byte (3 : Int32) [(.int d0), (.int d1), (.int d2)] (.int (0 : Int32))) :
    Con l Z (⟨"java/lang/StringUTF16", "coderFromArrayLen", "([BI)B"⟩ : MethodName) jdk_52_method_15_code 2 (some .byte) [] ({ frames := 0, cells := 0, slots := 0, locals := 0 } : Room) #[(.ref t), (.int (3 : Int32))] h0 (fun v h L => v = some (.int (0 : Int32)) ∧ Fr n0 L ∧ h = h0) := by
  refine enter (Ls := #[.val (.ref t), .val (.int (3 : Int32))]) (plainFor_of_name pn_5) (fun m => by exact entry_eq rfl) ?_
  intro p e s m below meth cd_ s₁ S0 hx hby hml hret hlk hnm hown hZ X0 e0 k0
  have N0 := Fr.nil n0
  have k1 : To p.tables e below S0 (s₁.setTop (mkF m 2 #[.val (.ref t), .val (.int (3 : Int32))] [(.ref t), (.int (3 : Int32))])) := fun tt hq => k0 tt (by
    refine XS.iloadN X0.here hx rfl (hb hby d_jdk_52_method_15_code_0) rfl ?_
    refine XS.aloadN X0.here hx rfl (hb hby d_jdk_52_method_15_code_1) rfl rfl ?_
    exact hq)
  obtain ⟨cl2, Ar2, -, S2, M2, -, -⟩ := id P0
  have st2 := fun tt => X0.arraylength hx (by rw [e0]; exact Ar2.1) (State.isArrayOf_alike hZ.alike Ar2.2.1) (g := (mkF m 2 #[.val (.ref t), .val (.int (3 : Int32))] [(.ref t), (.int (3 : Int32))])) rfl rfl (hb hby d_jdk_52_method_15_code_2) tt
  rw [len_of S2 M2] at st2
  have k2 : To p.tables e below S0 (s₁.setTop (mkF m 3 #[.val (.ref t), .val (.int (3 : Int32))] [(.int (3 : Int32)), (.int (3 : Int32))])) := fun tt hq => k1 tt (st2 tt hq)
  have k3 : To p.tables e below S0 (s₁.setTop (mkF m 8 #[.val (.ref t), .val (.int (3 : Int32))] [(.int (0 : Int32))])) := fun tt hq => k2 tt (by
    refine XS.isub X0.here hx rfl (hb hby d_jdk_52_method_15_code_3) rfl ?_
    refine XS.bipush X0.here hx rfl (hb hby d_jdk_52_method_15_code_4) ?_
    refine XS.iushr X0.here hx rfl (hb hby d_jdk_52_method_15_code_6) rfl ?_
    refine XS.i2b X0.here hx rfl (hb hby d_jdk_52_method_15_code_7) rfl ?_
    exact hq)
  have hE := e0
  refine retInt X0 hx hret hlk (by simp) rfl (hb hby d_jdk_52_method_15_code_8) k3 ?_ (by decide) (by decide)
  try rw [hE]
  exact ⟨rfl, N0, rfl⟩
set_option maxRecDepth 65536 in
set_option maxHeartbeats 40000000 in
theorem rm_n4_3 (l : Launch) (Z : State) (a0 : Array Value) (hw : ∀ d ∈ tables_1, d.before a0 Z = true) (zc : Int32) (a : Addr) (b : Addr) (kb : ClassId) (u1 : Value) (u2 : Value) (f : Int32) (d0 : Int32) (d1 : Int32) (d2 : Int32) (d3 : Int32) (d4 : Int32) (d5 : Int32) (h0 : Heap) (n0 : Nat) (hn0 : n0 ≤ h0.size) (S_c : Sta Z Z.heap "java/lang/String" "COMPACT_STRINGS" "Z" (.int zc)) (hzc : ¬ zc = (0 : Int32)) (O0 : Old Z n0 h0) (E0 : Exa Z h0 a "java/lang/String") (F1 : Fld Z h0 a "java/lang/String" "value" "[B" u1) (F2 : Fld Z h0 a "java/lang/String" "coder" "B" u2) (P0 : Arv Z h0 b kb .char (6 : Int32) [(.int d0), (.int d1), (.int d2), (.int d3), (.int d4), (.int d5)] (.int (0 : Int32))) (ga : n0 ≤ a) (ya : @LT.lt Nat instLTNat a h0.size) (yb : @LT.lt Nat instLTNat b h0.size) (nab : ¬ (@Eq Nat b a)) (hf : f = (0 : Int32) ∨ f = (1 : Int32) ∨ f = (2 : Int32) ∨ f = (3 : Int32)) (hm : ∀ i : Int32, ¬ own_at [d0, d1, d2, d3, d4, d5] i < (0 : Int32) ∧ ¬ (255 : Int32) < own_at [d0, d1, d2, d3, d4, d5] i) :
    Con l Z (⟨"java/lang/String", "<init>", "([CIILjava/lang/Void;)V"⟩ : MethodName) jdk_42_method_149_code 6 none [] ({ frames := 2, cells := 1, slots := 3, locals := 35 } : Room) #[(.ref a), (.ref b), (.int f), (.int (3 : Int32)), .null] h0 (fun v h L => v = none ∧ Fr n0 L ∧ Keep h0 h [a] ∧ ∃ (t : Addr) (k : ClassId), (@LT.lt Nat instLTNat t h.size) ∧ Exa Z h a "java/lang/String" ∧ Fld Z h a "java/lang/String" "value" "[B" (.ref t) ∧ Fld Z h a "java/lang/String" "coder" "B" (.int (0 : Int32)) ∧ Arv Z h t k .byte (3 : Int32) [(.int (nar .byte ((own_at [d0, d1, d2, d3, d4, d5] f).toInt8.toInt32))), (.int (nar .byte ((own_at [d0, d1, d2, d3, d4, d5] (f + (1 : Int32))).toInt8.toInt32))), (.int (nar .byte ((own_at [d0, d1, d2, d3, d4, d5] ((f + (1 : Int32)) + (1 : Int32))).toInt8.toInt32)))] (.int 0)) := by
  refine enter (Ls := #[.val (.ref a), .val (.ref b), .val (.int f), .val (.int (3 : Int32)), .val .null, .unset]) (plainFor_of_name pn_3) (fun m => by exact entry_eq rfl) ?_
  intro p e s m below meth cd_ s₁ S0 hx hby hml hret hlk hnm hown hZ X0 e0 k0
  have N0 := Fr.nil n0
  have k1 : To p.tables e below S0 (s₁.setTop (mkF m 1 #[.val (.ref a), .val (.ref b), .val (.int f), .val (.int (3 : Int32)), .val .null, .unset] [(.ref a)])) := fun tt hq => k0 tt (by
    refine XS.aloadN X0.here hx rfl (hb hby d_jdk_42_method_149_code_0) rfl rfl ?_
    exact hq)
  obtain ⟨T2, X2, e2, st2⟩ := initO X0 hx hZ hown (wq hw 68 rfl) (wq hw 14 rfl) (wq hw 15 rfl) e0 (g := (mkF m 1 #[.val (.ref a), .val (.ref b), .val (.int f), .val (.int (3 : Int32)), .val .null, .unset] [(.ref a)])) rfl (by rw [hml]; rfl) rfl (hb hby d_jdk_42_method_149_code_1) (by decide) (W := 0) (by show 2 * 0 + _ ≤ _; exact Nat.le_of_eq rfl) (by decide)
  have k2 : To p.tables e below S0 (T2.setTop (mkF m 4 #[.val (.ref a), .val (.ref b), .val (.int f), .val (.int (3 : Int32)), .val .null, .unset] [])) := fun tt hq => k1 tt (st2 tt hq)
  have k3 : To p.tables e below S0 (T2.setTop (mkF m 27 #[.val (.ref a), .val (.ref b), .val (.int f), .val (.int (3 : Int32)), .val .null, .unset] [])) := fun tt hq => k2 tt (by
    refine XS.iloadN X2.here hx rfl (hb hby d_jdk_42_method_149_code_4) rfl ?_
    refine XS.ifYes X2.here hx rfl (pc0 := 5) (pc' := 27) rfl (hb hby d_jdk_42_method_149_code_5) rfl ((if0 _ _).trans (feq (by decide)).2) (by decide) (by decide) ?_
    exact hq)
  obtain ⟨T4, X4, e4, st4⟩ := getS2 X2 hx hZ hown (host := "") (Or.inl (wq hw 69 rfl)) Via.refl e2 (staOld S_c O0) (g := (mkF m 27 #[.val (.ref a), .val (.ref b), .val (.int f), .val (.int (3 : Int32)), .val .null, .unset] [])) rfl (hb hby d_jdk_42_method_149_code_27)
  have k4 : To p.tables e below S0 (T4.setTop (mkF m 30 #[.val (.ref a), .val (.ref b), .val (.int f), .val (.int (3 : Int32)), .val .null, .unset] [(.int zc)])) := fun tt hq => k3 tt (st4 tt hq)
  have k5 : To p.tables e below S0 (T4.setTop (mkF m 36 #[.val (.ref a), .val (.ref b), .val (.int f), .val (.int (3 : Int32)), .val .null, .unset] [(.int (3 : Int32)), (.int f), (.ref b)])) := fun tt hq => k4 tt (by
    refine XS.ifNo X4.here hx rfl (hb hby d_jdk_42_method_149_code_30) rfl ((if0 _ _).trans (feq hzc).1) ?_
    refine XS.aloadN X4.here hx rfl (hb hby d_jdk_42_method_149_code_33) rfl rfl ?_
    refine XS.iloadN X4.here hx rfl (hb hby d_jdk_42_method_149_code_34) rfl ?_
    refine XS.iloadN X4.here hx rfl (hb hby d_jdk_42_method_149_code_35) rfl ?_
    exact hq)
  obtain ⟨_, T6, L6, X6, ⟨t6, kt6, rfl, Nq6, gt6, Kq6, V6⟩, k6a⟩ := callS' X4 hx hZ (y := (⟨"java/lang/StringUTF16", "compress", "([CII)[B"⟩ : MethodName)) hown (wq hw 70 rfl) (wq hw 71 rfl) (wq hw 72 rfl) (wq hw 73 rfl) (by decide) (backC (W := 0) (rm_c3_3 l Z a0 hw b kb f d0 d1 d2 d3 d4 d5 h0 n0 (by omega) P0 (by omega) hf hm) hZ (wq hw 73 rfl) (wq hw 72 rfl) (by decide) (by decide)) e4 (argsL := [(.ref b), (.int f), (.int (3 : Int32))]) (rest := []) rfl rfl pd_14 rfl (by rw [hml]; rfl) (hb hby d_jdk_42_method_149_code_36) (Nat.le_of_eq rfl) (by decide) (by decide) k5
  have k6 : To p.tables e below S0 (T6.setTop (mkF m 39 #[.val (.ref a), .val (.ref b), .val (.int f), .val (.int (3 : Int32)), .val .null, .unset] [(.ref t6)])) := k6a
  have N6 := N0.app Nq6
  obtain ⟨h6, e6⟩ : ∃ z, T6.heap = z := ⟨_, rfl⟩
  rw [e6] at Kq6 V6
  have z6 : h0.size ≤ h6.size := Kq6.1
  have y6 : @LT.lt Nat instLTNat t6 h6.size := V6.lt
  have k7 : To p.tables e below S0 (T6.setTop (mkF m 45 #[.val (.ref a), .val (.ref b), .val (.int f), .val (.int (3 : Int32)), .val .null, .val (.ref t6)] [(.int (3 : Int32)), (.ref t6), (.ref a)])) := fun tt hq => k6 tt (by
    refine XS.astore X6.here hx rfl (hb hby d_jdk_42_method_149_code_39) rfl rfl (l' := #[.val (.ref a), .val (.ref b), .val (.int f), .val (.int (3 : Int32)), .val .null, .val (.ref t6)]) rfl ?_
    refine XS.aloadN X6.here hx rfl (hb hby d_jdk_42_method_149_code_41) rfl rfl ?_
    refine XS.aload X6.here hx rfl (hb hby d_jdk_42_method_149_code_42) rfl rfl ?_
    refine XS.iloadN X6.here hx rfl (hb hby d_jdk_42_method_149_code_44) rfl ?_
    exact hq)
  obtain ⟨_, T8, L8, X8, ⟨rfl, Nq8, eq8⟩, k8a⟩ := callS' X6 hx hZ (y := (⟨"java/lang/StringUTF16", "coderFromArrayLen", "([BI)B"⟩ : MethodName)) hown (wq hw 78 rfl) (wq hw 79 rfl) (wq hw 72 rfl) (wq hw 80 rfl) (by decide) (backC (W := 1) (rm_cl_3 l Z a0 hw t6 kt6 (nar .byte ((own_at [d0, d1, d2, d3, d4, d5] f).toInt8.toInt32)) (nar .byte ((own_at [d0, d1, d2, d3, d4, d5] (f + (1 : Int32))).toInt8.toInt32)) (nar .byte ((own_at [d0, d1, d2, d3, d4, d5] ((f + (1 : Int32)) + (1 : Int32))).toInt8.toInt32)) h6 n0 (by omega) V6) hZ (wq hw 80 rfl) (wq hw 72 rfl) (by decide) (by decide)) e6 (argsL := [(.ref t6), (.int (3 : Int32))]) (rest := [(.ref a)]) rfl rfl pd_15 rfl (by rw [hml]; rfl) (hb hby d_jdk_42_method_149_code_45) (Nat.le_of_eq rfl) (by decide) (by decide) k7
  have k8 : To p.tables e below S0 (T8.setTop (mkF m 48 #[.val (.ref a), .val (.ref b), .val (.int f), .val (.int (3 : Int32)), .val .null, .val (.ref t6)] [(.int (0 : Int32)), (.ref a)])) := k8a
  have N8 := N6.app Nq8
  have e8 : T8.heap = h6 := eq8
  have f9 : Exa Z h6 a "java/lang/String" := (E0.keep Kq6)
  have f10 : Fld Z h6 a "java/lang/String" "coder" "B" u2 := (F2.keep Kq6 nin0)
  obtain ⟨T11, h11, X11, e11, W11, st11⟩ := putF X8 hx hZ hown (host := "") (Or.inl (wq hw 81 rfl)) Via.refl e8 f10 f9 (Or.inr ⟨(wq hw 82 rfl), rfl, hnm⟩) (wq hw 48 rfl) (ty := .byte) (by decide) rfl rfl (g := (mkF m 48 #[.val (.ref a), .val (.ref b), .val (.int f), .val (.int (3 : Int32)), .val .null, .val (.ref t6)] [(.int (0 : Int32)), (.ref a)])) rfl rfl (hb hby d_jdk_42_method_149_code_48)
  have k11 : To p.tables e below S0 (T11.setTop (mkF m 51 #[.val (.ref a), .val (.ref b), .val (.int f), .val (.int (3 : Int32)), .val .null, .val (.ref t6)] [])) := fun tt hq => k8 tt (st11 tt hq)
  have z11 : h11.size = h6.size := W11.size
  have F11 := f10.same W11
  have N11 := Fr.snoc X11 N8 (by omega : n0 ≤ a)
  have f12 : Exa Z h11 a "java/lang/String" := (f9.wr W11)
  have f13 : Fld Z h11 a "java/lang/String" "value" "[B" u1 := ((F1.keep Kq6 nin0).other W11 (Or.inr (slot_ne (Or.inr (wq hw 84 rfl)) (Or.inr (wq hw 82 rfl)) (by decide) (t := (.array .byte)) (t' := .byte) (by decide) (by decide))))
  have k14 : To p.tables e below S0 (T11.setTop (mkF m 54 #[.val (.ref a), .val (.ref b), .val (.int f), .val (.int (3 : Int32)), .val .null, .val (.ref t6)] [(.ref t6), (.ref a)])) := fun tt hq => k11 tt (by
    refine XS.aloadN X11.here hx rfl (hb hby d_jdk_42_method_149_code_51) rfl rfl ?_
    refine XS.aload X11.here hx rfl (hb hby d_jdk_42_method_149_code_52) rfl rfl ?_
    exact hq)
  obtain ⟨T15, h15, X15, e15, W15, st15⟩ := putF X11 hx hZ hown (host := "") (Or.inl (wq hw 83 rfl)) Via.refl e11 f13 f12 (Or.inr ⟨(wq hw 84 rfl), rfl, hnm⟩) (wq hw 48 rfl) (ty := (.array .byte)) (by decide) rfl rfl (g := (mkF m 54 #[.val (.ref a), .val (.ref b), .val (.int f), .val (.int (3 : Int32)), .val .null, .val (.ref t6)] [(.ref t6), (.ref a)])) rfl rfl (hb hby d_jdk_42_method_149_code_54)
  have k15 : To p.tables e below S0 (T15.setTop (mkF m 57 #[.val (.ref a), .val (.ref b), .val (.int f), .val (.int (3 : Int32)), .val .null, .val (.ref t6)] [])) := fun tt hq => k14 tt (st15 tt hq)
  have z15 : h15.size = h11.size := W15.size
  have F15 := f13.same W15
  have N15 := Fr.snoc X15 N11 (by omega : n0 ≤ a)
  have f16 : Arv Z h15 t6 kt6 .byte (3 : Int32) [(.int (nar .byte ((own_at [d0, d1, d2, d3, d4, d5] f).toInt8.toInt32))), (.int (nar .byte ((own_at [d0, d1, d2, d3, d4, d5] (f + (1 : Int32))).toInt8.toInt32))), (.int (nar .byte ((own_at [d0, d1, d2, d3, d4, d5] ((f + (1 : Int32)) + (1 : Int32))).toInt8.toInt32)))] (.int (0 : Int32)) := ((V6.other W11 (adr_ne (by omega))).other W15 (adr_ne (by omega)))
  have f17 : Exa Z h15 a "java/lang/String" := (f12.wr W15)
  have f18 : Fld Z h15 a "java/lang/String" "coder" "B" (.int (0 : Int32)) := (F11.other W15 (Or.inr (slot_ne (Or.inr (wq hw 82 rfl)) (Or.inr (wq hw 84 rfl)) (by decide) (t := .byte) (t' := (.array .byte)) (by decide) (by decide))))
  have hE := e15
  refine retVoid X15 hx hret hlk (hb hby d_jdk_42_method_149_code_57) k15 ?_ (by decide) (by decide)
  try rw [hE]
  exact ⟨rfl, N15, ((((Keep.refl h0 [a]).trans Kq6 all0).wr W11 (Or.inl (by simp))).wr W15 (Or.inl (by simp))), t6, kt6, f16.lt, f17, F15, f18, f16⟩
set_option maxRecDepth 65536 in
set_option maxHeartbeats 40000000 in
theorem rm_n3_3 (l : Launch) (Z : State) (a0 : Array Value) (hw : ∀ d ∈ tables_1, d.before a0 Z = true) (zc : Int32) (fm : Value) (a : Addr) (b : Addr) (kb : ClassId) (u1 : Value) (u2 : Value) (f : Int32) (d0 : Int32) (d1 : Int32) (d2 : Int32) (d3 : Int32) (d4 : Int32) (d5 : Int32) (h0 : Heap) (n0 : Nat) (hn0 : n0 ≤ h0.size) (S_c : Sta Z Z.heap "java/lang/String" "COMPACT_STRINGS" "Z" (.int zc)) (hzc : ¬ zc = (0 : Int32)) (S_f : Sta Z Z.heap "jdk/internal/util/Preconditions" "SIOOBE_FORMATTER" "Ljava/util/function/BiFunction;" fm) (hfm : fm.isRef = true) (O0 : Old Z n0 h0) (E0 : Exa Z h0 a "java/lang/String") (F1 : Fld Z h0 a "java/lang/String" "value" "[B" u1) (F2 : Fld Z h0 a "java/lang/String" "coder" "B" u2) (P0 : Arv Z h0 b kb .char (6 : Int32) [(.int d0), (.int d1), (.int d2), (.int d3), (.int d4), (.int d5)] (.int (0 : Int32))) (ga : n0 ≤ a) (ya : @LT.lt Nat instLTNat a h0.size) (yb : @LT.lt Nat instLTNat b h0.size) (nab : ¬ (@Eq Nat b a)) (hf : f = (0 : Int32) ∨ f = (1 : Int32) ∨ f = (2 : Int32) ∨ f = (3 : Int32)) (hm : ∀ i : Int32, ¬ own_at [d0, d1, d2, d3, d4, d5] i < (0 : Int32) ∧ ¬ (255 : Int32) < own_at [d0, d1, d2, d3, d4, d5] i) (q1 : ¬ (((6 : Int32) ||| f) ||| (3 : Int32)) < (0 : Int32)) (q2 : ¬ ((6 : Int32) - f) < (3 : Int32)) :
    Con l Z (⟨"java/lang/String", "<init>", "([CII)V"⟩ : MethodName) jdk_42_method_4_code 4 none [] ({ frames := 3, cells := 1, slots := 3, locals := 52 } : Room) #[(.ref a), (.ref b), (.int f), (.int (3 : Int32))] h0 (fun v h L => v = none ∧ Fr n0 L ∧ Keep h0 h [a] ∧ ∃ (t : Addr) (k : ClassId), (@LT.lt Nat instLTNat t h.size) ∧ Exa Z h a "java/lang/String" ∧ Fld Z h a "java/lang/String" "value" "[B" (.ref t) ∧ Fld Z h a "java/lang/String" "coder" "B" (.int (0 : Int32)) ∧ Arv Z h t k .byte (3 : Int32) [(.int (nar .byte ((own_at [d0, d1, d2, d3, d4, d5] f).toInt8.toInt32))), (.int (nar .byte ((own_at [d0, d1, d2, d3, d4, d5] (f + (1 : Int32))).toInt8.toInt32))), (.int (nar .byte ((own_at [d0, d1, d2, d3, d4, d5] ((f + (1 : Int32)) + (1 : Int32))).toInt8.toInt32)))] (.int 0)) := by
  refine enter (Ls := #[.val (.ref a), .val (.ref b), .val (.int f), .val (.int (3 : Int32))]) (plainFor_of_name pn_3) (fun m => by exact entry_eq rfl) ?_
  intro p e s m below meth cd_ s₁ S0 hx hby hml hret hlk hnm hown hZ X0 e0 k0
  have N0 := Fr.nil n0
  have k1 : To p.tables e below S0 (s₁.setTop (mkF m 7 #[.val (.ref a), .val (.ref b), .val (.int f), .val (.int (3 : Int32))] [(.int (3 : Int32)), (.int f), (.ref b), (.int (3 : Int32)), (.int f), (.ref b), (.ref a)])) := fun tt hq => k0 tt (by
    refine XS.aloadN X0.here hx rfl (hb hby d_jdk_42_method_4_code_0) rfl rfl ?_
    refine XS.aloadN X0.here hx rfl (hb hby d_jdk_42_method_4_code_1) rfl rfl ?_
    refine XS.iloadN X0.here hx rfl (hb hby d_jdk_42_method_4_code_2) rfl ?_
    refine XS.iloadN X0.here hx rfl (hb hby d_jdk_42_method_4_code_3) rfl ?_
    refine XS.aloadN X0.here hx rfl (hb hby d_jdk_42_method_4_code_4) rfl rfl ?_
    refine XS.iloadN X0.here hx rfl (hb hby d_jdk_42_method_4_code_5) rfl ?_
    refine XS.iloadN X0.here hx rfl (hb hby d_jdk_42_method_4_code_6) rfl ?_
    exact hq)
  obtain ⟨_, T2, L2, X2, ⟨rfl, Nq2, eq2⟩, k2a⟩ := callS' X0 hx hZ (y := (⟨"java/lang/String", "rangeCheck", "([CII)Ljava/lang/Void;"⟩ : MethodName)) hown (wq hw 53 rfl) (wq hw 54 rfl) (wq hw 49 rfl) (wq hw 55 rfl) (by decide) (backC (W := 4) (rm_rck l Z a0 hw fm b kb f (3 : Int32) d0 d1 d2 d3 d4 d5 h0 n0 (by omega) S_f hfm O0 P0 q1 q2) hZ (wq hw 55 rfl) (wq hw 49 rfl) (by decide) (by decide)) e0 (argsL := [(.ref b), (.int f), (.int (3 : Int32))]) (rest := [(.int (3 : Int32)), (.int f), (.ref b), (.ref a)]) rfl rfl pd_10 rfl (by rw [hml]; rfl) (hb hby d_jdk_42_method_4_code_7) (Nat.le_of_eq rfl) (by decide) (by decide) k1
  have k2 : To p.tables e below S0 (T2.setTop (mkF m 10 #[.val (.ref a), .val (.ref b), .val (.int f), .val (.int (3 : Int32))] [.null, (.int (3 : Int32)), (.int f), (.ref b), (.ref a)])) := k2a
  have N2 := N0.app Nq2
  have e2 : T2.heap = h0 := eq2
  obtain ⟨_, T3, L3, X3, ⟨rfl, Nq3, Kq3, t3, kt3, gt3, P30, P31, P32, P33⟩, k3a⟩ := callC' X2 hx hZ (y := (⟨"java/lang/String", "<init>", "([CIILjava/lang/Void;)V"⟩ : MethodName)) rfl hown (wq hw 64 rfl) (wq hw 65 rfl) (wq hw 67 rfl) (by decide) (backC (W := 0) (rm_n4_3 l Z a0 hw zc a b kb u1 u2 f d0 d1 d2 d3 d4 d5 h0 n0 (by omega) S_c hzc O0 E0 F1 F2 P0 (by omega) (by omega) (by omega) (by omega) hf hm) hZ (wq hw 67 rfl) (wq hw 49 rfl) (by decide) (by decide)) e2 (argsL := [(.ref b), (.int f), (.int (3 : Int32)), .null]) (rest := []) rfl rfl pd_11 rfl (by rw [hml]; rfl) (hb hby d_jdk_42_method_4_code_10) (Nat.le_of_eq rfl) (by decide) (by decide) k2
  have k3 : To p.tables e below S0 (T3.setTop (mkF m 13 #[.val (.ref a), .val (.ref b), .val (.int f), .val (.int (3 : Int32))] [])) := k3a
  have N3 := N2.app Nq3
  obtain ⟨h3, e3⟩ : ∃ z, T3.heap = z := ⟨_, rfl⟩
  rw [e3] at Kq3 gt3 P30 P31 P32 P33
  have z3 : h0.size ≤ h3.size := Kq3.1
  have hE := e3
  refine retVoid X3 hx hret hlk (hb hby d_jdk_42_method_4_code_13) k3 ?_ (by decide) (by decide)
  try rw [hE]
  exact ⟨rfl, N3, ((Keep.refl h0 [a]).trans Kq3 (allS (Or.inl (by simp)) all0)), t3, kt3, P33.lt, P30, P31, P32, P33⟩
set_option maxRecDepth 65536 in
set_option maxHeartbeats 40000000 in
theorem rm_ts_3 (l : Launch) (Z : State) (a0 : Array Value) (hw : ∀ d ∈ tables_1, d.before a0 Z = true) (zc : Int32) (fm : Value) (r : Addr) (b : Addr) (kb : ClassId) (f : Int32) (d0 : Int32) (d1 : Int32) (d2 : Int32) (d3 : Int32) (d4 : Int32) (d5 : Int32) (h0 : Heap) (n0 : Nat) (hn0 : n0 ≤ h0.size) (S_c : Sta Z Z.heap "java/lang/String" "COMPACT_STRINGS" "Z" (.int zc)) (hzc : ¬ zc = (0 : Int32)) (S_f : Sta Z Z.heap "jdk/internal/util/Preconditions" "SIOOBE_FORMATTER" "Ljava/util/function/BiFunction;" fm) (hfm : fm.isRef = true) (O0 : Old Z n0 h0) (R0 : Exa Z h0 r "strikebound/cli/InPlaceText") (R1 : Fld Z h0 r "strikebound/cli/InPlaceText" "chars" "[C" (.ref b)) (R2 : Fld Z h0 r "strikebound/cli/InPlaceText" "start" "I" (.int f)) (R3 : Fld Z h0 r "strikebound/cli/InPlaceText" "length" "I" (.int (3 : Int32))) (P0 : Arv Z h0 b kb .char (6 : Int32) [(.int d0), (.int d1), (.int d2), (.int d3), (.int d4), (.int d5)] (.int (0 : Int32))) (yb : @LT.lt Nat instLTNat b h0.size) (hf : f = (0 : Int32) ∨ f = (1 : Int32) ∨ f = (2 : Int32) ∨ f = (3 : Int32)) (hm : ∀ i : Int32, ¬ own_at [d0, d1, d2, d3, d4, d5] i < (0 : Int32) ∧ ¬ (255 : Int32) < own_at [d0, d1, d2, d3, d4, d5] i) (q1 : ¬ (((6 : Int32) ||| f) ||| (3 : Int32)) < (0 : Int32)) (q2 : ¬ ((6 : Int32) - f) < (3 : Int32)) :
    Con l Z (⟨"strikebound/cli/InPlaceText", "toString", "()Ljava/lang/String;"⟩ : MethodName) prog_26_method_8_code 1 (some (.object "java/lang/String")) [] ({ frames := 4, cells := 2, slots := 7, locals := 68 } : Room) #[(.ref r)] h0 (fun v h L => ∃ (c t : Addr) (k : ClassId), v = some (.ref c) ∧ Fr n0 L ∧ (@LT.lt Nat instLTNat c h.size) ∧ (@LT.lt Nat instLTNat t h.size) ∧ Keep h0 h [] ∧ Exa Z h c "java/lang/String" ∧ Fld Z h c "java/lang/String" "value" "[B" (.ref t) ∧ Fld Z h c "java/lang/String" "coder" "B" (.int (0 : Int32)) ∧ Arv Z h t k .byte (3 : Int32) [(.int (nar .byte ((own_at [d0, d1, d2, d3, d4, d5] f).toInt8.toInt32))), (.int (nar .byte ((own_at [d0, d1, d2, d3, d4, d5] (f + (1 : Int32))).toInt8.toInt32))), (.int (nar .byte ((own_at [d0, d1, d2, d3, d4, d5] ((f + (1 : Int32)) + (1 : Int32))).toInt8.toInt32)))] (.int 0)) := by
  refine enter (Ls := #[.val (.ref r)]) (plainFor_of_name pn_1) (fun m => by exact entry_eq rfl) ?_
  intro p e s m below meth cd_ s₁ S0 hx hby hml hret hlk hnm hown hZ X0 e0 k0
  have N0 := Fr.nil n0
  obtain ⟨T1, h1, X1, e1, E1, A1, D1, -, st1⟩ := newO X0 hx hZ hown (wq hw 47 rfl) (wq hw 48 rfl) (wq hw 49 rfl) e0 (g := (mkF m 0 #[.val (.ref r)] [])) rfl (hb hby d_prog_26_method_8_code_0) (by decide) (by decide)
  obtain ⟨b1, g1⟩ : ∃ z, z = h0.size := ⟨_, rfl⟩
  rw [← g1] at A1 D1 st1
  have k1 : To p.tables e below S0 (T1.setTop (mkF m 3 #[.val (.ref r)] [(.ref b1)])) := fun tt hq => k0 tt (st1 tt hq)
  have z1 : h0.size ≤ h1.size := E1.1
  have y1 : @LT.lt Nat instLTNat b1 h1.size := A1.lt
  have F1_coder : Fld Z h1 b1 "java/lang/String" "coder" "B" (.int (0 : Int32)) := D1 (Or.inr (wq hw 82 rfl)) (ty := .byte) (by decide)
  have F1_value : Fld Z h1 b1 "java/lang/String" "value" "[B" .null := D1 (Or.inr (wq hw 84 rfl)) (ty := (.array .byte)) (by decide)
  have f2 : Fld Z h1 r "strikebound/cli/InPlaceText" "chars" "[C" (.ref b) := (R1.ext E1)
  have k3 : To p.tables e below S0 (T1.setTop (mkF m 5 #[.val (.ref r)] [(.ref r), (.ref b1), (.ref b1)])) := fun tt hq => k1 tt (by
    refine XS.dup X1.here hx rfl (hb hby d_prog_26_method_8_code_3) rfl rfl ?_
    refine XS.aloadN X1.here hx rfl (hb hby d_prog_26_method_8_code_4) rfl rfl ?_
    exact hq)
  obtain ⟨T4, X4, e4, st4⟩ := getF X1 hx hZ hown (host := "") (Or.inl (wq hw 16 rfl)) Via.refl e1 f2 (g := (mkF m 5 #[.val (.ref r)] [(.ref r), (.ref b1), (.ref b1)])) rfl rfl (hb hby d_prog_26_method_8_code_5)
  have k4 : To p.tables e below S0 (T4.setTop (mkF m 8 #[.val (.ref r)] [(.ref b), (.ref b1), (.ref b1)])) := fun tt hq => k3 tt (st4 tt hq)
  have f5 : Fld Z h1 r "strikebound/cli/InPlaceText" "start" "I" (.int f) := (R2.ext E1)
  have k6 : To p.tables e below S0 (T4.setTop (mkF m 9 #[.val (.ref r)] [(.ref r), (.ref b), (.ref b1), (.ref b1)])) := fun tt hq => k4 tt (by
    refine XS.aloadN X4.here hx rfl (hb hby d_prog_26_method_8_code_8) rfl rfl ?_
    exact hq)
  obtain ⟨T7, X7, e7, st7⟩ := getF X4 hx hZ hown (host := "") (Or.inl (wq hw 23 rfl)) Via.refl e4 f5 (g := (mkF m 9 #[.val (.ref r)] [(.ref r), (.ref b), (.ref b1), (.ref b1)])) rfl rfl (hb hby d_prog_26_method_8_code_9)
  have k7 : To p.tables e below S0 (T7.setTop (mkF m 12 #[.val (.ref r)] [(.int f), (.ref b), (.ref b1), (.ref b1)])) := fun tt hq => k6 tt (st7 tt hq)
  have f8 : Fld Z h1 r "strikebound/cli/InPlaceText" "length" "I" (.int (3 : Int32)) := (R3.ext E1)
  have k9 : To p.tables e below S0 (T7.setTop (mkF m 13 #[.val (.ref r)] [(.ref r), (.int f), (.ref b), (.ref b1), (.ref b1)])) := fun tt hq => k7 tt (by
    refine XS.aloadN X7.here hx rfl (hb hby d_prog_26_method_8_code_12) rfl rfl ?_
    exact hq)
  obtain ⟨T10, X10, e10, st10⟩ := getF X7 hx hZ hown (host := "") (Or.inl (wq hw 25 rfl)) Via.refl e7 f8 (g := (mkF m 13 #[.val (.ref r)] [(.ref r), (.int f), (.ref b), (.ref b1), (.ref b1)])) rfl rfl (hb hby d_prog_26_method_8_code_13)
  have k10 : To p.tables e below S0 (T10.setTop (mkF m 16 #[.val (.ref r)] [(.int (3 : Int32)), (.int f), (.ref b), (.ref b1), (.ref b1)])) := fun tt hq => k9 tt (st10 tt hq)
  have f11 : Old Z n0 h1 := (O0.ext E1)
  have f12 : Arv Z h1 b kb .char (6 : Int32) [(.int d0), (.int d1), (.int d2), (.int d3), (.int d4), (.int d5)] (.int (0 : Int32)) := (P0.ext E1)
  obtain ⟨_, T13, L13, X13, ⟨rfl, Nq13, Kq13, t13, kt13, gt13, P130, P131, P132, P133⟩, k13a⟩ := callC' X10 hx hZ (y := (⟨"java/lang/String", "<init>", "([CII)V"⟩ : MethodName)) rfl hown (wq hw 50 rfl) (wq hw 51 rfl) (wq hw 52 rfl) (by decide) (backC (W := 1) (rm_n3_3 l Z a0 hw zc fm b1 b kb .null (.int (0 : Int32)) f d0 d1 d2 d3 d4 d5 h1 n0 (by omega) S_c hzc S_f hfm f11 A1 F1_value F1_coder f12 (by omega) (by omega) (by omega) (by omega) hf hm q1 q2) hZ (wq hw 52 rfl) (wq hw 49 rfl) (by decide) (by decide)) e10 (argsL := [(.ref b), (.int f), (.int (3 : Int32))]) (rest := [(.ref b1)]) rfl rfl pd_7 rfl (by rw [hml]; rfl) (hb hby d_prog_26_method_8_code_16) (Nat.le_of_eq rfl) (by decide) (by decide) k10
  have k13 : To p.tables e below S0 (T13.setTop (mkF m 19 #[.val (.ref r)] [(.ref b1)])) := k13a
  have N13 := N0.app Nq13
  obtain ⟨h13, e13⟩ : ∃ z, T13.heap = z := ⟨_, rfl⟩
  rw [e13] at Kq13 gt13 P130 P131 P132 P133
  have z13 : h1.size ≤ h13.size := Kq13.1
  have hE := e13
  refine retRef X13 hx hret hlk rfl rfl (hb hby d_prog_26_method_8_code_19) k13 ?_ (by decide) (by decide)
  try rw [hE]
  exact ⟨_, _, _, rfl, N13, P130.lt, P133.lt, (((Keep.refl h0 []).ext E1).trans Kq13 (allS (Or.inr (by omega)) all0)), P130, P131, P132, P133⟩
set_option maxRecDepth 65536 in
set_option maxHeartbeats 40000000 in
theorem rm_lcs3 (l : Launch) (Z : State) (a0 : Array Value) (hw : ∀ d ∈ tables_1, d.before a0 Z = true) (fm : Value) (t : Addr) (kt : ClassId) (c0 : Int32) (c1 : Int32) (c2 : Int32) (i : Int32) (h0 : Heap) (n0 : Nat) (hn0 : n0 ≤ h0.size) (S_f : Sta Z Z.heap "jdk/internal/util/Preconditions" "SIOOBE_FORMATTER" "Ljava/util/function/BiFunction;" fm) (hfm : fm.isRef = true) (O0 : Old Z n0 h0) (P0 : Arv Z h0 t kt .byte (3 : Int32) [(.int c0), (.int c1), (.int c2)] (.int (0 : Int32))) (hi0 : ¬ i < (0 : Int32)) (hi1 : i < (3 : Int32)) :
    Con l Z (⟨"java/lang/StringLatin1", "charAt", "([BI)C"⟩ : MethodName) jdk_43_method_2_code 2 (some .char) [] ({ frames := 2, cells := 0, slots := 0, locals := 27 } : Room) #[(.ref t), (.int i)] h0 (fun v h L => v = some (.int ((own_at [c0, c1, c2] i) &&& (255 : Int32))) ∧ Fr n0 L ∧ h = h0) := by
  refine enter (Ls := #[.val (.ref t), .val (.int i)]) (plainFor_of_name pn_6) (fun m => by exact entry_eq rfl) ?_
  intro p e s m below meth cd_ s₁ S0 hx hby hml hret hlk hnm hown hZ X0 e0 k0
  have N0 := Fr.nil n0
  have k1 : To p.tables e below S0 (s₁.setTop (mkF m 2 #[.val (.ref t), .val (.int i)] [(.ref t), (.int i)])) := fun tt hq => k0 tt (by
    refine XS.iloadN X0.here hx rfl (hb hby d_jdk_43_method_2_code_0) rfl ?_
    refine XS.aloadN X0.here hx rfl (hb hby d_jdk_43_method_2_code_1) rfl rfl ?_
    exact hq)
  obtain ⟨cl2, Ar2, -, S2, M2, -, -⟩ := id P0
  have st2 := fun tt => X0.arraylength hx (by rw [e0]; exact Ar2.1) (State.isArrayOf_alike hZ.alike Ar2.2.1) (g := (mkF m 2 #[.val (.ref t), .val (.int i)] [(.ref t), (.int i)])) rfl rfl (hb hby d_jdk_43_method_2_code_2) tt
  rw [len_of S2 M2] at st2
  have k2 : To p.tables e below S0 (s₁.setTop (mkF m 3 #[.val (.ref t), .val (.int i)] [(.int (3 : Int32)), (.int i)])) := fun tt hq => k1 tt (st2 tt hq)
  obtain ⟨_, T3, L3, X3, ⟨rfl, Nq3, eq3⟩, k3a⟩ := callS' X0 hx hZ (y := (⟨"java/lang/String", "checkIndex", "(II)V"⟩ : MethodName)) hown (wq hw 121 rfl) (wq hw 122 rfl) (wq hw 49 rfl) (wq hw 123 rfl) (by decide) (backC (W := 0) (rm_chk l Z a0 hw fm i (3 : Int32) h0 n0 (by omega) S_f hfm O0 hi0 hi1) hZ (wq hw 123 rfl) (wq hw 49 rfl) (by decide) (by decide)) e0 (argsL := [(.int i), (.int (3 : Int32))]) (rest := []) rfl rfl pd_18 rfl (by rw [hml]; rfl) (hb hby d_jdk_43_method_2_code_3) (Nat.le_of_eq rfl) (by decide) (by decide) k2
  have k3 : To p.tables e below S0 (T3.setTop (mkF m 6 #[.val (.ref t), .val (.int i)] [])) := k3a
  have N3 := N0.app Nq3
  have e3 : T3.heap = h0 := eq3
  have k4 : To p.tables e below S0 (T3.setTop (mkF m 8 #[.val (.ref t), .val (.int i)] [(.int i), (.ref t)])) := fun tt hq => k3 tt (by
    refine XS.aloadN X3.here hx rfl (hb hby d_jdk_43_method_2_code_6) rfl rfl ?_
    refine XS.iloadN X3.here hx rfl (hb hby d_jdk_43_method_2_code_7) rfl ?_
    exact hq)
  obtain ⟨cl5, Ar5, -, S5, -, G5, -⟩ := id P0
  have hi5 := inb_of (j := i) S5 (⟨hi0, hi1⟩)
  have st5 := fun tt => X3.baloadBytes hx (j := i) (v := (.int (own_at [c0, c1, c2] i))) (by rw [e3]; exact Ar5.1) (State.isArrayOf_alike hZ.alike Ar5.2.1) Ar5.2.2 hi5 (G5.at hi5 (own_atv [c0, c1, c2] i)) (g := (mkF m 8 #[.val (.ref t), .val (.int i)] [(.int i), (.ref t)])) rfl rfl (hb hby d_jdk_43_method_2_code_8) tt
  have k5 : To p.tables e below S0 (T3.setTop (mkF m 9 #[.val (.ref t), .val (.int i)] [(.int (own_at [c0, c1, c2] i))])) := fun tt hq => k4 tt (st5 tt hq)
  have k6 : To p.tables e below S0 (T3.setTop (mkF m 14 #[.val (.ref t), .val (.int i)] [(.int (((own_at [c0, c1, c2] i) &&& (255 : Int32)).toUInt32.toUInt16.toUInt32.toInt32))])) := fun tt hq => k5 tt (by
    refine XS.sipush X3.here hx rfl (hb hby d_jdk_43_method_2_code_9) ?_
    refine XS.iand X3.here hx rfl (hb hby d_jdk_43_method_2_code_12) rfl ?_
    refine XS.i2c X3.here hx rfl (hb hby d_jdk_43_method_2_code_13) rfl ?_
    exact hq)
  have k7 : To p.tables e below S0 (T3.setTop (mkF m 14 #[.val (.ref t), .val (.int i)] [(.int ((own_at [c0, c1, c2] i) &&& (255 : Int32)))])) := by have hq := k6; rw [i2c_mask] at hq; exact hq
  obtain ⟨v8, hv8⟩ : ∃ z : Int32, z = ((own_at [c0, c1, c2] i) &&& (255 : Int32)) := ⟨_, rfl⟩
  have k8 : To p.tables e below S0 (T3.setTop (mkF m 14 #[.val (.ref t), .val (.int i)] [(.int v8)])) := by rw [hv8]; exact k7
  have mv8 : ¬ v8 < (0 : Int32) ∧ ¬ (255 : Int32) < v8 := by rw [hv8]; exact own_m255 _
  have hE := e3
  refine retInt X3 hx hret hlk (by simp) (congrArg Value.int (own_narc mv8)) (hb hby d_jdk_43_method_2_code_14) k8 ?_ (by decide) (by decide)
  try rw [hE]
  exact ⟨by rw [hv8], N3, rfl⟩
set_option maxRecDepth 65536 in
set_option maxHeartbeats 40000000 in
theorem rm_cs3 (l : Launch) (Z : State) (a0 : Array Value) (hw : ∀ d ∈ tables_1, d.before a0 Z = true) (zc : Int32) (fm : Value) (a : Addr) (t : Addr) (kt : ClassId) (c0 : Int32) (c1 : Int32) (c2 : Int32) (i : Int32) (r : Int32) (h0 : Heap) (n0 : Nat) (hn0 : n0 ≤ h0.size) (S_c : Sta Z Z.heap "java/lang/String" "COMPACT_STRINGS" "Z" (.int zc)) (hzc : ¬ zc = (0 : Int32)) (S_f : Sta Z Z.heap "jdk/internal/util/Preconditions" "SIOOBE_FORMATTER" "Ljava/util/function/BiFunction;" fm) (hfm : fm.isRef = true) (O0 : Old Z n0 h0) (P0 : Exa Z h0 a "java/lang/String") (P1 : Fld Z h0 a "java/lang/String" "value" "[B" (.ref t)) (P2 : Fld Z h0 a "java/lang/String" "coder" "B" (.int (0 : Int32))) (P3 : Arv Z h0 t kt .byte (3 : Int32) [(.int c0), (.int c1), (.int c2)] (.int 0)) (hi0 : ¬ i < (0 : Int32)) (hi1 : i < (3 : Int32)) (hr : ((own_at [c0, c1, c2] i) &&& (255 : Int32)) = r) :
    Con l Z (⟨"java/lang/String", "charAt", "(I)C"⟩ : MethodName) jdk_42_method_56_code 2 (some .char) [] ({ frames := 3, cells := 0, slots := 0, locals := 40 } : Room) #[(.ref a), (.int i)] h0 (fun v h L => v = some (.int r) ∧ Fr n0 L ∧ h = h0) := by
  refine enter (Ls := #[.val (.ref a), .val (.int i)]) (plainFor_of_name pn_3) (fun m => by exact entry_eq rfl) ?_
  intro p e s m below meth cd_ s₁ S0 hx hby hml hret hlk hnm hown hZ X0 e0 k0
  have N0 := Fr.nil n0
  have k1 : To p.tables e below S0 (s₁.setTop (mkF m 1 #[.val (.ref a), .val (.int i)] [(.ref a)])) := fun tt hq => k0 tt (by
    refine XS.aloadN X0.here hx rfl (hb hby d_jdk_42_method_56_code_0) rfl rfl ?_
    exact hq)
  obtain ⟨_, T2, L2, X2, ⟨rfl, Nq2, eq2⟩, k2a⟩ := callV' X0 hx hZ (y := (⟨"java/lang/String", "isLatin1", "()Z"⟩ : MethodName)) (z := (⟨"java/lang/String", "isLatin1", "()Z"⟩ : MethodName)) hown (wq hw 112 rfl) (wq hw 113 rfl) (notFace_of_selects (args := #[]) (mvT hZ (wq hw 115 rfl))) (wq hw 115 rfl) (wq hw 114 rfl) (by decide) P0 (backC (W := 0) (rm_latin l Z a0 hw zc a h0 n0 (by omega) S_c hzc O0 P2) hZ (wq hw 116 rfl) (wq hw 49 rfl) (by decide) (by decide)) e0 (argsL := []) (rest := []) rfl rfl pd_17 rfl (by rw [hml]; rfl) (hb hby d_jdk_42_method_56_code_1) (Nat.le_of_eq rfl) (by decide) (by decide) k1
  have k2 : To p.tables e below S0 (T2.setTop (mkF m 4 #[.val (.ref a), .val (.int i)] [(.int (1 : Int32))])) := k2a
  have N2 := N0.app Nq2
  have e2 : T2.heap = h0 := eq2
  have k3 : To p.tables e below S0 (T2.setTop (mkF m 8 #[.val (.ref a), .val (.int i)] [(.ref a)])) := fun tt hq => k2 tt (by
    refine XS.ifNo X2.here hx rfl (hb hby d_jdk_42_method_56_code_4) rfl ((if0 _ _).trans (feq (by decide)).1) ?_
    refine XS.aloadN X2.here hx rfl (hb hby d_jdk_42_method_56_code_7) rfl rfl ?_
    exact hq)
  obtain ⟨T4, X4, e4, st4⟩ := getF X2 hx hZ hown (host := "") (Or.inl (wq hw 83 rfl)) Via.refl e2 P1 (g := (mkF m 8 #[.val (.ref a), .val (.int i)] [(.ref a)])) rfl rfl (hb hby d_jdk_42_method_56_code_8)
  have k4 : To p.tables e below S0 (T4.setTop (mkF m 11 #[.val (.ref a), .val (.int i)] [(.ref t)])) := fun tt hq => k3 tt (st4 tt hq)
  have k5 : To p.tables e below S0 (T4.setTop (mkF m 12 #[.val (.ref a), .val (.int i)] [(.int i), (.ref t)])) := fun tt hq => k4 tt (by
    refine XS.iloadN X4.here hx rfl (hb hby d_jdk_42_method_56_code_11) rfl ?_
    exact hq)
  obtain ⟨_, T6, L6, X6, ⟨rfl, Nq6, eq6⟩, k6a⟩ := callS' X4 hx hZ (y := (⟨"java/lang/StringLatin1", "charAt", "([BI)C"⟩ : MethodName)) hown (wq hw 117 rfl) (wq hw 118 rfl) (wq hw 119 rfl) (wq hw 120 rfl) (by decide) (backC (W := 0) (rm_lcs3 l Z a0 hw fm t kt c0 c1 c2 i h0 n0 (by omega) S_f hfm O0 P3 hi0 hi1) hZ (wq hw 120 rfl) (wq hw 119 rfl) (by decide) (by decide)) e4 (argsL := [(.ref t), (.int i)]) (rest := []) rfl rfl pd_19 rfl (by rw [hml]; rfl) (hb hby d_jdk_42_method_56_code_12) (Nat.le_of_eq rfl) (by decide) (by decide) k5
  have k6 : To p.tables e below S0 (T6.setTop (mkF m 15 #[.val (.ref a), .val (.int i)] [(.int ((own_at [c0, c1, c2] i) &&& (255 : Int32)))])) := k6a
  have N6 := N2.app Nq6
  have e6 : T6.heap = h0 := eq6
  have hE := e6
  refine retInt X6 hx hret hlk (by simp) (own_narrowc _) (hb hby d_jdk_42_method_56_code_15) k6 ?_ (by decide) (by decide)
  try rw [hE]
  exact ⟨by rw [hr], N6, rfl⟩
set_option maxRecDepth 65536 in
set_option maxHeartbeats 40000000 in
theorem rm_c5_4 (l : Launch) (Z : State) (a0 : Array Value) (hw : ∀ d ∈ tables_1, d.before a0 Z = true) (b : Addr) (kb : ClassId) (t : Addr) (kt : ClassId) (f : Int32) (d0 : Int32) (d1 : Int32) (d2 : Int32) (d3 : Int32) (d4 : Int32) (d5 : Int32) (h0 : Heap) (n0 : Nat) (hn0 : n0 ≤ h0.size) (P0 : Arv Z h0 b kb .char (6 : Int32) [(.int d0), (.int d1), (.int d2), (.int d3), (.int d4), (.int d5)] (.int (0 : Int32))) (P1 : Arv Z h0 t kt .byte (4 : Int32) [(.int (0 : Int32)), (.int (0 : Int32)), (.int (0 : Int32)), (.int (0 : Int32))] (.int (0 : Int32))) (ga : n0 ≤ t) (nbt : ¬ (@Eq Nat b t)) (hf : f = (0 : Int32) ∨ f = (1 : Int32) ∨ f = (2 : Int32)) (hm : ∀ i : Int32, ¬ own_at [d0, d1, d2, d3, d4, d5] i < (0 : Int32) ∧ ¬ (255 : Int32) < own_at [d0, d1, d2, d3, d4, d5] i) :
    Con l Z (⟨"java/lang/StringUTF16", "compress", "([CI[BII)I"⟩ : MethodName) jdk_52_method_21_code 7 (some .int) [] ({ frames := 0, cells := 0, slots := 0, locals := 0 } : Room) #[(.ref b), (.int f), (.ref t), (.int (0 : Int32)), (.int (4 : Int32))] h0 (fun v h L => v = some (.int (4 : Int32)) ∧ Fr n0 L ∧ Keep h0 h [t] ∧ Arv Z h t kt .byte (4 : Int32) [(.int (nar .byte ((own_at [d0, d1, d2, d3, d4, d5] f).toInt8.toInt32))), (.int (nar .byte ((own_at [d0, d1, d2, d3, d4, d5] (f + (1 : Int32))).toInt8.toInt32))), (.int (nar .byte ((own_at [d0, d1, d2, d3, d4, d5] ((f + (1 : Int32)) + (1 : Int32))).toInt8.toInt32))), (.int (nar .byte ((own_at [d0, d1, d2, d3, d4, d5] (((f + (1 : Int32)) + (1 : Int32)) + (1 : Int32))).toInt8.toInt32)))] (.int (0 : Int32))) := by
  refine enter (Ls := #[.val (.ref b), .val (.int f), .val (.ref t), .val (.int (0 : Int32)), .val (.int (4 : Int32)), .unset, .unset]) (plainFor_of_name pn_5) (fun m => by exact entry_eq rfl) ?_
  intro p e s m below meth cd_ s₁ S0 hx hby hml hret hlk hnm hown hZ X0 e0 k0
  have N0 := Fr.nil n0
  have k1 : To p.tables e below S0 (s₁.setTop (mkF m 12 #[.val (.ref b), .val (.int f), .val (.ref t), .val (.int (0 : Int32)), .val (.int (4 : Int32)), .val (.int (0 : Int32)), .unset] [(.int f), (.ref b)])) := fun tt hq => k0 tt (by
    refine XS.iconst X0.here hx rfl (hb hby d_jdk_52_method_21_code_0) ?_
    refine XS.istore X0.here hx rfl (hb hby d_jdk_52_method_21_code_1) rfl (l' := #[.val (.ref b), .val (.int f), .val (.ref t), .val (.int (0 : Int32)), .val (.int (4 : Int32)), .val (.int (0 : Int32)), .unset]) rfl ?_
    refine XS.iload X0.here hx rfl (hb hby d_jdk_52_method_21_code_3) rfl ?_
    refine XS.iload X0.here hx rfl (hb hby d_jdk_52_method_21_code_5) rfl ?_
    refine XS.icmpNo X0.here hx rfl (hb hby d_jdk_52_method_21_code_7) rfl (tlt (by decide)).2.1 ?_
    refine XS.aloadN X0.here hx rfl (hb hby d_jdk_52_method_21_code_10) rfl rfl ?_
    refine XS.iloadN X0.here hx rfl (hb hby d_jdk_52_method_21_code_11) rfl ?_
    exact hq)
  obtain ⟨cl2, Ar2, -, S2, -, G2, -⟩ := id P0
  have hi2 := inb_of (j := f) S2 (by rcases hf with rfl | rfl | rfl <;> decide)
  have st2 := fun tt => X0.caload hx (j := f) (v := (.int (own_at [d0, d1, d2, d3, d4, d5] f))) (by rw [e0]; exact Ar2.1) (State.isArrayOf_alike hZ.alike Ar2.2.1) Ar2.2.2 hi2 (G2.at hi2 (own_atv [d0, d1, d2, d3, d4, d5] f)) (g := (mkF m 12 #[.val (.ref b), .val (.int f), .val (.ref t), .val (.int (0 : Int32)), .val (.int (4 : Int32)), .val (.int (0 : Int32)), .unset] [(.int f), (.ref b)])) rfl rfl (hb hby d_jdk_52_method_21_code_12) tt
  have k2 : To p.tables e below S0 (s₁.setTop (mkF m 13 #[.val (.ref b), .val (.int f), .val (.ref t), .val (.int (0 : Int32)), .val (.int (4 : Int32)), .val (.int (0 : Int32)), .unset] [(.int (own_at [d0, d1, d2, d3, d4, d5] f))])) := fun tt hq => k1 tt (st2 tt hq)
  have k3 : To p.tables e below S0 (s₁.setTop (mkF m 31 #[.val (.ref b), .val (.int f), .val (.ref t), .val (.int (0 : Int32)), .val (.int (4 : Int32)), .val (.int (0 : Int32)), .val (.int (own_at [d0, d1, d2, d3, d4, d5] f))] [(.int ((own_at [d0, d1, d2, d3, d4, d5] f).toInt8.toInt32)), (.int (0 : Int32)), (.ref t)])) := fun tt hq => k2 tt (by
    refine XS.istore X0.here hx rfl (hb hby d_jdk_52_method_21_code_13) rfl (l' := #[.val (.ref b), .val (.int f), .val (.ref t), .val (.int (0 : Int32)), .val (.int (4 : Int32)), .val (.int (0 : Int32)), .val (.int (own_at [d0, d1, d2, d3, d4, d5] f))]) rfl ?_
    refine XS.iload X0.here hx rfl (hb hby d_jdk_52_method_21_code_15) rfl ?_
    refine XS.sipush X0.here hx rfl (hb hby d_jdk_52_method_21_code_17) ?_
    refine XS.icmpYes X0.here hx rfl (pc0 := 20) (pc' := 26) rfl (hb hby d_jdk_52_method_21_code_20) rfl (flt (hm f).2).2.2.2 (by decide) (by decide) ?_
    refine XS.aloadN X0.here hx rfl (hb hby d_jdk_52_method_21_code_26) rfl rfl ?_
    refine XS.iloadN X0.here hx rfl (hb hby d_jdk_52_method_21_code_27) rfl ?_
    refine XS.iload X0.here hx rfl (hb hby d_jdk_52_method_21_code_28) rfl ?_
    refine XS.i2b X0.here hx rfl (hb hby d_jdk_52_method_21_code_30) rfl ?_
    exact hq)
  obtain ⟨cl4, Ar4, q4, S4, M4, G4, J4⟩ := id P1
  obtain ⟨T4, h4, X4, e4, W4, st4⟩ := stB X0 hx hZ e0 Ar4 (j := (0 : Int32)) (inb_of S4 ⟨by decide, by decide⟩) (g := (mkF m 31 #[.val (.ref b), .val (.int f), .val (.ref t), .val (.int (0 : Int32)), .val (.int (4 : Int32)), .val (.int (0 : Int32)), .val (.int (own_at [d0, d1, d2, d3, d4, d5] f))] [(.int ((own_at [d0, d1, d2, d3, d4, d5] f).toInt8.toInt32)), (.int (0 : Int32)), (.ref t)])) rfl rfl (hb hby d_jdk_52_method_21_code_31)
  have k4 : To p.tables e below S0 (T4.setTop (mkF m 32 #[.val (.ref b), .val (.int f), .val (.ref t), .val (.int (0 : Int32)), .val (.int (4 : Int32)), .val (.int (0 : Int32)), .val (.int (own_at [d0, d1, d2, d3, d4, d5] f))] [])) := fun tt hq => k3 tt (st4 tt hq)
  have z4 : h4.size = h0.size := W4.size
  have V4 : Arv Z h4 t kt .byte (4 : Int32) [(.int (nar .byte ((own_at [d0, d1, d2, d3, d4, d5] f).toInt8.toInt32))), (.int (0 : Int32)), (.int (0 : Int32)), (.int (0 : Int32))] (.int (0 : Int32)) := Arv.set Ar4 q4 S4 M4 G4 J4 (fits_nar_byte _) W4 0 rfl (Nat.le_of_ble_eq_true rfl)
  have N4 := Fr.snoc X4 N0 (by omega : n0 ≤ t)
  have f5 : Arv Z h4 b kb .char (6 : Int32) [(.int d0), (.int d1), (.int d2), (.int d3), (.int d4), (.int d5)] (.int (0 : Int32)) := (P0.other W4 (adr_ne (by omega)))
  have k6 : To p.tables e below S0 (T4.setTop (mkF m 12 #[.val (.ref b), .val (.int (f + (1 : Int32))), .val (.ref t), .val (.int (1 : Int32)), .val (.int (4 : Int32)), .val (.int (1 : Int32)), .val (.int (own_at [d0, d1, d2, d3, d4, d5] f))] [(.int (f + (1 : Int32))), (.ref b)])) := fun tt hq => k4 tt (by
    refine XS.iinc X4.here hx rfl (hb hby d_jdk_52_method_21_code_32) rfl (l' := #[.val (.ref b), .val (.int (f + (1 : Int32))), .val (.ref t), .val (.int (0 : Int32)), .val (.int (4 : Int32)), .val (.int (0 : Int32)), .val (.int (own_at [d0, d1, d2, d3, d4, d5] f))]) rfl ?_
    refine XS.iinc X4.here hx rfl (hb hby d_jdk_52_method_21_code_35) rfl (l' := #[.val (.ref b), .val (.int (f + (1 : Int32))), .val (.ref t), .val (.int (1 : Int32)), .val (.int (4 : Int32)), .val (.int (0 : Int32)), .val (.int (own_at [d0, d1, d2, d3, d4, d5] f))]) rfl ?_
    refine XS.iinc X4.here hx rfl (hb hby d_jdk_52_method_21_code_38) rfl (l' := #[.val (.ref b), .val (.int (f + (1 : Int32))), .val (.ref t), .val (.int (1 : Int32)), .val (.int (4 : Int32)), .val (.int (1 : Int32)), .val (.int (own_at [d0, d1, d2, d3, d4, d5] f))]) rfl ?_
    refine XS.goto X4.here hx rfl (pc0 := 41) (pc' := 3) rfl (hb hby d_jdk_52_method_21_code_41) (by decide) (by decide) ?_
    refine XS.iload X4.here hx rfl (hb hby d_jdk_52_method_21_code_3) rfl ?_
    refine XS.iload X4.here hx rfl (hb hby d_jdk_52_method_21_code_5) rfl ?_
    refine XS.icmpNo X4.here hx rfl (hb hby d_jdk_52_method_21_code_7) rfl (tlt (by decide)).2.1 ?_
    refine XS.aloadN X4.here hx rfl (hb hby d_jdk_52_method_21_code_10) rfl rfl ?_
    refine XS.iloadN X4.here hx rfl (hb hby d_jdk_52_method_21_code_11) rfl ?_
    exact hq)
  obtain ⟨cl7, Ar7, -, S7, -, G7, -⟩ := id f5
  have hi7 := inb_of (j := (f + (1 : Int32))) S7 (by rcases hf with rfl | rfl | rfl <;> decide)
  have st7 := fun tt => X4.caload hx (j := (f + (1 : Int32))) (v := (.int (own_at [d0, d1, d2, d3, d4, d5] (f + (1 : Int32))))) (by rw [e4]; exact Ar7.1) (State.isArrayOf_alike hZ.alike Ar7.2.1) Ar7.2.2 hi7 (G7.at hi7 (own_atv [d0, d1, d2, d3, d4, d5] (f + (1 : Int32)))) (g := (mkF m 12 #[.val (.ref b), .val (.int (f + (1 : Int32))), .val (.ref t), .val (.int (1 : Int32)), .val (.int (4 : Int32)), .val (.int (1 : Int32)), .val (.int (own_at [d0, d1, d2, d3, d4, d5] f))] [(.int (f + (1 : Int32))), (.ref b)])) rfl rfl (hb hby d_jdk_52_method_21_code_12) tt
  have k7 : To p.tables e below S0 (T4.setTop (mkF m 13 #[.val (.ref b), .val (.int (f + (1 : Int32))), .val (.ref t), .val (.int (1 : Int32)), .val (.int (4 : Int32)), .val (.int (1 : Int32)), .val (.int (own_at [d0, d1, d2, d3, d4, d5] f))] [(.int (own_at [d0, d1, d2, d3, d4, d5] (f + (1 : Int32))))])) := fun tt hq => k6 tt (st7 tt hq)
  have k8 : To p.tables e below S0 (T4.setTop (mkF m 31 #[.val (.ref b), .val (.int (f + (1 : Int32))), .val (.ref t), .val (.int (1 : Int32)), .val (.int (4 : Int32)), .val (.int (1 : Int32)), .val (.int (own_at [d0, d1, d2, d3, d4, d5] (f + (1 : Int32))))] [(.int ((own_at [d0, d1, d2, d3, d4, d5] (f + (1 : Int32))).toInt8.toInt32)), (.int (1 : Int32)), (.ref t)])) := fun tt hq => k7 tt (by
    refine XS.istore X4.here hx rfl (hb hby d_jdk_52_method_21_code_13) rfl (l' := #[.val (.ref b), .val (.int (f + (1 : Int32))), .val (.ref t), .val (.int (1 : Int32)), .val (.int (4 : Int32)), .val (.int (1 : Int32)), .val (.int (own_at [d0, d1, d2, d3, d4, d5] (f + (1 : Int32))))]) rfl ?_
    refine XS.iload X4.here hx rfl (hb hby d_jdk_52_method_21_code_15) rfl ?_
    refine XS.sipush X4.here hx rfl (hb hby d_jdk_52_method_21_code_17) ?_
    refine XS.icmpYes X4.here hx rfl (pc0 := 20) (pc' := 26) rfl (hb hby d_jdk_52_method_21_code_20) rfl (flt (hm (f + (1 : Int32))).2).2.2.2 (by decide) (by decide) ?_
    refine XS.aloadN X4.here hx rfl (hb hby d_jdk_52_method_21_code_26) rfl rfl ?_
    refine XS.iloadN X4.here hx rfl (hb hby d_jdk_52_method_21_code_27) rfl ?_
    refine XS.iload X4.here hx rfl (hb hby d_jdk_52_method_21_code_28) rfl ?_
    refine XS.i2b X4.here hx rfl (hb hby d_jdk_52_method_21_code_30) rfl ?_
    exact hq)
  obtain ⟨cl9, Ar9, q9, S9, M9, G9, J9⟩ := id V4
  obtain ⟨T9, h9, X9, e9, W9, st9⟩ := stB X4 hx hZ e4 Ar9 (j := (1 : Int32)) (inb_of S9 ⟨by decide, by decide⟩) (g := (mkF m 31 #[.val (.ref b), .val (.int (f + (1 : Int32))), .val (.ref t), .val (.int (1 : Int32)), .val (.int (4 : Int32)), .val (.int (1 : Int32)), .val (.int (own_at [d0, d1, d2, d3, d4, d5] (f + (1 : Int32))))] [(.int ((own_at [d0, d1, d2, d3, d4, d5] (f + (1 : Int32))).toInt8.toInt32)), (.int (1 : Int32)), (.ref t)])) rfl rfl (hb hby d_jdk_52_method_21_code_31)
  have k9 : To p.tables e below S0 (T9.setTop (mkF m 32 #[.val (.ref b), .val (.int (f + (1 : Int32))), .val (.ref t), .val (.int (1 : Int32)), .val (.int (4 : Int32)), .val (.int (1 : Int32)), .val (.int (own_at [d0, d1, d2, d3, d4, d5] (f + (1 : Int32))))] [])) := fun tt hq => k8 tt (st9 tt hq)
  have z9 : h9.size = h4.size := W9.size
  have V9 : Arv Z h9 t kt .byte (4 : Int32) [(.int (nar .byte ((own_at [d0, d1, d2, d3, d4, d5] f).toInt8.toInt32))), (.int (nar .byte ((own_at [d0, d1, d2, d3, d4, d5] (f + (1 : Int32))).toInt8.toInt32))), (.int (0 : Int32)), (.int (0 : Int32))] (.int (0 : Int32)) := Arv.set Ar9 q9 S9 M9 G9 J9 (fits_nar_byte _) W9 1 rfl (Nat.le_of_ble_eq_true rfl)
  have N9 := Fr.snoc X9 N4 (by omega : n0 ≤ t)
  have f10 : Arv Z h9 b kb .char (6 : Int32) [(.int d0), (.int d1), (.int d2), (.int d3), (.int d4), (.int d5)] (.int (0 : Int32)) := (f5.other W9 (adr_ne (by omega)))
  have k11 : To p.tables e below S0 (T9.setTop (mkF m 12 #[.val (.ref b), .val (.int ((f + (1 : Int32)) + (1 : Int32))), .val (.ref t), .val (.int (2 : Int32)), .val (.int (4 : Int32)), .val (.int (2 : Int32)), .val (.int (own_at [d0, d1, d2, d3, d4, d5] (f + (1 : Int32))))] [(.int ((f + (1 : Int32)) + (1 : Int32))), (.ref b)])) := fun tt hq => k9 tt (by
    refine XS.iinc X9.here hx rfl (hb hby d_jdk_52_method_21_code_32) rfl (l' := #[.val (.ref b), .val (.int ((f + (1 : Int32)) + (1 : Int32))), .val (.ref t), .val (.int (1 : Int32)), .val (.int (4 : Int32)), .val (.int (1 : Int32)), .val (.int (own_at [d0, d1, d2, d3, d4, d5] (f + (1 : Int32))))]) rfl ?_
    refine XS.iinc X9.here hx rfl (hb hby d_jdk_52_method_21_code_35) rfl (l' := #[.val (.ref b), .val (.int ((f + (1 : Int32)) + (1 : Int32))), .val (.ref t), .val (.int (2 : Int32)), .val (.int (4 : Int32)), .val (.int (1 : Int32)), .val (.int (own_at [d0, d1, d2, d3, d4, d5] (f + (1 : Int32))))]) rfl ?_
    refine XS.iinc X9.here hx rfl (hb hby d_jdk_52_method_21_code_38) rfl (l' := #[.val (.ref b), .val (.int ((f + (1 : Int32)) + (1 : Int32))), .val (.ref t), .val (.int (2 : Int32)), .val (.int (4 : Int32)), .val (.int (2 : Int32)), .val (.int (own_at [d0, d1, d2, d3, d4, d5] (f + (1 : Int32))))]) rfl ?_
    refine XS.goto X9.here hx rfl (pc0 := 41) (pc' := 3) rfl (hb hby d_jdk_52_method_21_code_41) (by decide) (by decide) ?_
    refine XS.iload X9.here hx rfl (hb hby d_jdk_52_method_21_code_3) rfl ?_
    refine XS.iload X9.here hx rfl (hb hby d_jdk_52_method_21_code_5) rfl ?_
    refine XS.icmpNo X9.here hx rfl (hb hby d_jdk_52_method_21_code_7) rfl (tlt (by decide)).2.1 ?_
    refine XS.aloadN X9.here hx rfl (hb hby d_jdk_52_method_21_code_10) rfl rfl ?_
    refine XS.iloadN X9.here hx rfl (hb hby d_jdk_52_method_21_code_11) rfl ?_
    exact hq)
  obtain ⟨cl12, Ar12, -, S12, -, G12, -⟩ := id f10
  have hi12 := inb_of (j := ((f + (1 : Int32)) + (1 : Int32))) S12 (by rcases hf with rfl | rfl | rfl <;> decide)
  have st12 := fun tt => X9.caload hx (j := ((f + (1 : Int32)) + (1 : Int32))) (v := (.int (own_at [d0, d1, d2, d3, d4, d5] ((f + (1 : Int32)) + (1 : Int32))))) (by rw [e9]; exact Ar12.1) (State.isArrayOf_alike hZ.alike Ar12.2.1) Ar12.2.2 hi12 (G12.at hi12 (own_atv [d0, d1, d2, d3, d4, d5] ((f + (1 : Int32)) + (1 : Int32)))) (g := (mkF m 12 #[.val (.ref b), .val (.int ((f + (1 : Int32)) + (1 : Int32))), .val (.ref t), .val (.int (2 : Int32)), .val (.int (4 : Int32)), .val (.int (2 : Int32)), .val (.int (own_at [d0, d1, d2, d3, d4, d5] (f + (1 : Int32))))] [(.int ((f + (1 : Int32)) + (1 : Int32))), (.ref b)])) rfl rfl (hb hby d_jdk_52_method_21_code_12) tt
  have k12 : To p.tables e below S0 (T9.setTop (mkF m 13 #[.val (.ref b), .val (.int ((f + (1 : Int32)) + (1 : Int32))), .val (.ref t), .val (.int (2 : Int32)), .val (.int (4 : Int32)), .val (.int (2 : Int32)), .val (.int (own_at [d0, d1, d2, d3, d4, d5] (f + (1 : Int32))))] [(.int (own_at [d0, d1, d2, d3, d4, d5] ((f + (1 : Int32)) + (1 : Int32))))])) := fun tt hq => k11 tt (st12 tt hq)
  have k13 : To p.tables e below S0 (T9.setTop (mkF m 31 #[.val (.ref b), .val (.int ((f + (1 : Int32)) + (1 : Int32))), .val (.ref t), .val (.int (2 : Int32)), .val (.int (4 : Int32)), .val (.int (2 : Int32)), .val (.int (own_at [d0, d1, d2, d3, d4, d5] ((f + (1 : Int32)) + (1 : Int32))))] [(.int ((own_at [d0, d1, d2, d3, d4, d5] ((f + (1 : Int32)) + (1 : Int32))).toInt8.toInt32)), (.int (2 : Int32)), (.ref t)])) := fun tt hq => k12 tt (by
    refine XS.istore X9.here hx rfl (hb hby d_jdk_52_method_21_code_13) rfl (l' := #[.val (.ref b), .val (.int ((f + (1 : Int32)) + (1 : Int32))), .val (.ref t), .val (.int (2 : Int32)), .val (.int (4 : Int32)), .val (.int (2 : Int32)), .val (.int (own_at [d0, d1, d2, d3, d4, d5] ((f + (1 : Int32)) + (1 : Int32))))]) rfl ?_
    refine XS.iload X9.here hx rfl (hb hby d_jdk_52_method_21_code_15) rfl ?_
    refine XS.sipush X9.here hx rfl (hb hby d_jdk_52_method_21_code_17) ?_
    refine XS.icmpYes X9.here hx rfl (pc0 := 20) (pc' := 26) rfl (hb hby d_jdk_52_method_21_code_20) rfl (flt (hm ((f + (1 : Int32)) + (1 : Int32))).2).2.2.2 (by decide) (by decide) ?_
    refine XS.aloadN X9.here hx rfl (hb hby d_jdk_52_method_21_code_26) rfl rfl ?_
    refine XS.iloadN X9.here hx rfl (hb hby d_jdk_52_method_21_code_27) rfl ?_
    refine XS.iload X9.here hx rfl (hb hby d_jdk_52_method_21_code_28) rfl ?_
    refine XS.i2b X9.here hx rfl (hb hby d_jdk_52_method_21_code_30) rfl ?_
    exact hq)
  obtain ⟨cl14, Ar14, q14, S14, M14, G14, J14⟩ := id V9
  obtain ⟨T14, h14, X14, e14, W14, st14⟩ := stB X9 hx hZ e9 Ar14 (j := (2 : Int32)) (inb_of S14 ⟨by decide, by decide⟩) (g := (mkF m 31 #[.val (.ref b), .val (.int ((f + (1 : Int32)) + (1 : Int32))), .val (.ref t), .val (.int (2 : Int32)), .val (.int (4 : Int32)), .val (.int (2 : Int32)), .val (.int (own_at [d0, d1, d2, d3, d4, d5] ((f + (1 : Int32)) + (1 : Int32))))] [(.int ((own_at [d0, d1, d2, d3, d4, d5] ((f + (1 : Int32)) + (1 : Int32))).toInt8.toInt32)), (.int (2 : Int32)), (.ref t)])) rfl rfl (hb hby d_jdk_52_method_21_code_31)
  have k14 : To p.tables e below S0 (T14.setTop (mkF m 32 #[.val (.ref b), .val (.int ((f + (1 : Int32)) + (1 : Int32))), .val (.ref t), .val (.int (2 : Int32)), .val (.int (4 : Int32)), .val (.int (2 : Int32)), .val (.int (own_at [d0, d1, d2, d3, d4, d5] ((f + (1 : Int32)) + (1 : Int32))))] [])) := fun tt hq => k13 tt (st14 tt hq)
  have z14 : h14.size = h9.size := W14.size
  have V14 : Arv Z h14 t kt .byte (4 : Int32) [(.int (nar .byte ((own_at [d0, d1, d2, d3, d4, d5] f).toInt8.toInt32))), (.int (nar .byte ((own_at [d0, d1, d2, d3, d4, d5] (f + (1 : Int32))).toInt8.toInt32))), (.int (nar .byte ((own_at [d0, d1, d2, d3, d4, d5] ((f + (1 : Int32)) + (1 : Int32))).toInt8.toInt32))), (.int (0 : Int32))] (.int (0 : Int32)) := Arv.set Ar14 q14 S14 M14 G14 J14 (fits_nar_byte _) W14 2 rfl (Nat.le_of_ble_eq_true rfl)
  have N14 := Fr.snoc X14 N9 (by omega : n0 ≤ t)
  have f15 : Arv Z h14 b kb .char (6 : Int32) [(.int d0), (.int d1), (.int d2), (.int d3), (.int d4), (.int d5)] (.int (0 : Int32)) := (f10.other W14 (adr_ne (by omega)))
  have k16 : To p.tables e below S0 (T14.setTop (mkF m 12 #[.val (.ref b), .val (.int (((f + (1 : Int32)) + (1 : Int32)) + (1 : Int32))), .val (.ref t), .val (.int (3 : Int32)), .val (.int (4 : Int32)), .val (.int (3 : Int32)), .val (.int (own_at [d0, d1, d2, d3, d4, d5] ((f + (1 : Int32)) + (1 : Int32))))] [(.int (((f + (1 : Int32)) + (1 : Int32)) + (1 : Int32))), (.ref b)])) := fun tt hq => k14 tt (by
    refine XS.iinc X14.here hx rfl (hb hby d_jdk_52_method_21_code_32) rfl (l' := #[.val (.ref b), .val (.int (((f + (1 : Int32)) + (1 : Int32)) + (1 : Int32))), .val (.ref t), .val (.int (2 : Int32)), .val (.int (4 : Int32)), .val (.int (2 : Int32)), .val (.int (own_at [d0, d1, d2, d3, d4, d5] ((f + (1 : Int32)) + (1 : Int32))))]) rfl ?_
    refine XS.iinc X14.here hx rfl (hb hby d_jdk_52_method_21_code_35) rfl (l' := #[.val (.ref b), .val (.int (((f + (1 : Int32)) + (1 : Int32)) + (1 : Int32))), .val (.ref t), .val (.int (3 : Int32)), .val (.int (4 : Int32)), .val (.int (2 : Int32)), .val (.int (own_at [d0, d1, d2, d3, d4, d5] ((f + (1 : Int32)) + (1 : Int32))))]) rfl ?_
    refine XS.iinc X14.here hx rfl (hb hby d_jdk_52_method_21_code_38) rfl (l' := #[.val (.ref b), .val (.int (((f + (1 : Int32)) + (1 : Int32)) + (1 : Int32))), .val (.ref t), .val (.int (3 : Int32)), .val (.int (4 : Int32)), .val (.int (3 : Int32)), .val (.int (own_at [d0, d1, d2, d3, d4, d5] ((f + (1 : Int32)) + (1 : Int32))))]) rfl ?_
    refine XS.goto X14.here hx rfl (pc0 := 41) (pc' := 3) rfl (hb hby d_jdk_52_method_21_code_41) (by decide) (by decide) ?_
    refine XS.iload X14.here hx rfl (hb hby d_jdk_52_method_21_code_3) rfl ?_
    refine XS.iload X14.here hx rfl (hb hby d_jdk_52_method_21_code_5) rfl ?_
    refine XS.icmpNo X14.here hx rfl (hb hby d_jdk_52_method_21_code_7) rfl (tlt (by decide)).2.1 ?_
    refine XS.aloadN X14.here hx rfl (hb hby d_jdk_52_method_21_code_10) rfl rfl ?_
    refine XS.iloadN X14.here hx rfl (hb hby d_jdk_52_method_21_code_11) rfl ?_
    exact hq)
  obtain ⟨cl17, Ar17, -, S17, -, G17, -⟩ := id f15
  have hi17 := inb_of (j := (((f + (1 : Int32)) + (1 : Int32)) + (1 : Int32))) S17 (by rcases hf with rfl | rfl | rfl <;> decide)
  have st17 := fun tt => X14.caload hx (j := (((f + (1 : Int32)) + (1 : Int32)) + (1 : Int32))) (v := (.int (own_at [d0, d1, d2, d3, d4, d5] (((f + (1 : Int32)) + (1 : Int32)) + (1 : Int32))))) (by rw [e14]; exact Ar17.1) (State.isArrayOf_alike hZ.alike Ar17.2.1) Ar17.2.2 hi17 (G17.at hi17 (own_atv [d0, d1, d2, d3, d4, d5] (((f + (1 : Int32)) + (1 : Int32)) + (1 : Int32)))) (g := (mkF m 12 #[.val (.ref b), .val (.int (((f + (1 : Int32)) + (1 : Int32)) + (1 : Int32))), .val (.ref t), .val (.int (3 : Int32)), .val (.int (4 : Int32)), .val (.int (3 : Int32)), .val (.int (own_at [d0, d1, d2, d3, d4, d5] ((f + (1 : Int32)) + (1 : Int32))))] [(.int (((f + (1 : Int32)) + (1 : Int32)) + (1 : Int32))), (.ref b)])) rfl rfl (hb hby d_jdk_52_method_21_code_12) tt
  have k17 : To p.tables e below S0 (T14.setTop (mkF m 13 #[.val (.ref b), .val (.int (((f + (1 : Int32)) + (1 : Int32)) + (1 : Int32))), .val (.ref t), .val (.int (3 : Int32)), .val (.int (4 : Int32)), .val (.int (3 : Int32)), .val (.int (own_at [d0, d1, d2, d3, d4, d5] ((f + (1 : Int32)) + (1 : Int32))))] [(.int (own_at [d0, d1, d2, d3, d4, d5] (((f + (1 : Int32)) + (1 : Int32)) + (1 : Int32))))])) := fun tt hq => k16 tt (st17 tt hq)
  have k18 : To p.tables e below S0 (T14.setTop (mkF m 31 #[.val (.ref b), .val (.int (((f + (1 : Int32)) + (1 : Int32)) + (1 : Int32))), .val (.ref t), .val (.int (3 : Int32)), .val (.int (4 : Int32)), .val (.int (3 : Int32)), .val (.int (own_at [d0, d1, d2, d3, d4, d5] (((f + (1 : Int32)) + (1 : Int32)) + (1 : Int32))))] [(.int ((own_at [d0, d1, d2, d3, d4, d5] (((f + (1 : Int32)) + (1 : Int32)) + (1 : Int32))).toInt8.toInt32)), (.int (3 : Int32)), (.ref t)])) := fun tt hq => k17 tt (by
    refine XS.istore X14.here hx rfl (hb hby d_jdk_52_method_21_code_13) rfl (l' := #[.val (.ref b), .val (.int (((f + (1 : Int32)) + (1 : Int32)) + (1 : Int32))), .val (.ref t), .val (.int (3 : Int32)), .val (.int (4 : Int32)), .val (.int (3 : Int32)), .val (.int (own_at [d0, d1, d2, d3, d4, d5] (((f + (1 : Int32)) + (1 : Int32)) + (1 : Int32))))]) rfl ?_
    refine XS.iload X14.here hx rfl (hb hby d_jdk_52_method_21_code_15) rfl ?_
    refine XS.sipush X14.here hx rfl (hb hby d_jdk_52_method_21_code_17) ?_
    refine XS.icmpYes X14.here hx rfl (pc0 := 20) (pc' := 26) rfl (hb hby d_jdk_52_method_21_code_20) rfl (flt (hm (((f + (1 : Int32)) + (1 : Int32)) + (1 : Int32))).2).2.2.2 (by decide) (by decide) ?_
    refine XS.aloadN X14.here hx rfl (hb hby d_jdk_52_method_21_code_26) rfl rfl ?_
    refine XS.iloadN X14.here hx rfl (hb hby d_jdk_52_method_21_code_27) rfl ?_
    refine XS.iload X14.here hx rfl (hb hby d_jdk_52_method_21_code_28) rfl ?_
    refine XS.i2b X14.here hx rfl (hb hby d_jdk_52_method_21_code_30) rfl ?_
    exact hq)
  obtain ⟨cl19, Ar19, q19, S19, M19, G19, J19⟩ := id V14
  obtain ⟨T19, h19, X19, e19, W19, st19⟩ := stB X14 hx hZ e14 Ar19 (j := (3 : Int32)) (inb_of S19 ⟨by decide, by decide⟩) (g := (mkF m 31 #[.val (.ref b), .val (.int (((f + (1 : Int32)) + (1 : Int32)) + (1 : Int32))), .val (.ref t), .val (.int (3 : Int32)), .val (.int (4 : Int32)), .val (.int (3 : Int32)), .val (.int (own_at [d0, d1, d2, d3, d4, d5] (((f + (1 : Int32)) + (1 : Int32)) + (1 : Int32))))] [(.int ((own_at [d0, d1, d2, d3, d4, d5] (((f + (1 : Int32)) + (1 : Int32)) + (1 : Int32))).toInt8.toInt32)), (.int (3 : Int32)), (.ref t)])) rfl rfl (hb hby d_jdk_52_method_21_code_31)
  have k19 : To p.tables e below S0 (T19.setTop (mkF m 32 #[.val (.ref b), .val (.int (((f + (1 : Int32)) + (1 : Int32)) + (1 : Int32))), .val (.ref t), .val (.int (3 : Int32)), .val (.int (4 : Int32)), .val (.int (3 : Int32)), .val (.int (own_at [d0, d1, d2, d3, d4, d5] (((f + (1 : Int32)) + (1 : Int32)) + (1 : Int32))))] [])) := fun tt hq => k18 tt (st19 tt hq)
  have z19 : h19.size = h14.size := W19.size
  have V19 : Arv Z h19 t kt .byte (4 : Int32) [(.int (nar .byte ((own_at [d0, d1, d2, d3, d4, d5] f).toInt8.toInt32))), (.int (nar .byte ((own_at [d0, d1, d2, d3, d4, d5] (f + (1 : Int32))).toInt8.toInt32))), (.int (nar .byte ((own_at [d0, d1, d2, d3, d4, d5] ((f + (1 : Int32)) + (1 : Int32))).toInt8.toInt32))), (.int (nar .byte ((own_at [d0, d1, d2, d3, d4, d5] (((f + (1 : Int32)) + (1 : Int32)) + (1 : Int32))).toInt8.toInt32)))] (.int (0 : Int32)) := Arv.set Ar19 q19 S19 M19 G19 J19 (fits_nar_byte _) W19 3 rfl (Nat.le_of_ble_eq_true rfl)
  have N19 := Fr.snoc X19 N14 (by omega : n0 ≤ t)
  have k20 : To p.tables e below S0 (T19.setTop (mkF m 46 #[.val (.ref b), .val (.int ((((f + (1 : Int32)) + (1 : Int32)) + (1 : Int32)) + (1 : Int32))), .val (.ref t), .val (.int (4 : Int32)), .val (.int (4 : Int32)), .val (.int (4 : Int32)), .val (.int (own_at [d0, d1, d2, d3, d4, d5] (((f + (1 : Int32)) + (1 : Int32)) + (1 : Int32))))] [(.int (4 : Int32))])) := fun tt hq => k19 tt (by
    refine XS.iinc X19.here hx rfl (hb hby d_jdk_52_method_21_code_32) rfl (l' := #[.val (.ref b), .val (.int ((((f + (1 : Int32)) + (1 : Int32)) + (1 : Int32)) + (1 : Int32))), .val (.ref t), .val (.int (3 : Int32)), .val (.int (4 : Int32)), .val (.int (3 : Int32)), .val (.int (own_at [d0, d1, d2, d3, d4, d5] (((f + (1 : Int32)) + (1 : Int32)) + (1 : Int32))))]) rfl ?_
    refine XS.iinc X19.here hx rfl (hb hby d_jdk_52_method_21_code_35) rfl (l' := #[.val (.ref b), .val (.int ((((f + (1 : Int32)) + (1 : Int32)) + (1 : Int32)) + (1 : Int32))), .val (.ref t), .val (.int (4 : Int32)), .val (.int (4 : Int32)), .val (.int (3 : Int32)), .val (.int (own_at [d0, d1, d2, d3, d4, d5] (((f + (1 : Int32)) + (1 : Int32)) + (1 : Int32))))]) rfl ?_
    refine XS.iinc X19.here hx rfl (hb hby d_jdk_52_method_21_code_38) rfl (l' := #[.val (.ref b), .val (.int ((((f + (1 : Int32)) + (1 : Int32)) + (1 : Int32)) + (1 : Int32))), .val (.ref t), .val (.int (4 : Int32)), .val (.int (4 : Int32)), .val (.int (4 : Int32)), .val (.int (own_at [d0, d1, d2, d3, d4, d5] (((f + (1 : Int32)) + (1 : Int32)) + (1 : Int32))))]) rfl ?_
    refine XS.goto X19.here hx rfl (pc0 := 41) (pc' := 3) rfl (hb hby d_jdk_52_method_21_code_41) (by decide) (by decide) ?_
    refine XS.iload X19.here hx rfl (hb hby d_jdk_52_method_21_code_3) rfl ?_
    refine XS.iload X19.here hx rfl (hb hby d_jdk_52_method_21_code_5) rfl ?_
    refine XS.icmpYes X19.here hx rfl (pc0 := 7) (pc' := 44) rfl (hb hby d_jdk_52_method_21_code_7) rfl (flt (by decide)).2.1 (by decide) (by decide) ?_
    refine XS.iload X19.here hx rfl (hb hby d_jdk_52_method_21_code_44) rfl ?_
    exact hq)
  have hE := e19
  refine retInt X19 hx hret hlk (by simp) rfl (hb hby d_jdk_52_method_21_code_46) k20 ?_ (by decide) (by decide)
  try rw [hE]
  exact ⟨rfl, N19, (((((Keep.refl h0 [t]).wr W4 (Or.inl (by simp))).wr W9 (Or.inl (by simp))).wr W14 (Or.inl (by simp))).wr W19 (Or.inl (by simp))), V19⟩
set_option maxRecDepth 65536 in
set_option maxHeartbeats 40000000 in
theorem rm_c3_4 (l : Launch) (Z : State) (a0 : Array Value) (hw : ∀ d ∈ tables_1, d.before a0 Z = true) (b : Addr) (kb : ClassId) (f : Int32) (d0 : Int32) (d1 : Int32) (d2 : Int32) (d3 : Int32) (d4 : Int32) (d5 : Int32) (h0 : Heap) (n0 : Nat) (hn0 : n0 ≤ h0.size) (P0 : Arv Z h0 b kb .char (6 : Int32) [(.int d0), (.int d1), (.int d2), (.int d3), (.int d4), (.int d5)] (.int (0 : Int32))) (yb : @LT.lt Nat instLTNat b h0.size) (hf : f = (0 : Int32) ∨ f = (1 : Int32) ∨ f = (2 : Int32)) (hm : ∀ i : Int32, ¬ own_at [d0, d1, d2, d3, d4, d5] i < (0 : Int32) ∧ ¬ (255 : Int32) < own_at [d0, d1, d2, d3, d4, d5] i) :
    Con l Z (⟨"java/lang/StringUTF16", "compress", "([CII)[B"⟩ : MethodName) jdk_52_method_16_code 6 (some (.array .byte)) [] ({ frames := 1, cells := 1, slots := 4, locals := 18 } : Room) #[(.ref b), (.int f), (.int (4 : Int32))] h0 (fun v h L => ∃ (t : Addr) (k : ClassId), v = some (.ref t) ∧ Fr n0 L ∧ h0.size ≤ t ∧ Keep h0 h [] ∧ Arv Z h t k .byte (4 : Int32) [(.int (nar .byte ((own_at [d0, d1, d2, d3, d4, d5] f).toInt8.toInt32))), (.int (nar .byte ((own_at [d0, d1, d2, d3, d4, d5] (f + (1 : Int32))).toInt8.toInt32))), (.int (nar .byte ((own_at [d0, d1, d2, d3, d4, d5] ((f + (1 : Int32)) + (1 : Int32))).toInt8.toInt32))), (.int (nar .byte ((own_at [d0, d1, d2, d3, d4, d5] (((f + (1 : Int32)) + (1 : Int32)) + (1 : Int32))).toInt8.toInt32)))] (.int (0 : Int32))) := by
  refine enter (Ls := #[.val (.ref b), .val (.int f), .val (.int (4 : Int32)), .unset, .unset, .unset]) (plainFor_of_name pn_5) (fun m => by exact entry_eq rfl) ?_
  intro p e s m below meth cd_ s₁ S0 hx hby hml hret hlk hnm hown hZ X0 e0 k0
  have N0 := Fr.nil n0
  have k1 : To p.tables e below S0 (s₁.setTop (mkF m 1 #[.val (.ref b), .val (.int f), .val (.int (4 : Int32)), .unset, .unset, .unset] [(.int (4 : Int32))])) := fun tt hq => k0 tt (by
    refine XS.iloadN X0.here hx rfl (hb hby d_jdk_52_method_16_code_0) rfl ?_
    exact hq)
  obtain ⟨T2, h2, c2, X2, e2, E2, A2, st2⟩ := newP X0 hx hZ (wq hw 74 rfl) e0 (g := (mkF m 1 #[.val (.ref b), .val (.int f), .val (.int (4 : Int32)), .unset, .unset, .unset] [(.int (4 : Int32))])) rfl (hb hby d_jdk_52_method_16_code_1) rfl (by decide) (cap := 4) (by decide) (by decide) (by decide) (by decide)
  obtain ⟨b2, g2⟩ : ∃ z, z = h0.size := ⟨_, rfl⟩
  rw [← g2] at A2 st2
  have k2 : To p.tables e below S0 (T2.setTop (mkF m 3 #[.val (.ref b), .val (.int f), .val (.int (4 : Int32)), .unset, .unset, .unset] [(.ref b2)])) := fun tt hq => k1 tt (st2 tt hq)
  have z2 : h0.size ≤ h2.size := E2.1
  have V2 : Arv Z h2 b2 c2 .byte (4 : Int32) [(.int (0 : Int32)), (.int (0 : Int32)), (.int (0 : Int32)), (.int (0 : Int32))] (.int (0 : Int32)) := (Arv.new A2 (by decide)).pad (pad_rep [] (.int (0 : Int32)) 4)
  have y2 : @LT.lt Nat instLTNat b2 h2.size := V2.lt
  have k3 : To p.tables e below S0 (T2.setTop (mkF m 9 #[.val (.ref b), .val (.int f), .val (.int (4 : Int32)), .val (.ref b2), .unset, .unset] [(.int (4 : Int32)), (.int (0 : Int32)), (.ref b2), (.int f), (.ref b)])) := fun tt hq => k2 tt (by
    refine XS.astoreN X2.here hx rfl (hb hby d_jdk_52_method_16_code_3) rfl rfl (l' := #[.val (.ref b), .val (.int f), .val (.int (4 : Int32)), .val (.ref b2), .unset, .unset]) rfl ?_
    refine XS.aloadN X2.here hx rfl (hb hby d_jdk_52_method_16_code_4) rfl rfl ?_
    refine XS.iloadN X2.here hx rfl (hb hby d_jdk_52_method_16_code_5) rfl ?_
    refine XS.aloadN X2.here hx rfl (hb hby d_jdk_52_method_16_code_6) rfl rfl ?_
    refine XS.iconst X2.here hx rfl (hb hby d_jdk_52_method_16_code_7) ?_
    refine XS.iloadN X2.here hx rfl (hb hby d_jdk_52_method_16_code_8) rfl ?_
    exact hq)
  have f4 : Arv Z h2 b kb .char (6 : Int32) [(.int d0), (.int d1), (.int d2), (.int d3), (.int d4), (.int d5)] (.int (0 : Int32)) := (P0.ext E2)
  obtain ⟨_, T5, L5, X5, ⟨rfl, Nq5, Kq5, V5⟩, k5a⟩ := callS' X2 hx hZ (y := (⟨"java/lang/StringUTF16", "compress", "([CI[BII)I"⟩ : MethodName)) hown (wq hw 75 rfl) (wq hw 76 rfl) (wq hw 72 rfl) (wq hw 77 rfl) (by decide) (backC (W := 0) (rm_c5_4 l Z a0 hw b kb b2 c2 f d0 d1 d2 d3 d4 d5 h2 n0 (by omega) f4 V2 (by omega) (by omega) hf hm) hZ (wq hw 77 rfl) (wq hw 72 rfl) (by decide) (by decide)) e2 (argsL := [(.ref b), (.int f), (.ref b2), (.int (0 : Int32)), (.int (4 : Int32))]) (rest := []) rfl rfl pd_13 rfl (by rw [hml]; rfl) (hb hby d_jdk_52_method_16_code_9) (Nat.le_of_eq rfl) (by decide) (by decide) k3
  have k5 : To p.tables e below S0 (T5.setTop (mkF m 12 #[.val (.ref b), .val (.int f), .val (.int (4 : Int32)), .val (.ref b2), .unset, .unset] [(.int (4 : Int32))])) := k5a
  have N5 := N0.app Nq5
  obtain ⟨h5, e5⟩ : ∃ z, T5.heap = z := ⟨_, rfl⟩
  rw [e5] at Kq5 V5
  have z5 : h2.size ≤ h5.size := Kq5.1
  have k6 : To p.tables e below S0 (T5.setTop (mkF m 58 #[.val (.ref b), .val (.int f), .val (.int (4 : Int32)), .val (.ref b2), .val (.int (4 : Int32)), .unset] [(.ref b2)])) := fun tt hq => k5 tt (by
    refine XS.istore X5.here hx rfl (hb hby d_jdk_52_method_16_code_12) rfl (l' := #[.val (.ref b), .val (.int f), .val (.int (4 : Int32)), .val (.ref b2), .val (.int (4 : Int32)), .unset]) rfl ?_
    refine XS.iload X5.here hx rfl (hb hby d_jdk_52_method_16_code_14) rfl ?_
    refine XS.iloadN X5.here hx rfl (hb hby d_jdk_52_method_16_code_16) rfl ?_
    refine XS.icmpYes X5.here hx rfl (pc0 := 17) (pc' := 57) rfl (hb hby d_jdk_52_method_16_code_17) rfl (teq (by decide)).1 (by decide) (by decide) ?_
    refine XS.aloadN X5.here hx rfl (hb hby d_jdk_52_method_16_code_57) rfl rfl ?_
    exact hq)
  have hE := e5
  refine retRef X5 hx hret hlk rfl rfl (hb hby d_jdk_52_method_16_code_58) k6 ?_ (by decide) (by decide)
  try rw [hE]
  exact ⟨b2, _, rfl, N5, (by omega), (((Keep.refl h0 []).ext E2).trans Kq5 (allS (Or.inr (by omega)) all0)), V5⟩
set_option maxRecDepth 65536 in
set_option maxHeartbeats 40000000 in
theorem rm_cl_4 (l : Launch) (Z : State) (a0 : Array Value) (hw : ∀ d ∈ tables_1, d.before a0 Z = true) (t : Addr) (kt : ClassId) (d0 : Int32) (d1 : Int32) (d2 : Int32) (d3 : Int32) (h0 : Heap) (n0 : Nat) (hn0 : n0 ≤ h0.size) (P0 : Arv Z h0 t kt .byte (4 : Int32) [(.int d0), (.int d1), (.int d2), (.int d3)] (.int (0 : Int32))) :
    Con l Z (⟨"java/lang/StringUTF16", "coderFromArrayLen", "([BI)B"⟩ : MethodName) jdk_52_method_15_code 2 (some .byte) [] ({ frames := 0, cells := 0, slots := 0, locals := 0 } : Room) #[(.ref t), (.int (4 : Int32))] h0 (fun v h L => v = some (.int (0 : Int32)) ∧ Fr n0 L ∧ h = h0) := by
  refine enter (Ls := #[.val (.ref t), .val (.int (4 : Int32))]) (plainFor_of_name pn_5) (fun m => by exact entry_eq rfl) ?_
  intro p e s m below meth cd_ s₁ S0 hx hby hml hret hlk hnm hown hZ X0 e0 k0
  have N0 := Fr.nil n0
  have k1 : To p.tables e below S0 (s₁.setTop (mkF m 2 #[.val (.ref t), .val (.int (4 : Int32))] [(.ref t), (.int (4 : Int32))])) := fun tt hq => k0 tt (by
    refine XS.iloadN X0.here hx rfl (hb hby d_jdk_52_method_15_code_0) rfl ?_
    refine XS.aloadN X0.here hx rfl (hb hby d_jdk_52_method_15_code_1) rfl rfl ?_
    exact hq)
  obtain ⟨cl2, Ar2, -, S2, M2, -, -⟩ := id P0
  have st2 := fun tt => X0.arraylength hx (by rw [e0]; exact Ar2.1) (State.isArrayOf_alike hZ.alike Ar2.2.1) (g := (mkF m 2 #[.val (.ref t), .val (.int (4 : Int32))] [(.ref t), (.int (4 : Int32))])) rfl rfl (hb hby d_jdk_52_method_15_code_2) tt
  rw [len_of S2 M2] at st2
  have k2 : To p.tables e below S0 (s₁.setTop (mkF m 3 #[.val (.ref t), .val (.int (4 : Int32))] [(.int (4 : Int32)), (.int (4 : Int32))])) := fun tt hq => k1 tt (st2 tt hq)
  have k3 : To p.tables e below S0 (s₁.setTop (mkF m 8 #[.val (.ref t), .val (.int (4 : Int32))] [(.int (0 : Int32))])) := fun tt hq => k2 tt (by
    refine XS.isub X0.here hx rfl (hb hby d_jdk_52_method_15_code_3) rfl ?_
    refine XS.bipush X0.here hx rfl (hb hby d_jdk_52_method_15_code_4) ?_
    refine XS.iushr X0.here hx rfl (hb hby d_jdk_52_method_15_code_6) rfl ?_
    refine XS.i2b X0.here hx rfl (hb hby d_jdk_52_method_15_code_7) rfl ?_
    exact hq)
  have hE := e0
  refine retInt X0 hx hret hlk (by simp) rfl (hb hby d_jdk_52_method_15_code_8) k3 ?_ (by decide) (by decide)
  try rw [hE]
  exact ⟨rfl, N0, rfl⟩
set_option maxRecDepth 65536 in
set_option maxHeartbeats 40000000 in
theorem rm_n4_4 (l : Launch) (Z : State) (a0 : Array Value) (hw : ∀ d ∈ tables_1, d.before a0 Z = true) (zc : Int32) (a : Addr) (b : Addr) (kb : ClassId) (u1 : Value) (u2 : Value) (f : Int32) (d0 : Int32) (d1 : Int32) (d2 : Int32) (d3 : Int32) (d4 : Int32) (d5 : Int32) (h0 : Heap) (n0 : Nat) (hn0 : n0 ≤ h0.size) (S_c : Sta Z Z.heap "java/lang/String" "COMPACT_STRINGS" "Z" (.int zc)) (hzc : ¬ zc = (0 : Int32)) (O0 : Old Z n0 h0) (E0 : Exa Z h0 a "java/lang/String") (F1 : Fld Z h0 a "java/lang/String" "value" "[B" u1) (F2 : Fld Z h0 a "java/lang/String" "coder" "B" u2) (P0 : Arv Z h0 b kb .char (6 : Int32) [(.int d0), (.int d1), (.int d2), (.int d3), (.int d4), (.int d5)] (.int (0 : Int32))) (ga : n0 ≤ a) (ya : @LT.lt Nat instLTNat a h0.size) (yb : @LT.lt Nat instLTNat b h0.size) (nab : ¬ (@Eq Nat b a)) (hf : f = (0 : Int32) ∨ f = (1 : Int32) ∨ f = (2 : Int32)) (hm : ∀ i : Int32, ¬ own_at [d0, d1, d2, d3, d4, d5] i < (0 : Int32) ∧ ¬ (255 : Int32) < own_at [d0, d1, d2, d3, d4, d5] i) :
    Con l Z (⟨"java/lang/String", "<init>", "([CIILjava/lang/Void;)V"⟩ : MethodName) jdk_42_method_149_code 6 none [] ({ frames := 2, cells := 1, slots := 4, locals := 35 } : Room) #[(.ref a), (.ref b), (.int f), (.int (4 : Int32)), .null] h0 (fun v h L => v = none ∧ Fr n0 L ∧ Keep h0 h [a] ∧ ∃ (t : Addr) (k : ClassId), (@LT.lt Nat instLTNat t h.size) ∧ Exa Z h a "java/lang/String" ∧ Fld Z h a "java/lang/String" "value" "[B" (.ref t) ∧ Fld Z h a "java/lang/String" "coder" "B" (.int (0 : Int32)) ∧ Arv Z h t k .byte (4 : Int32) [(.int (nar .byte ((own_at [d0, d1, d2, d3, d4, d5] f).toInt8.toInt32))), (.int (nar .byte ((own_at [d0, d1, d2, d3, d4, d5] (f + (1 : Int32))).toInt8.toInt32))), (.int (nar .byte ((own_at [d0, d1, d2, d3, d4, d5] ((f + (1 : Int32)) + (1 : Int32))).toInt8.toInt32))), (.int (nar .byte ((own_at [d0, d1, d2, d3, d4, d5] (((f + (1 : Int32)) + (1 : Int32)) + (1 : Int32))).toInt8.toInt32)))] (.int 0)) := by
  refine enter (Ls := #[.val (.ref a), .val (.ref b), .val (.int f), .val (.int (4 : Int32)), .val .null, .unset]) (plainFor_of_name pn_3) (fun m => by exact entry_eq rfl) ?_
  intro p e s m below meth cd_ s₁ S0 hx hby hml hret hlk hnm hown hZ X0 e0 k0
  have N0 := Fr.nil n0
  have k1 : To p.tables e below S0 (s₁.setTop (mkF m 1 #[.val (.ref a), .val (.ref b), .val (.int f), .val (.int (4 : Int32)), .val .null, .unset] [(.ref a)])) := fun tt hq => k0 tt (by
    refine XS.aloadN X0.here hx rfl (hb hby d_jdk_42_method_149_code_0) rfl rfl ?_
    exact hq)
  obtain ⟨T2, X2, e2, st2⟩ := initO X0 hx hZ hown (wq hw 68 rfl) (wq hw 14 rfl) (wq hw 15 rfl) e0 (g := (mkF m 1 #[.val (.ref a), .val (.ref b), .val (.int f), .val (.int (4 : Int32)), .val .null, .unset] [(.ref a)])) rfl (by rw [hml]; rfl) rfl (hb hby d_jdk_42_method_149_code_1) (by decide) (W := 0) (by show 2 * 0 + _ ≤ _; exact Nat.le_of_eq rfl) (by decide)
  have k2 : To p.tables e below S0 (T2.setTop (mkF m 4 #[.val (.ref a), .val (.ref b), .val (.int f), .val (.int (4 : Int32)), .val .null, .unset] [])) := fun tt hq => k1 tt (st2 tt hq)
  have k3 : To p.tables e below S0 (T2.setTop (mkF m 27 #[.val (.ref a), .val (.ref b), .val (.int f), .val (.int (4 : Int32)), .val .null, .unset] [])) := fun tt hq => k2 tt (by
    refine XS.iloadN X2.here hx rfl (hb hby d_jdk_42_method_149_code_4) rfl ?_
    refine XS.ifYes X2.here hx rfl (pc0 := 5) (pc' := 27) rfl (hb hby d_jdk_42_method_149_code_5) rfl ((if0 _ _).trans (feq (by decide)).2) (by decide) (by decide) ?_
    exact hq)
  obtain ⟨T4, X4, e4, st4⟩ := getS2 X2 hx hZ hown (host := "") (Or.inl (wq hw 69 rfl)) Via.refl e2 (staOld S_c O0) (g := (mkF m 27 #[.val (.ref a), .val (.ref b), .val (.int f), .val (.int (4 : Int32)), .val .null, .unset] [])) rfl (hb hby d_jdk_42_method_149_code_27)
  have k4 : To p.tables e below S0 (T4.setTop (mkF m 30 #[.val (.ref a), .val (.ref b), .val (.int f), .val (.int (4 : Int32)), .val .null, .unset] [(.int zc)])) := fun tt hq => k3 tt (st4 tt hq)
  have k5 : To p.tables e below S0 (T4.setTop (mkF m 36 #[.val (.ref a), .val (.ref b), .val (.int f), .val (.int (4 : Int32)), .val .null, .unset] [(.int (4 : Int32)), (.int f), (.ref b)])) := fun tt hq => k4 tt (by
    refine XS.ifNo X4.here hx rfl (hb hby d_jdk_42_method_149_code_30) rfl ((if0 _ _).trans (feq hzc).1) ?_
    refine XS.aloadN X4.here hx rfl (hb hby d_jdk_42_method_149_code_33) rfl rfl ?_
    refine XS.iloadN X4.here hx rfl (hb hby d_jdk_42_method_149_code_34) rfl ?_
    refine XS.iloadN X4.here hx rfl (hb hby d_jdk_42_method_149_code_35) rfl ?_
    exact hq)
  obtain ⟨_, T6, L6, X6, ⟨t6, kt6, rfl, Nq6, gt6, Kq6, V6⟩, k6a⟩ := callS' X4 hx hZ (y := (⟨"java/lang/StringUTF16", "compress", "([CII)[B"⟩ : MethodName)) hown (wq hw 70 rfl) (wq hw 71 rfl) (wq hw 72 rfl) (wq hw 73 rfl) (by decide) (backC (W := 0) (rm_c3_4 l Z a0 hw b kb f d0 d1 d2 d3 d4 d5 h0 n0 (by omega) P0 (by omega) hf hm) hZ (wq hw 73 rfl) (wq hw 72 rfl) (by decide) (by decide)) e4 (argsL := [(.ref b), (.int f), (.int (4 : Int32))]) (rest := []) rfl rfl pd_14 rfl (by rw [hml]; rfl) (hb hby d_jdk_42_method_149_code_36) (Nat.le_of_eq rfl) (by decide) (by decide) k5
  have k6 : To p.tables e below S0 (T6.setTop (mkF m 39 #[.val (.ref a), .val (.ref b), .val (.int f), .val (.int (4 : Int32)), .val .null, .unset] [(.ref t6)])) := k6a
  have N6 := N0.app Nq6
  obtain ⟨h6, e6⟩ : ∃ z, T6.heap = z := ⟨_, rfl⟩
  rw [e6] at Kq6 V6
  have z6 : h0.size ≤ h6.size := Kq6.1
  have y6 : @LT.lt Nat instLTNat t6 h6.size := V6.lt
  have k7 : To p.tables e below S0 (T6.setTop (mkF m 45 #[.val (.ref a), .val (.ref b), .val (.int f), .val (.int (4 : Int32)), .val .null, .val (.ref t6)] [(.int (4 : Int32)), (.ref t6), (.ref a)])) := fun tt hq => k6 tt (by
    refine XS.astore X6.here hx rfl (hb hby d_jdk_42_method_149_code_39) rfl rfl (l' := #[.val (.ref a), .val (.ref b), .val (.int f), .val (.int (4 : Int32)), .val .null, .val (.ref t6)]) rfl ?_
    refine XS.aloadN X6.here hx rfl (hb hby d_jdk_42_method_149_code_41) rfl rfl ?_
    refine XS.aload X6.here hx rfl (hb hby d_jdk_42_method_149_code_42) rfl rfl ?_
    refine XS.iloadN X6.here hx rfl (hb hby d_jdk_42_method_149_code_44) rfl ?_
    exact hq)
  obtain ⟨_, T8, L8, X8, ⟨rfl, Nq8, eq8⟩, k8a⟩ := callS' X6 hx hZ (y := (⟨"java/lang/StringUTF16", "coderFromArrayLen", "([BI)B"⟩ : MethodName)) hown (wq hw 78 rfl) (wq hw 79 rfl) (wq hw 72 rfl) (wq hw 80 rfl) (by decide) (backC (W := 1) (rm_cl_4 l Z a0 hw t6 kt6 (nar .byte ((own_at [d0, d1, d2, d3, d4, d5] f).toInt8.toInt32)) (nar .byte ((own_at [d0, d1, d2, d3, d4, d5] (f + (1 : Int32))).toInt8.toInt32)) (nar .byte ((own_at [d0, d1, d2, d3, d4, d5] ((f + (1 : Int32)) + (1 : Int32))).toInt8.toInt32)) (nar .byte ((own_at [d0, d1, d2, d3, d4, d5] (((f + (1 : Int32)) + (1 : Int32)) + (1 : Int32))).toInt8.toInt32)) h6 n0 (by omega) V6) hZ (wq hw 80 rfl) (wq hw 72 rfl) (by decide) (by decide)) e6 (argsL := [(.ref t6), (.int (4 : Int32))]) (rest := [(.ref a)]) rfl rfl pd_15 rfl (by rw [hml]; rfl) (hb hby d_jdk_42_method_149_code_45) (Nat.le_of_eq rfl) (by decide) (by decide) k7
  have k8 : To p.tables e below S0 (T8.setTop (mkF m 48 #[.val (.ref a), .val (.ref b), .val (.int f), .val (.int (4 : Int32)), .val .null, .val (.ref t6)] [(.int (0 : Int32)), (.ref a)])) := k8a
  have N8 := N6.app Nq8
  have e8 : T8.heap = h6 := eq8
  have f9 : Exa Z h6 a "java/lang/String" := (E0.keep Kq6)
  have f10 : Fld Z h6 a "java/lang/String" "coder" "B" u2 := (F2.keep Kq6 nin0)
  obtain ⟨T11, h11, X11, e11, W11, st11⟩ := putF X8 hx hZ hown (host := "") (Or.inl (wq hw 81 rfl)) Via.refl e8 f10 f9 (Or.inr ⟨(wq hw 82 rfl), rfl, hnm⟩) (wq hw 48 rfl) (ty := .byte) (by decide) rfl rfl (g := (mkF m 48 #[.val (.ref a), .val (.ref b), .val (.int f), .val (.int (4 : Int32)), .val .null, .val (.ref t6)] [(.int (0 : Int32)), (.ref a)])) rfl rfl (hb hby d_jdk_42_method_149_code_48)
  have k11 : To p.tables e below S0 (T11.setTop (mkF m 51 #[.val (.ref a), .val (.ref b), .val (.int f), .val (.int (4 : Int32)), .val .null, .val (.ref t6)] [])) := fun tt hq => k8 tt (st11 tt hq)
  have z11 : h11.size = h6.size := W11.size
  have F11 := f10.same W11
  have N11 := Fr.snoc X11 N8 (by omega : n0 ≤ a)
  have f12 : Exa Z h11 a "java/lang/String" := (f9.wr W11)
  have f13 : Fld Z h11 a "java/lang/String" "value" "[B" u1 := ((F1.keep Kq6 nin0).other W11 (Or.inr (slot_ne (Or.inr (wq hw 84 rfl)) (Or.inr (wq hw 82 rfl)) (by decide) (t := (.array .byte)) (t' := .byte) (by decide) (by decide))))
  have k14 : To p.tables e below S0 (T11.setTop (mkF m 54 #[.val (.ref a), .val (.ref b), .val (.int f), .val (.int (4 : Int32)), .val .null, .val (.ref t6)] [(.ref t6), (.ref a)])) := fun tt hq => k11 tt (by
    refine XS.aloadN X11.here hx rfl (hb hby d_jdk_42_method_149_code_51) rfl rfl ?_
    refine XS.aload X11.here hx rfl (hb hby d_jdk_42_method_149_code_52) rfl rfl ?_
    exact hq)
  obtain ⟨T15, h15, X15, e15, W15, st15⟩ := putF X11 hx hZ hown (host := "") (Or.inl (wq hw 83 rfl)) Via.refl e11 f13 f12 (Or.inr ⟨(wq hw 84 rfl), rfl, hnm⟩) (wq hw 48 rfl) (ty := (.array .byte)) (by decide) rfl rfl (g := (mkF m 54 #[.val (.ref a), .val (.ref b), .val (.int f), .val (.int (4 : Int32)), .val .null, .val (.ref t6)] [(.ref t6), (.ref a)])) rfl rfl (hb hby d_jdk_42_method_149_code_54)
  have k15 : To p.tables e below S0 (T15.setTop (mkF m 57 #[.val (.ref a), .val (.ref b), .val (.int f), .val (.int (4 : Int32)), .val .null, .val (.ref t6)] [])) := fun tt hq => k14 tt (st15 tt hq)
  have z15 : h15.size = h11.size := W15.size
  have F15 := f13.same W15
  have N15 := Fr.snoc X15 N11 (by omega : n0 ≤ a)
  have f16 : Arv Z h15 t6 kt6 .byte (4 : Int32) [(.int (nar .byte ((own_at [d0, d1, d2, d3, d4, d5] f).toInt8.toInt32))), (.int (nar .byte ((own_at [d0, d1, d2, d3, d4, d5] (f + (1 : Int32))).toInt8.toInt32))), (.int (nar .byte ((own_at [d0, d1, d2, d3, d4, d5] ((f + (1 : Int32)) + (1 : Int32))).toInt8.toInt32))), (.int (nar .byte ((own_at [d0, d1, d2, d3, d4, d5] (((f + (1 : Int32)) + (1 : Int32)) + (1 : Int32))).toInt8.toInt32)))] (.int (0 : Int32)) := ((V6.other W11 (adr_ne (by omega))).other W15 (adr_ne (by omega)))
  have f17 : Exa Z h15 a "java/lang/String" := (f12.wr W15)
  have f18 : Fld Z h15 a "java/lang/String" "coder" "B" (.int (0 : Int32)) := (F11.other W15 (Or.inr (slot_ne (Or.inr (wq hw 82 rfl)) (Or.inr (wq hw 84 rfl)) (by decide) (t := .byte) (t' := (.array .byte)) (by decide) (by decide))))
  have hE := e15
  refine retVoid X15 hx hret hlk (hb hby d_jdk_42_method_149_code_57) k15 ?_ (by decide) (by decide)
  try rw [hE]
  exact ⟨rfl, N15, ((((Keep.refl h0 [a]).trans Kq6 all0).wr W11 (Or.inl (by simp))).wr W15 (Or.inl (by simp))), t6, kt6, f16.lt, f17, F15, f18, f16⟩
set_option maxRecDepth 65536 in
set_option maxHeartbeats 40000000 in
theorem rm_n3_4 (l : Launch) (Z : State) (a0 : Array Value) (hw : ∀ d ∈ tables_1, d.before a0 Z = true) (zc : Int32) (fm : Value) (a : Addr) (b : Addr) (kb : ClassId) (u1 : Value) (u2 : Value) (f : Int32) (d0 : Int32) (d1 : Int32) (d2 : Int32) (d3 : Int32) (d4 : Int32) (d5 : Int32) (h0 : Heap) (n0 : Nat) (hn0 : n0 ≤ h0.size) (S_c : Sta Z Z.heap "java/lang/String" "COMPACT_STRINGS" "Z" (.int zc)) (hzc : ¬ zc = (0 : Int32)) (S_f : Sta Z Z.heap "jdk/internal/util/Preconditions" "SIOOBE_FORMATTER" "Ljava/util/function/BiFunction;" fm) (hfm : fm.isRef = true) (O0 : Old Z n0 h0) (E0 : Exa Z h0 a "java/lang/String") (F1 : Fld Z h0 a "java/lang/String" "value" "[B" u1) (F2 : Fld Z h0 a "java/lang/String" "coder" "B" u2) (P0 : Arv Z h0 b kb .char (6 : Int32) [(.int d0), (.int d1), (.int d2), (.int d3), (.int d4), (.int d5)] (.int (0 : Int32))) (ga : n0 ≤ a) (ya : @LT.lt Nat instLTNat a h0.size) (yb : @LT.lt Nat instLTNat b h0.size) (nab : ¬ (@Eq Nat b a)) (hf : f = (0 : Int32) ∨ f = (1 : Int32) ∨ f = (2 : Int32)) (hm : ∀ i : Int32, ¬ own_at [d0, d1, d2, d3, d4, d5] i < (0 : Int32) ∧ ¬ (255 : Int32) < own_at [d0, d1, d2, d3, d4, d5] i) (q1 : ¬ (((6 : Int32) ||| f) ||| (4 : Int32)) < (0 : Int32)) (q2 : ¬ ((6 : Int32) - f) < (4 : Int32)) :
    Con l Z (⟨"java/lang/String", "<init>", "([CII)V"⟩ : MethodName) jdk_42_method_4_code 4 none [] ({ frames := 3, cells := 1, slots := 4, locals := 52 } : Room) #[(.ref a), (.ref b), (.int f), (.int (4 : Int32))] h0 (fun v h L => v = none ∧ Fr n0 L ∧ Keep h0 h [a] ∧ ∃ (t : Addr) (k : ClassId), (@LT.lt Nat instLTNat t h.size) ∧ Exa Z h a "java/lang/String" ∧ Fld Z h a "java/lang/String" "value" "[B" (.ref t) ∧ Fld Z h a "java/lang/String" "coder" "B" (.int (0 : Int32)) ∧ Arv Z h t k .byte (4 : Int32) [(.int (nar .byte ((own_at [d0, d1, d2, d3, d4, d5] f).toInt8.toInt32))), (.int (nar .byte ((own_at [d0, d1, d2, d3, d4, d5] (f + (1 : Int32))).toInt8.toInt32))), (.int (nar .byte ((own_at [d0, d1, d2, d3, d4, d5] ((f + (1 : Int32)) + (1 : Int32))).toInt8.toInt32))), (.int (nar .byte ((own_at [d0, d1, d2, d3, d4, d5] (((f + (1 : Int32)) + (1 : Int32)) + (1 : Int32))).toInt8.toInt32)))] (.int 0)) := by
  refine enter (Ls := #[.val (.ref a), .val (.ref b), .val (.int f), .val (.int (4 : Int32))]) (plainFor_of_name pn_3) (fun m => by exact entry_eq rfl) ?_
  intro p e s m below meth cd_ s₁ S0 hx hby hml hret hlk hnm hown hZ X0 e0 k0
  have N0 := Fr.nil n0
  have k1 : To p.tables e below S0 (s₁.setTop (mkF m 7 #[.val (.ref a), .val (.ref b), .val (.int f), .val (.int (4 : Int32))] [(.int (4 : Int32)), (.int f), (.ref b), (.int (4 : Int32)), (.int f), (.ref b), (.ref a)])) := fun tt hq => k0 tt (by
    refine XS.aloadN X0.here hx rfl (hb hby d_jdk_42_method_4_code_0) rfl rfl ?_
    refine XS.aloadN X0.here hx rfl (hb hby d_jdk_42_method_4_code_1) rfl rfl ?_
    refine XS.iloadN X0.here hx rfl (hb hby d_jdk_42_method_4_code_2) rfl ?_
    refine XS.iloadN X0.here hx rfl (hb hby d_jdk_42_method_4_code_3) rfl ?_
    refine XS.aloadN X0.here hx rfl (hb hby d_jdk_42_method_4_code_4) rfl rfl ?_
    refine XS.iloadN X0.here hx rfl (hb hby d_jdk_42_method_4_code_5) rfl ?_
    refine XS.iloadN X0.here hx rfl (hb hby d_jdk_42_method_4_code_6) rfl ?_
    exact hq)
  obtain ⟨_, T2, L2, X2, ⟨rfl, Nq2, eq2⟩, k2a⟩ := callS' X0 hx hZ (y := (⟨"java/lang/String", "rangeCheck", "([CII)Ljava/lang/Void;"⟩ : MethodName)) hown (wq hw 53 rfl) (wq hw 54 rfl) (wq hw 49 rfl) (wq hw 55 rfl) (by decide) (backC (W := 4) (rm_rck l Z a0 hw fm b kb f (4 : Int32) d0 d1 d2 d3 d4 d5 h0 n0 (by omega) S_f hfm O0 P0 q1 q2) hZ (wq hw 55 rfl) (wq hw 49 rfl) (by decide) (by decide)) e0 (argsL := [(.ref b), (.int f), (.int (4 : Int32))]) (rest := [(.int (4 : Int32)), (.int f), (.ref b), (.ref a)]) rfl rfl pd_10 rfl (by rw [hml]; rfl) (hb hby d_jdk_42_method_4_code_7) (Nat.le_of_eq rfl) (by decide) (by decide) k1
  have k2 : To p.tables e below S0 (T2.setTop (mkF m 10 #[.val (.ref a), .val (.ref b), .val (.int f), .val (.int (4 : Int32))] [.null, (.int (4 : Int32)), (.int f), (.ref b), (.ref a)])) := k2a
  have N2 := N0.app Nq2
  have e2 : T2.heap = h0 := eq2
  obtain ⟨_, T3, L3, X3, ⟨rfl, Nq3, Kq3, t3, kt3, gt3, P30, P31, P32, P33⟩, k3a⟩ := callC' X2 hx hZ (y := (⟨"java/lang/String", "<init>", "([CIILjava/lang/Void;)V"⟩ : MethodName)) rfl hown (wq hw 64 rfl) (wq hw 65 rfl) (wq hw 67 rfl) (by decide) (backC (W := 0) (rm_n4_4 l Z a0 hw zc a b kb u1 u2 f d0 d1 d2 d3 d4 d5 h0 n0 (by omega) S_c hzc O0 E0 F1 F2 P0 (by omega) (by omega) (by omega) (by omega) hf hm) hZ (wq hw 67 rfl) (wq hw 49 rfl) (by decide) (by decide)) e2 (argsL := [(.ref b), (.int f), (.int (4 : Int32)), .null]) (rest := []) rfl rfl pd_11 rfl (by rw [hml]; rfl) (hb hby d_jdk_42_method_4_code_10) (Nat.le_of_eq rfl) (by decide) (by decide) k2
  have k3 : To p.tables e below S0 (T3.setTop (mkF m 13 #[.val (.ref a), .val (.ref b), .val (.int f), .val (.int (4 : Int32))] [])) := k3a
  have N3 := N2.app Nq3
  obtain ⟨h3, e3⟩ : ∃ z, T3.heap = z := ⟨_, rfl⟩
  rw [e3] at Kq3 gt3 P30 P31 P32 P33
  have z3 : h0.size ≤ h3.size := Kq3.1
  have hE := e3
  refine retVoid X3 hx hret hlk (hb hby d_jdk_42_method_4_code_13) k3 ?_ (by decide) (by decide)
  try rw [hE]
  exact ⟨rfl, N3, ((Keep.refl h0 [a]).trans Kq3 (allS (Or.inl (by simp)) all0)), t3, kt3, P33.lt, P30, P31, P32, P33⟩
set_option maxRecDepth 65536 in
set_option maxHeartbeats 40000000 in
theorem rm_ts_4 (l : Launch) (Z : State) (a0 : Array Value) (hw : ∀ d ∈ tables_1, d.before a0 Z = true) (zc : Int32) (fm : Value) (r : Addr) (b : Addr) (kb : ClassId) (f : Int32) (d0 : Int32) (d1 : Int32) (d2 : Int32) (d3 : Int32) (d4 : Int32) (d5 : Int32) (h0 : Heap) (n0 : Nat) (hn0 : n0 ≤ h0.size) (S_c : Sta Z Z.heap "java/lang/String" "COMPACT_STRINGS" "Z" (.int zc)) (hzc : ¬ zc = (0 : Int32)) (S_f : Sta Z Z.heap "jdk/internal/util/Preconditions" "SIOOBE_FORMATTER" "Ljava/util/function/BiFunction;" fm) (hfm : fm.isRef = true) (O0 : Old Z n0 h0) (R0 : Exa Z h0 r "strikebound/cli/InPlaceText") (R1 : Fld Z h0 r "strikebound/cli/InPlaceText" "chars" "[C" (.ref b)) (R2 : Fld Z h0 r "strikebound/cli/InPlaceText" "start" "I" (.int f)) (R3 : Fld Z h0 r "strikebound/cli/InPlaceText" "length" "I" (.int (4 : Int32))) (P0 : Arv Z h0 b kb .char (6 : Int32) [(.int d0), (.int d1), (.int d2), (.int d3), (.int d4), (.int d5)] (.int (0 : Int32))) (yb : @LT.lt Nat instLTNat b h0.size) (hf : f = (0 : Int32) ∨ f = (1 : Int32) ∨ f = (2 : Int32)) (hm : ∀ i : Int32, ¬ own_at [d0, d1, d2, d3, d4, d5] i < (0 : Int32) ∧ ¬ (255 : Int32) < own_at [d0, d1, d2, d3, d4, d5] i) (q1 : ¬ (((6 : Int32) ||| f) ||| (4 : Int32)) < (0 : Int32)) (q2 : ¬ ((6 : Int32) - f) < (4 : Int32)) :
    Con l Z (⟨"strikebound/cli/InPlaceText", "toString", "()Ljava/lang/String;"⟩ : MethodName) prog_26_method_8_code 1 (some (.object "java/lang/String")) [] ({ frames := 4, cells := 2, slots := 8, locals := 68 } : Room) #[(.ref r)] h0 (fun v h L => ∃ (c t : Addr) (k : ClassId), v = some (.ref c) ∧ Fr n0 L ∧ (@LT.lt Nat instLTNat c h.size) ∧ (@LT.lt Nat instLTNat t h.size) ∧ Keep h0 h [] ∧ Exa Z h c "java/lang/String" ∧ Fld Z h c "java/lang/String" "value" "[B" (.ref t) ∧ Fld Z h c "java/lang/String" "coder" "B" (.int (0 : Int32)) ∧ Arv Z h t k .byte (4 : Int32) [(.int (nar .byte ((own_at [d0, d1, d2, d3, d4, d5] f).toInt8.toInt32))), (.int (nar .byte ((own_at [d0, d1, d2, d3, d4, d5] (f + (1 : Int32))).toInt8.toInt32))), (.int (nar .byte ((own_at [d0, d1, d2, d3, d4, d5] ((f + (1 : Int32)) + (1 : Int32))).toInt8.toInt32))), (.int (nar .byte ((own_at [d0, d1, d2, d3, d4, d5] (((f + (1 : Int32)) + (1 : Int32)) + (1 : Int32))).toInt8.toInt32)))] (.int 0)) := by
  refine enter (Ls := #[.val (.ref r)]) (plainFor_of_name pn_1) (fun m => by exact entry_eq rfl) ?_
  intro p e s m below meth cd_ s₁ S0 hx hby hml hret hlk hnm hown hZ X0 e0 k0
  have N0 := Fr.nil n0
  obtain ⟨T1, h1, X1, e1, E1, A1, D1, -, st1⟩ := newO X0 hx hZ hown (wq hw 47 rfl) (wq hw 48 rfl) (wq hw 49 rfl) e0 (g := (mkF m 0 #[.val (.ref r)] [])) rfl (hb hby d_prog_26_method_8_code_0) (by decide) (by decide)
  obtain ⟨b1, g1⟩ : ∃ z, z = h0.size := ⟨_, rfl⟩
  rw [← g1] at A1 D1 st1
  have k1 : To p.tables e below S0 (T1.setTop (mkF m 3 #[.val (.ref r)] [(.ref b1)])) := fun tt hq => k0 tt (st1 tt hq)
  have z1 : h0.size ≤ h1.size := E1.1
  have y1 : @LT.lt Nat instLTNat b1 h1.size := A1.lt
  have F1_coder : Fld Z h1 b1 "java/lang/String" "coder" "B" (.int (0 : Int32)) := D1 (Or.inr (wq hw 82 rfl)) (ty := .byte) (by decide)
  have F1_value : Fld Z h1 b1 "java/lang/String" "value" "[B" .null := D1 (Or.inr (wq hw 84 rfl)) (ty := (.array .byte)) (by decide)
  have f2 : Fld Z h1 r "strikebound/cli/InPlaceText" "chars" "[C" (.ref b) := (R1.ext E1)
  have k3 : To p.tables e below S0 (T1.setTop (mkF m 5 #[.val (.ref r)] [(.ref r), (.ref b1), (.ref b1)])) := fun tt hq => k1 tt (by
    refine XS.dup X1.here hx rfl (hb hby d_prog_26_method_8_code_3) rfl rfl ?_
    refine XS.aloadN X1.here hx rfl (hb hby d_prog_26_method_8_code_4) rfl rfl ?_
    exact hq)
  obtain ⟨T4, X4, e4, st4⟩ := getF X1 hx hZ hown (host := "") (Or.inl (wq hw 16 rfl)) Via.refl e1 f2 (g := (mkF m 5 #[.val (.ref r)] [(.ref r), (.ref b1), (.ref b1)])) rfl rfl (hb hby d_prog_26_method_8_code_5)
  have k4 : To p.tables e below S0 (T4.setTop (mkF m 8 #[.val (.ref r)] [(.ref b), (.ref b1), (.ref b1)])) := fun tt hq => k3 tt (st4 tt hq)
  have f5 : Fld Z h1 r "strikebound/cli/InPlaceText" "start" "I" (.int f) := (R2.ext E1)
  have k6 : To p.tables e below S0 (T4.setTop (mkF m 9 #[.val (.ref r)] [(.ref r), (.ref b), (.ref b1), (.ref b1)])) := fun tt hq => k4 tt (by
    refine XS.aloadN X4.here hx rfl (hb hby d_prog_26_method_8_code_8) rfl rfl ?_
    exact hq)
  obtain ⟨T7, X7, e7, st7⟩ := getF X4 hx hZ hown (host := "") (Or.inl (wq hw 23 rfl)) Via.refl e4 f5 (g := (mkF m 9 #[.val (.ref r)] [(.ref r), (.ref b), (.ref b1), (.ref b1)])) rfl rfl (hb hby d_prog_26_method_8_code_9)
  have k7 : To p.tables e below S0 (T7.setTop (mkF m 12 #[.val (.ref r)] [(.int f), (.ref b), (.ref b1), (.ref b1)])) := fun tt hq => k6 tt (st7 tt hq)
  have f8 : Fld Z h1 r "strikebound/cli/InPlaceText" "length" "I" (.int (4 : Int32)) := (R3.ext E1)
  have k9 : To p.tables e below S0 (T7.setTop (mkF m 13 #[.val (.ref r)] [(.ref r), (.int f), (.ref b), (.ref b1), (.ref b1)])) := fun tt hq => k7 tt (by
    refine XS.aloadN X7.here hx rfl (hb hby d_prog_26_method_8_code_12) rfl rfl ?_
    exact hq)
  obtain ⟨T10, X10, e10, st10⟩ := getF X7 hx hZ hown (host := "") (Or.inl (wq hw 25 rfl)) Via.refl e7 f8 (g := (mkF m 13 #[.val (.ref r)] [(.ref r), (.int f), (.ref b), (.ref b1), (.ref b1)])) rfl rfl (hb hby d_prog_26_method_8_code_13)
  have k10 : To p.tables e below S0 (T10.setTop (mkF m 16 #[.val (.ref r)] [(.int (4 : Int32)), (.int f), (.ref b), (.ref b1), (.ref b1)])) := fun tt hq => k9 tt (st10 tt hq)
  have f11 : Old Z n0 h1 := (O0.ext E1)
  have f12 : Arv Z h1 b kb .char (6 : Int32) [(.int d0), (.int d1), (.int d2), (.int d3), (.int d4), (.int d5)] (.int (0 : Int32)) := (P0.ext E1)
  obtain ⟨_, T13, L13, X13, ⟨rfl, Nq13, Kq13, t13, kt13, gt13, P130, P131, P132, P133⟩, k13a⟩ := callC' X10 hx hZ (y := (⟨"java/lang/String", "<init>", "([CII)V"⟩ : MethodName)) rfl hown (wq hw 50 rfl) (wq hw 51 rfl) (wq hw 52 rfl) (by decide) (backC (W := 1) (rm_n3_4 l Z a0 hw zc fm b1 b kb .null (.int (0 : Int32)) f d0 d1 d2 d3 d4 d5 h1 n0 (by omega) S_c hzc S_f hfm f11 A1 F1_value F1_coder f12 (by omega) (by omega) (by omega) (by omega) hf hm q1 q2) hZ (wq hw 52 rfl) (wq hw 49 rfl) (by decide) (by decide)) e10 (argsL := [(.ref b), (.int f), (.int (4 : Int32))]) (rest := [(.ref b1)]) rfl rfl pd_7 rfl (by rw [hml]; rfl) (hb hby d_prog_26_method_8_code_16) (Nat.le_of_eq rfl) (by decide) (by decide) k10
  have k13 : To p.tables e below S0 (T13.setTop (mkF m 19 #[.val (.ref r)] [(.ref b1)])) := k13a
  have N13 := N0.app Nq13
  obtain ⟨h13, e13⟩ : ∃ z, T13.heap = z := ⟨_, rfl⟩
  rw [e13] at Kq13 gt13 P130 P131 P132 P133
  have z13 : h1.size ≤ h13.size := Kq13.1
  have hE := e13
  refine retRef X13 hx hret hlk rfl rfl (hb hby d_prog_26_method_8_code_19) k13 ?_ (by decide) (by decide)
  try rw [hE]
  exact ⟨_, _, _, rfl, N13, P130.lt, P133.lt, (((Keep.refl h0 []).ext E1).trans Kq13 (allS (Or.inr (by omega)) all0)), P130, P131, P132, P133⟩
set_option maxRecDepth 65536 in
set_option maxHeartbeats 40000000 in
theorem rm_lcs4 (l : Launch) (Z : State) (a0 : Array Value) (hw : ∀ d ∈ tables_1, d.before a0 Z = true) (fm : Value) (t : Addr) (kt : ClassId) (c0 : Int32) (c1 : Int32) (c2 : Int32) (c3 : Int32) (i : Int32) (h0 : Heap) (n0 : Nat) (hn0 : n0 ≤ h0.size) (S_f : Sta Z Z.heap "jdk/internal/util/Preconditions" "SIOOBE_FORMATTER" "Ljava/util/function/BiFunction;" fm) (hfm : fm.isRef = true) (O0 : Old Z n0 h0) (P0 : Arv Z h0 t kt .byte (4 : Int32) [(.int c0), (.int c1), (.int c2), (.int c3)] (.int (0 : Int32))) (hi0 : ¬ i < (0 : Int32)) (hi1 : i < (4 : Int32)) :
    Con l Z (⟨"java/lang/StringLatin1", "charAt", "([BI)C"⟩ : MethodName) jdk_43_method_2_code 2 (some .char) [] ({ frames := 2, cells := 0, slots := 0, locals := 27 } : Room) #[(.ref t), (.int i)] h0 (fun v h L => v = some (.int ((own_at [c0, c1, c2, c3] i) &&& (255 : Int32))) ∧ Fr n0 L ∧ h = h0) := by
  refine enter (Ls := #[.val (.ref t), .val (.int i)]) (plainFor_of_name pn_6) (fun m => by exact entry_eq rfl) ?_
  intro p e s m below meth cd_ s₁ S0 hx hby hml hret hlk hnm hown hZ X0 e0 k0
  have N0 := Fr.nil n0
  have k1 : To p.tables e below S0 (s₁.setTop (mkF m 2 #[.val (.ref t), .val (.int i)] [(.ref t), (.int i)])) := fun tt hq => k0 tt (by
    refine XS.iloadN X0.here hx rfl (hb hby d_jdk_43_method_2_code_0) rfl ?_
    refine XS.aloadN X0.here hx rfl (hb hby d_jdk_43_method_2_code_1) rfl rfl ?_
    exact hq)
  obtain ⟨cl2, Ar2, -, S2, M2, -, -⟩ := id P0
  have st2 := fun tt => X0.arraylength hx (by rw [e0]; exact Ar2.1) (State.isArrayOf_alike hZ.alike Ar2.2.1) (g := (mkF m 2 #[.val (.ref t), .val (.int i)] [(.ref t), (.int i)])) rfl rfl (hb hby d_jdk_43_method_2_code_2) tt
  rw [len_of S2 M2] at st2
  have k2 : To p.tables e below S0 (s₁.setTop (mkF m 3 #[.val (.ref t), .val (.int i)] [(.int (4 : Int32)), (.int i)])) := fun tt hq => k1 tt (st2 tt hq)
  obtain ⟨_, T3, L3, X3, ⟨rfl, Nq3, eq3⟩, k3a⟩ := callS' X0 hx hZ (y := (⟨"java/lang/String", "checkIndex", "(II)V"⟩ : MethodName)) hown (wq hw 121 rfl) (wq hw 122 rfl) (wq hw 49 rfl) (wq hw 123 rfl) (by decide) (backC (W := 0) (rm_chk l Z a0 hw fm i (4 : Int32) h0 n0 (by omega) S_f hfm O0 hi0 hi1) hZ (wq hw 123 rfl) (wq hw 49 rfl) (by decide) (by decide)) e0 (argsL := [(.int i), (.int (4 : Int32))]) (rest := []) rfl rfl pd_18 rfl (by rw [hml]; rfl) (hb hby d_jdk_43_method_2_code_3) (Nat.le_of_eq rfl) (by decide) (by decide) k2
  have k3 : To p.tables e below S0 (T3.setTop (mkF m 6 #[.val (.ref t), .val (.int i)] [])) := k3a
  have N3 := N0.app Nq3
  have e3 : T3.heap = h0 := eq3
  have k4 : To p.tables e below S0 (T3.setTop (mkF m 8 #[.val (.ref t), .val (.int i)] [(.int i), (.ref t)])) := fun tt hq => k3 tt (by
    refine XS.aloadN X3.here hx rfl (hb hby d_jdk_43_method_2_code_6) rfl rfl ?_
    refine XS.iloadN X3.here hx rfl (hb hby d_jdk_43_method_2_code_7) rfl ?_
    exact hq)
  obtain ⟨cl5, Ar5, -, S5, -, G5, -⟩ := id P0
  have hi5 := inb_of (j := i) S5 (⟨hi0, hi1⟩)
  have st5 := fun tt => X3.baloadBytes hx (j := i) (v := (.int (own_at [c0, c1, c2, c3] i))) (by rw [e3]; exact Ar5.1) (State.isArrayOf_alike hZ.alike Ar5.2.1) Ar5.2.2 hi5 (G5.at hi5 (own_atv [c0, c1, c2, c3] i)) (g := (mkF m 8 #[.val (.ref t), .val (.int i)] [(.int i), (.ref t)])) rfl rfl (hb hby d_jdk_43_method_2_code_8) tt
  have k5 : To p.tables e below S0 (T3.setTop (mkF m 9 #[.val (.ref t), .val (.int i)] [(.int (own_at [c0, c1, c2, c3] i))])) := fun tt hq => k4 tt (st5 tt hq)
  have k6 : To p.tables e below S0 (T3.setTop (mkF m 14 #[.val (.ref t), .val (.int i)] [(.int (((own_at [c0, c1, c2, c3] i) &&& (255 : Int32)).toUInt32.toUInt16.toUInt32.toInt32))])) := fun tt hq => k5 tt (by
    refine XS.sipush X3.here hx rfl (hb hby d_jdk_43_method_2_code_9) ?_
    refine XS.iand X3.here hx rfl (hb hby d_jdk_43_method_2_code_12) rfl ?_
    refine XS.i2c X3.here hx rfl (hb hby d_jdk_43_method_2_code_13) rfl ?_
    exact hq)
  have k7 : To p.tables e below S0 (T3.setTop (mkF m 14 #[.val (.ref t), .val (.int i)] [(.int ((own_at [c0, c1, c2, c3] i) &&& (255 : Int32)))])) := by have hq := k6; rw [i2c_mask] at hq; exact hq
  obtain ⟨v8, hv8⟩ : ∃ z : Int32, z = ((own_at [c0, c1, c2, c3] i) &&& (255 : Int32)) := ⟨_, rfl⟩
  have k8 : To p.tables e below S0 (T3.setTop (mkF m 14 #[.val (.ref t), .val (.int i)] [(.int v8)])) := by rw [hv8]; exact k7
  have mv8 : ¬ v8 < (0 : Int32) ∧ ¬ (255 : Int32) < v8 := by rw [hv8]; exact own_m255 _
  have hE := e3
  refine retInt X3 hx hret hlk (by simp) (congrArg Value.int (own_narc mv8)) (hb hby d_jdk_43_method_2_code_14) k8 ?_ (by decide) (by decide)
  try rw [hE]
  exact ⟨by rw [hv8], N3, rfl⟩
set_option maxRecDepth 65536 in
set_option maxHeartbeats 40000000 in
theorem rm_cs4 (l : Launch) (Z : State) (a0 : Array Value) (hw : ∀ d ∈ tables_1, d.before a0 Z = true) (zc : Int32) (fm : Value) (a : Addr) (t : Addr) (kt : ClassId) (c0 : Int32) (c1 : Int32) (c2 : Int32) (c3 : Int32) (i : Int32) (r : Int32) (h0 : Heap) (n0 : Nat) (hn0 : n0 ≤ h0.size) (S_c : Sta Z Z.heap "java/lang/String" "COMPACT_STRINGS" "Z" (.int zc)) (hzc : ¬ zc = (0 : Int32)) (S_f : Sta Z Z.heap "jdk/internal/util/Preconditions" "SIOOBE_FORMATTER" "Ljava/util/function/BiFunction;" fm) (hfm : fm.isRef = true) (O0 : Old Z n0 h0) (P0 : Exa Z h0 a "java/lang/String") (P1 : Fld Z h0 a "java/lang/String" "value" "[B" (.ref t)) (P2 : Fld Z h0 a "java/lang/String" "coder" "B" (.int (0 : Int32))) (P3 : Arv Z h0 t kt .byte (4 : Int32) [(.int c0), (.int c1), (.int c2), (.int c3)] (.int 0)) (hi0 : ¬ i < (0 : Int32)) (hi1 : i < (4 : Int32)) (hr : ((own_at [c0, c1, c2, c3] i) &&& (255 : Int32)) = r) :
    Con l Z (⟨"java/lang/String", "charAt", "(I)C"⟩ : MethodName) jdk_42_method_56_code 2 (some .char) [] ({ frames := 3, cells := 0, slots := 0, locals := 40 } : Room) #[(.ref a), (.int i)] h0 (fun v h L => v = some (.int r) ∧ Fr n0 L ∧ h = h0) := by
  refine enter (Ls := #[.val (.ref a), .val (.int i)]) (plainFor_of_name pn_3) (fun m => by exact entry_eq rfl) ?_
  intro p e s m below meth cd_ s₁ S0 hx hby hml hret hlk hnm hown hZ X0 e0 k0
  have N0 := Fr.nil n0
  have k1 : To p.tables e below S0 (s₁.setTop (mkF m 1 #[.val (.ref a), .val (.int i)] [(.ref a)])) := fun tt hq => k0 tt (by
    refine XS.aloadN X0.here hx rfl (hb hby d_jdk_42_method_56_code_0) rfl rfl ?_
    exact hq)
  obtain ⟨_, T2, L2, X2, ⟨rfl, Nq2, eq2⟩, k2a⟩ := callV' X0 hx hZ (y := (⟨"java/lang/String", "isLatin1", "()Z"⟩ : MethodName)) (z := (⟨"java/lang/String", "isLatin1", "()Z"⟩ : MethodName)) hown (wq hw 112 rfl) (wq hw 113 rfl) (notFace_of_selects (args := #[]) (mvT hZ (wq hw 115 rfl))) (wq hw 115 rfl) (wq hw 114 rfl) (by decide) P0 (backC (W := 0) (rm_latin l Z a0 hw zc a h0 n0 (by omega) S_c hzc O0 P2) hZ (wq hw 116 rfl) (wq hw 49 rfl) (by decide) (by decide)) e0 (argsL := []) (rest := []) rfl rfl pd_17 rfl (by rw [hml]; rfl) (hb hby d_jdk_42_method_56_code_1) (Nat.le_of_eq rfl) (by decide) (by decide) k1
  have k2 : To p.tables e below S0 (T2.setTop (mkF m 4 #[.val (.ref a), .val (.int i)] [(.int (1 : Int32))])) := k2a
  have N2 := N0.app Nq2
  have e2 : T2.heap = h0 := eq2
  have k3 : To p.tables e below S0 (T2.setTop (mkF m 8 #[.val (.ref a), .val (.int i)] [(.ref a)])) := fun tt hq => k2 tt (by
    refine XS.ifNo X2.here hx rfl (hb hby d_jdk_42_method_56_code_4) rfl ((if0 _ _).trans (feq (by decide)).1) ?_
    refine XS.aloadN X2.here hx rfl (hb hby d_jdk_42_method_56_code_7) rfl rfl ?_
    exact hq)
  obtain ⟨T4, X4, e4, st4⟩ := getF X2 hx hZ hown (host := "") (Or.inl (wq hw 83 rfl)) Via.refl e2 P1 (g := (mkF m 8 #[.val (.ref a), .val (.int i)] [(.ref a)])) rfl rfl (hb hby d_jdk_42_method_56_code_8)
  have k4 : To p.tables e below S0 (T4.setTop (mkF m 11 #[.val (.ref a), .val (.int i)] [(.ref t)])) := fun tt hq => k3 tt (st4 tt hq)
  have k5 : To p.tables e below S0 (T4.setTop (mkF m 12 #[.val (.ref a), .val (.int i)] [(.int i), (.ref t)])) := fun tt hq => k4 tt (by
    refine XS.iloadN X4.here hx rfl (hb hby d_jdk_42_method_56_code_11) rfl ?_
    exact hq)
  obtain ⟨_, T6, L6, X6, ⟨rfl, Nq6, eq6⟩, k6a⟩ := callS' X4 hx hZ (y := (⟨"java/lang/StringLatin1", "charAt", "([BI)C"⟩ : MethodName)) hown (wq hw 117 rfl) (wq hw 118 rfl) (wq hw 119 rfl) (wq hw 120 rfl) (by decide) (backC (W := 0) (rm_lcs4 l Z a0 hw fm t kt c0 c1 c2 c3 i h0 n0 (by omega) S_f hfm O0 P3 hi0 hi1) hZ (wq hw 120 rfl) (wq hw 119 rfl) (by decide) (by decide)) e4 (argsL := [(.ref t), (.int i)]) (rest := []) rfl rfl pd_19 rfl (by rw [hml]; rfl) (hb hby d_jdk_42_method_56_code_12) (Nat.le_of_eq rfl) (by decide) (by decide) k5
  have k6 : To p.tables e below S0 (T6.setTop (mkF m 15 #[.val (.ref a), .val (.int i)] [(.int ((own_at [c0, c1, c2, c3] i) &&& (255 : Int32)))])) := k6a
  have N6 := N2.app Nq6
  have e6 : T6.heap = h0 := eq6
  have hE := e6
  refine retInt X6 hx hret hlk (by simp) (own_narrowc _) (hb hby d_jdk_42_method_56_code_15) k6 ?_ (by decide) (by decide)
  try rw [hE]
  exact ⟨by rw [hr], N6, rfl⟩
set_option maxRecDepth 65536 in
set_option maxHeartbeats 40000000 in
theorem rm_c5_5 (l : Launch) (Z : State) (a0 : Array Value) (hw : ∀ d ∈ tables_1, d.before a0 Z = true) (b : Addr) (kb : ClassId) (t : Addr) (kt : ClassId) (f : Int32) (d0 : Int32) (d1 : Int32) (d2 : Int32) (d3 : Int32) (d4 : Int32) (d5 : Int32) (h0 : Heap) (n0 : Nat) (hn0 : n0 ≤ h0.size) (P0 : Arv Z h0 b kb .char (6 : Int32) [(.int d0), (.int d1), (.int d2), (.int d3), (.int d4), (.int d5)] (.int (0 : Int32))) (P1 : Arv Z h0 t kt .byte (5 : Int32) [(.int (0 : Int32)), (.int (0 : Int32)), (.int (0 : Int32)), (.int (0 : Int32)), (.int (0 : Int32))] (.int (0 : Int32))) (ga : n0 ≤ t) (nbt : ¬ (@Eq Nat b t)) (hf : f = (0 : Int32) ∨ f = (1 : Int32)) (hm : ∀ i : Int32, ¬ own_at [d0, d1, d2, d3, d4, d5] i < (0 : Int32) ∧ ¬ (255 : Int32) < own_at [d0, d1, d2, d3, d4, d5] i) :
    Con l Z (⟨"java/lang/StringUTF16", "compress", "([CI[BII)I"⟩ : MethodName) jdk_52_method_21_code 7 (some .int) [] ({ frames := 0, cells := 0, slots := 0, locals := 0 } : Room) #[(.ref b), (.int f), (.ref t), (.int (0 : Int32)), (.int (5 : Int32))] h0 (fun v h L => v = some (.int (5 : Int32)) ∧ Fr n0 L ∧ Keep h0 h [t] ∧ Arv Z h t kt .byte (5 : Int32) [(.int (nar .byte ((own_at [d0, d1, d2, d3, d4, d5] f).toInt8.toInt32))), (.int (nar .byte ((own_at [d0, d1, d2, d3, d4, d5] (f + (1 : Int32))).toInt8.toInt32))), (.int (nar .byte ((own_at [d0, d1, d2, d3, d4, d5] ((f + (1 : Int32)) + (1 : Int32))).toInt8.toInt32))), (.int (nar .byte ((own_at [d0, d1, d2, d3, d4, d5] (((f + (1 : Int32)) + (1 : Int32)) + (1 : Int32))).toInt8.toInt32))), (.int (nar .byte ((own_at [d0, d1, d2, d3, d4, d5] ((((f + (1 : Int32)) + (1 : Int32)) + (1 : Int32)) + (1 : Int32))).toInt8.toInt32)))] (.int (0 : Int32))) := by
  refine enter (Ls := #[.val (.ref b), .val (.int f), .val (.ref t), .val (.int (0 : Int32)), .val (.int (5 : Int32)), .unset, .unset]) (plainFor_of_name pn_5) (fun m => by exact entry_eq rfl) ?_
  intro p e s m below meth cd_ s₁ S0 hx hby hml hret hlk hnm hown hZ X0 e0 k0
  have N0 := Fr.nil n0
  have k1 : To p.tables e below S0 (s₁.setTop (mkF m 12 #[.val (.ref b), .val (.int f), .val (.ref t), .val (.int (0 : Int32)), .val (.int (5 : Int32)), .val (.int (0 : Int32)), .unset] [(.int f), (.ref b)])) := fun tt hq => k0 tt (by
    refine XS.iconst X0.here hx rfl (hb hby d_jdk_52_method_21_code_0) ?_
    refine XS.istore X0.here hx rfl (hb hby d_jdk_52_method_21_code_1) rfl (l' := #[.val (.ref b), .val (.int f), .val (.ref t), .val (.int (0 : Int32)), .val (.int (5 : Int32)), .val (.int (0 : Int32)), .unset]) rfl ?_
    refine XS.iload X0.here hx rfl (hb hby d_jdk_52_method_21_code_3) rfl ?_
    refine XS.iload X0.here hx rfl (hb hby d_jdk_52_method_21_code_5) rfl ?_
    refine XS.icmpNo X0.here hx rfl (hb hby d_jdk_52_method_21_code_7) rfl (tlt (by decide)).2.1 ?_
    refine XS.aloadN X0.here hx rfl (hb hby d_jdk_52_method_21_code_10) rfl rfl ?_
    refine XS.iloadN X0.here hx rfl (hb hby d_jdk_52_method_21_code_11) rfl ?_
    exact hq)
  obtain ⟨cl2, Ar2, -, S2, -, G2, -⟩ := id P0
  have hi2 := inb_of (j := f) S2 (by rcases hf with rfl | rfl <;> decide)
  have st2 := fun tt => X0.caload hx (j := f) (v := (.int (own_at [d0, d1, d2, d3, d4, d5] f))) (by rw [e0]; exact Ar2.1) (State.isArrayOf_alike hZ.alike Ar2.2.1) Ar2.2.2 hi2 (G2.at hi2 (own_atv [d0, d1, d2, d3, d4, d5] f)) (g := (mkF m 12 #[.val (.ref b), .val (.int f), .val (.ref t), .val (.int (0 : Int32)), .val (.int (5 : Int32)), .val (.int (0 : Int32)), .unset] [(.int f), (.ref b)])) rfl rfl (hb hby d_jdk_52_method_21_code_12) tt
  have k2 : To p.tables e below S0 (s₁.setTop (mkF m 13 #[.val (.ref b), .val (.int f), .val (.ref t), .val (.int (0 : Int32)), .val (.int (5 : Int32)), .val (.int (0 : Int32)), .unset] [(.int (own_at [d0, d1, d2, d3, d4, d5] f))])) := fun tt hq => k1 tt (st2 tt hq)
  have k3 : To p.tables e below S0 (s₁.setTop (mkF m 31 #[.val (.ref b), .val (.int f), .val (.ref t), .val (.int (0 : Int32)), .val (.int (5 : Int32)), .val (.int (0 : Int32)), .val (.int (own_at [d0, d1, d2, d3, d4, d5] f))] [(.int ((own_at [d0, d1, d2, d3, d4, d5] f).toInt8.toInt32)), (.int (0 : Int32)), (.ref t)])) := fun tt hq => k2 tt (by
    refine XS.istore X0.here hx rfl (hb hby d_jdk_52_method_21_code_13) rfl (l' := #[.val (.ref b), .val (.int f), .val (.ref t), .val (.int (0 : Int32)), .val (.int (5 : Int32)), .val (.int (0 : Int32)), .val (.int (own_at [d0, d1, d2, d3, d4, d5] f))]) rfl ?_
    refine XS.iload X0.here hx rfl (hb hby d_jdk_52_method_21_code_15) rfl ?_
    refine XS.sipush X0.here hx rfl (hb hby d_jdk_52_method_21_code_17) ?_
    refine XS.icmpYes X0.here hx rfl (pc0 := 20) (pc' := 26) rfl (hb hby d_jdk_52_method_21_code_20) rfl (flt (hm f).2).2.2.2 (by decide) (by decide) ?_
    refine XS.aloadN X0.here hx rfl (hb hby d_jdk_52_method_21_code_26) rfl rfl ?_
    refine XS.iloadN X0.here hx rfl (hb hby d_jdk_52_method_21_code_27) rfl ?_
    refine XS.iload X0.here hx rfl (hb hby d_jdk_52_method_21_code_28) rfl ?_
    refine XS.i2b X0.here hx rfl (hb hby d_jdk_52_method_21_code_30) rfl ?_
    exact hq)
  obtain ⟨cl4, Ar4, q4, S4, M4, G4, J4⟩ := id P1
  obtain ⟨T4, h4, X4, e4, W4, st4⟩ := stB X0 hx hZ e0 Ar4 (j := (0 : Int32)) (inb_of S4 ⟨by decide, by decide⟩) (g := (mkF m 31 #[.val (.ref b), .val (.int f), .val (.ref t), .val (.int (0 : Int32)), .val (.int (5 : Int32)), .val (.int (0 : Int32)), .val (.int (own_at [d0, d1, d2, d3, d4, d5] f))] [(.int ((own_at [d0, d1, d2, d3, d4, d5] f).toInt8.toInt32)), (.int (0 : Int32)), (.ref t)])) rfl rfl (hb hby d_jdk_52_method_21_code_31)
  have k4 : To p.tables e below S0 (T4.setTop (mkF m 32 #[.val (.ref b), .val (.int f), .val (.ref t), .val (.int (0 : Int32)), .val (.int (5 : Int32)), .val (.int (0 : Int32)), .val (.int (own_at [d0, d1, d2, d3, d4, d5] f))] [])) := fun tt hq => k3 tt (st4 tt hq)
  have z4 : h4.size = h0.size := W4.size
  have V4 : Arv Z h4 t kt .byte (5 : Int32) [(.int (nar .byte ((own_at [d0, d1, d2, d3, d4, d5] f).toInt8.toInt32))), (.int (0 : Int32)), (.int (0 : Int32)), (.int (0 : Int32)), (.int (0 : Int32))] (.int (0 : Int32)) := Arv.set Ar4 q4 S4 M4 G4 J4 (fits_nar_byte _) W4 0 rfl (Nat.le_of_ble_eq_true rfl)
  have N4 := Fr.snoc X4 N0 (by omega : n0 ≤ t)
  have f5 : Arv Z h4 b kb .char (6 : Int32) [(.int d0), (.int d1), (.int d2), (.int d3), (.int d4), (.int d5)] (.int (0 : Int32)) := (P0.other W4 (adr_ne (by omega)))
  have k6 : To p.tables e below S0 (T4.setTop (mkF m 12 #[.val (.ref b), .val (.int (f + (1 : Int32))), .val (.ref t), .val (.int (1 : Int32)), .val (.int (5 : Int32)), .val (.int (1 : Int32)), .val (.int (own_at [d0, d1, d2, d3, d4, d5] f))] [(.int (f + (1 : Int32))), (.ref b)])) := fun tt hq => k4 tt (by
    refine XS.iinc X4.here hx rfl (hb hby d_jdk_52_method_21_code_32) rfl (l' := #[.val (.ref b), .val (.int (f + (1 : Int32))), .val (.ref t), .val (.int (0 : Int32)), .val (.int (5 : Int32)), .val (.int (0 : Int32)), .val (.int (own_at [d0, d1, d2, d3, d4, d5] f))]) rfl ?_
    refine XS.iinc X4.here hx rfl (hb hby d_jdk_52_method_21_code_35) rfl (l' := #[.val (.ref b), .val (.int (f + (1 : Int32))), .val (.ref t), .val (.int (1 : Int32)), .val (.int (5 : Int32)), .val (.int (0 : Int32)), .val (.int (own_at [d0, d1, d2, d3, d4, d5] f))]) rfl ?_
    refine XS.iinc X4.here hx rfl (hb hby d_jdk_52_method_21_code_38) rfl (l' := #[.val (.ref b), .val (.int (f + (1 : Int32))), .val (.ref t), .val (.int (1 : Int32)), .val (.int (5 : Int32)), .val (.int (1 : Int32)), .val (.int (own_at [d0, d1, d2, d3, d4, d5] f))]) rfl ?_
    refine XS.goto X4.here hx rfl (pc0 := 41) (pc' := 3) rfl (hb hby d_jdk_52_method_21_code_41) (by decide) (by decide) ?_
    refine XS.iload X4.here hx rfl (hb hby d_jdk_52_method_21_code_3) rfl ?_
    refine XS.iload X4.here hx rfl (hb hby d_jdk_52_method_21_code_5) rfl ?_
    refine XS.icmpNo X4.here hx rfl (hb hby d_jdk_52_method_21_code_7) rfl (tlt (by decide)).2.1 ?_
    refine XS.aloadN X4.here hx rfl (hb hby d_jdk_52_method_21_code_10) rfl rfl ?_
    refine XS.iloadN X4.here hx rfl (hb hby d_jdk_52_method_21_code_11) rfl ?_
    exact hq)
  obtain ⟨cl7, Ar7, -, S7, -, G7, -⟩ := id f5
  have hi7 := inb_of (j := (f + (1 : Int32))) S7 (by rcases hf with rfl | rfl <;> decide)
  have st7 := fun tt => X4.caload hx (j := (f + (1 : Int32))) (v := (.int (own_at [d0, d1, d2, d3, d4, d5] (f + (1 : Int32))))) (by rw [e4]; exact Ar7.1) (State.isArrayOf_alike hZ.alike Ar7.2.1) Ar7.2.2 hi7 (G7.at hi7 (own_atv [d0, d1, d2, d3, d4, d5] (f + (1 : Int32)))) (g := (mkF m 12 #[.val (.ref b), .val (.int (f + (1 : Int32))), .val (.ref t), .val (.int (1 : Int32)), .val (.int (5 : Int32)), .val (.int (1 : Int32)), .val (.int (own_at [d0, d1, d2, d3, d4, d5] f))] [(.int (f + (1 : Int32))), (.ref b)])) rfl rfl (hb hby d_jdk_52_method_21_code_12) tt
  have k7 : To p.tables e below S0 (T4.setTop (mkF m 13 #[.val (.ref b), .val (.int (f + (1 : Int32))), .val (.ref t), .val (.int (1 : Int32)), .val (.int (5 : Int32)), .val (.int (1 : Int32)), .val (.int (own_at [d0, d1, d2, d3, d4, d5] f))] [(.int (own_at [d0, d1, d2, d3, d4, d5] (f + (1 : Int32))))])) := fun tt hq => k6 tt (st7 tt hq)
  have k8 : To p.tables e below S0 (T4.setTop (mkF m 31 #[.val (.ref b), .val (.int (f + (1 : Int32))), .val (.ref t), .val (.int (1 : Int32)), .val (.int (5 : Int32)), .val (.int (1 : Int32)), .val (.int (own_at [d0, d1, d2, d3, d4, d5] (f + (1 : Int32))))] [(.int ((own_at [d0, d1, d2, d3, d4, d5] (f + (1 : Int32))).toInt8.toInt32)), (.int (1 : Int32)), (.ref t)])) := fun tt hq => k7 tt (by
    refine XS.istore X4.here hx rfl (hb hby d_jdk_52_method_21_code_13) rfl (l' := #[.val (.ref b), .val (.int (f + (1 : Int32))), .val (.ref t), .val (.int (1 : Int32)), .val (.int (5 : Int32)), .val (.int (1 : Int32)), .val (.int (own_at [d0, d1, d2, d3, d4, d5] (f + (1 : Int32))))]) rfl ?_
    refine XS.iload X4.here hx rfl (hb hby d_jdk_52_method_21_code_15) rfl ?_
    refine XS.sipush X4.here hx rfl (hb hby d_jdk_52_method_21_code_17) ?_
    refine XS.icmpYes X4.here hx rfl (pc0 := 20) (pc' := 26) rfl (hb hby d_jdk_52_method_21_code_20) rfl (flt (hm (f + (1 : Int32))).2).2.2.2 (by decide) (by decide) ?_
    refine XS.aloadN X4.here hx rfl (hb hby d_jdk_52_method_21_code_26) rfl rfl ?_
    refine XS.iloadN X4.here hx rfl (hb hby d_jdk_52_method_21_code_27) rfl ?_
    refine XS.iload X4.here hx rfl (hb hby d_jdk_52_method_21_code_28) rfl ?_
    refine XS.i2b X4.here hx rfl (hb hby d_jdk_52_method_21_code_30) rfl ?_
    exact hq)
  obtain ⟨cl9, Ar9, q9, S9, M9, G9, J9⟩ := id V4
  obtain ⟨T9, h9, X9, e9, W9, st9⟩ := stB X4 hx hZ e4 Ar9 (j := (1 : Int32)) (inb_of S9 ⟨by decide, by decide⟩) (g := (mkF m 31 #[.val (.ref b), .val (.int (f + (1 : Int32))), .val (.ref t), .val (.int (1 : Int32)), .val (.int (5 : Int32)), .val (.int (1 : Int32)), .val (.int (own_at [d0, d1, d2, d3, d4, d5] (f + (1 : Int32))))] [(.int ((own_at [d0, d1, d2, d3, d4, d5] (f + (1 : Int32))).toInt8.toInt32)), (.int (1 : Int32)), (.ref t)])) rfl rfl (hb hby d_jdk_52_method_21_code_31)
  have k9 : To p.tables e below S0 (T9.setTop (mkF m 32 #[.val (.ref b), .val (.int (f + (1 : Int32))), .val (.ref t), .val (.int (1 : Int32)), .val (.int (5 : Int32)), .val (.int (1 : Int32)), .val (.int (own_at [d0, d1, d2, d3, d4, d5] (f + (1 : Int32))))] [])) := fun tt hq => k8 tt (st9 tt hq)
  have z9 : h9.size = h4.size := W9.size
  have V9 : Arv Z h9 t kt .byte (5 : Int32) [(.int (nar .byte ((own_at [d0, d1, d2, d3, d4, d5] f).toInt8.toInt32))), (.int (nar .byte ((own_at [d0, d1, d2, d3, d4, d5] (f + (1 : Int32))).toInt8.toInt32))), (.int (0 : Int32)), (.int (0 : Int32)), (.int (0 : Int32))] (.int (0 : Int32)) := Arv.set Ar9 q9 S9 M9 G9 J9 (fits_nar_byte _) W9 1 rfl (Nat.le_of_ble_eq_true rfl)
  have N9 := Fr.snoc X9 N4 (by omega : n0 ≤ t)
  have f10 : Arv Z h9 b kb .char (6 : Int32) [(.int d0), (.int d1), (.int d2), (.int d3), (.int d4), (.int d5)] (.int (0 : Int32)) := (f5.other W9 (adr_ne (by omega)))
  have k11 : To p.tables e below S0 (T9.setTop (mkF m 12 #[.val (.ref b), .val (.int ((f + (1 : Int32)) + (1 : Int32))), .val (.ref t), .val (.int (2 : Int32)), .val (.int (5 : Int32)), .val (.int (2 : Int32)), .val (.int (own_at [d0, d1, d2, d3, d4, d5] (f + (1 : Int32))))] [(.int ((f + (1 : Int32)) + (1 : Int32))), (.ref b)])) := fun tt hq => k9 tt (by
    refine XS.iinc X9.here hx rfl (hb hby d_jdk_52_method_21_code_32) rfl (l' := #[.val (.ref b), .val (.int ((f + (1 : Int32)) + (1 : Int32))), .val (.ref t), .val (.int (1 : Int32)), .val (.int (5 : Int32)), .val (.int (1 : Int32)), .val (.int (own_at [d0, d1, d2, d3, d4, d5] (f + (1 : Int32))))]) rfl ?_
    refine XS.iinc X9.here hx rfl (hb hby d_jdk_52_method_21_code_35) rfl (l' := #[.val (.ref b), .val (.int ((f + (1 : Int32)) + (1 : Int32))), .val (.ref t), .val (.int (2 : Int32)), .val (.int (5 : Int32)), .val (.int (1 : Int32)), .val (.int (own_at [d0, d1, d2, d3, d4, d5] (f + (1 : Int32))))]) rfl ?_
    refine XS.iinc X9.here hx rfl (hb hby d_jdk_52_method_21_code_38) rfl (l' := #[.val (.ref b), .val (.int ((f + (1 : Int32)) + (1 : Int32))), .val (.ref t), .val (.int (2 : Int32)), .val (.int (5 : Int32)), .val (.int (2 : Int32)), .val (.int (own_at [d0, d1, d2, d3, d4, d5] (f + (1 : Int32))))]) rfl ?_
    refine XS.goto X9.here hx rfl (pc0 := 41) (pc' := 3) rfl (hb hby d_jdk_52_method_21_code_41) (by decide) (by decide) ?_
    refine XS.iload X9.here hx rfl (hb hby d_jdk_52_method_21_code_3) rfl ?_
    refine XS.iload X9.here hx rfl (hb hby d_jdk_52_method_21_code_5) rfl ?_
    refine XS.icmpNo X9.here hx rfl (hb hby d_jdk_52_method_21_code_7) rfl (tlt (by decide)).2.1 ?_
    refine XS.aloadN X9.here hx rfl (hb hby d_jdk_52_method_21_code_10) rfl rfl ?_
    refine XS.iloadN X9.here hx rfl (hb hby d_jdk_52_method_21_code_11) rfl ?_
    exact hq)
  obtain ⟨cl12, Ar12, -, S12, -, G12, -⟩ := id f10
  have hi12 := inb_of (j := ((f + (1 : Int32)) + (1 : Int32))) S12 (by rcases hf with rfl | rfl <;> decide)
  have st12 := fun tt => X9.caload hx (j := ((f + (1 : Int32)) + (1 : Int32))) (v := (.int (own_at [d0, d1, d2, d3, d4, d5] ((f + (1 : Int32)) + (1 : Int32))))) (by rw [e9]; exact Ar12.1) (State.isArrayOf_alike hZ.alike Ar12.2.1) Ar12.2.2 hi12 (G12.at hi12 (own_atv [d0, d1, d2, d3, d4, d5] ((f + (1 : Int32)) + (1 : Int32)))) (g := (mkF m 12 #[.val (.ref b), .val (.int ((f + (1 : Int32)) + (1 : Int32))), .val (.ref t), .val (.int (2 : Int32)), .val (.int (5 : Int32)), .val (.int (2 : Int32)), .val (.int (own_at [d0, d1, d2, d3, d4, d5] (f + (1 : Int32))))] [(.int ((f + (1 : Int32)) + (1 : Int32))), (.ref b)])) rfl rfl (hb hby d_jdk_52_method_21_code_12) tt
  have k12 : To p.tables e below S0 (T9.setTop (mkF m 13 #[.val (.ref b), .val (.int ((f + (1 : Int32)) + (1 : Int32))), .val (.ref t), .val (.int (2 : Int32)), .val (.int (5 : Int32)), .val (.int (2 : Int32)), .val (.int (own_at [d0, d1, d2, d3, d4, d5] (f + (1 : Int32))))] [(.int (own_at [d0, d1, d2, d3, d4, d5] ((f + (1 : Int32)) + (1 : Int32))))])) := fun tt hq => k11 tt (st12 tt hq)
  have k13 : To p.tables e below S0 (T9.setTop (mkF m 31 #[.val (.ref b), .val (.int ((f + (1 : Int32)) + (1 : Int32))), .val (.ref t), .val (.int (2 : Int32)), .val (.int (5 : Int32)), .val (.int (2 : Int32)), .val (.int (own_at [d0, d1, d2, d3, d4, d5] ((f + (1 : Int32)) + (1 : Int32))))] [(.int ((own_at [d0, d1, d2, d3, d4, d5] ((f + (1 : Int32)) + (1 : Int32))).toInt8.toInt32)), (.int (2 : Int32)), (.ref t)])) := fun tt hq => k12 tt (by
    refine XS.istore X9.here hx rfl (hb hby d_jdk_52_method_21_code_13) rfl (l' := #[.val (.ref b), .val (.int ((f + (1 : Int32)) + (1 : Int32))), .val (.ref t), .val (.int (2 : Int32)), .val (.int (5 : Int32)), .val (.int (2 : Int32)), .val (.int (own_at [d0, d1, d2, d3, d4, d5] ((f + (1 : Int32)) + (1 : Int32))))]) rfl ?_
    refine XS.iload X9.here hx rfl (hb hby d_jdk_52_method_21_code_15) rfl ?_
    refine XS.sipush X9.here hx rfl (hb hby d_jdk_52_method_21_code_17) ?_
    refine XS.icmpYes X9.here hx rfl (pc0 := 20) (pc' := 26) rfl (hb hby d_jdk_52_method_21_code_20) rfl (flt (hm ((f + (1 : Int32)) + (1 : Int32))).2).2.2.2 (by decide) (by decide) ?_
    refine XS.aloadN X9.here hx rfl (hb hby d_jdk_52_method_21_code_26) rfl rfl ?_
    refine XS.iloadN X9.here hx rfl (hb hby d_jdk_52_method_21_code_27) rfl ?_
    refine XS.iload X9.here hx rfl (hb hby d_jdk_52_method_21_code_28) rfl ?_
    refine XS.i2b X9.here hx rfl (hb hby d_jdk_52_method_21_code_30) rfl ?_
    exact hq)
  obtain ⟨cl14, Ar14, q14, S14, M14, G14, J14⟩ := id V9
  obtain ⟨T14, h14, X14, e14, W14, st14⟩ := stB X9 hx hZ e9 Ar14 (j := (2 : Int32)) (inb_of S14 ⟨by decide, by decide⟩) (g := (mkF m 31 #[.val (.ref b), .val (.int ((f + (1 : Int32)) + (1 : Int32))), .val (.ref t), .val (.int (2 : Int32)), .val (.int (5 : Int32)), .val (.int (2 : Int32)), .val (.int (own_at [d0, d1, d2, d3, d4, d5] ((f + (1 : Int32)) + (1 : Int32))))] [(.int ((own_at [d0, d1, d2, d3, d4, d5] ((f + (1 : Int32)) + (1 : Int32))).toInt8.toInt32)), (.int (2 : Int32)), (.ref t)])) rfl rfl (hb hby d_jdk_52_method_21_code_31)
  have k14 : To p.tables e below S0 (T14.setTop (mkF m 32 #[.val (.ref b), .val (.int ((f + (1 : Int32)) + (1 : Int32))), .val (.ref t), .val (.int (2 : Int32)), .val (.int (5 : Int32)), .val (.int (2 : Int32)), .val (.int (own_at [d0, d1, d2, d3, d4, d5] ((f + (1 : Int32)) + (1 : Int32))))] [])) := fun tt hq => k13 tt (st14 tt hq)
  have z14 : h14.size = h9.size := W14.size
  have V14 : Arv Z h14 t kt .byte (5 : Int32) [(.int (nar .byte ((own_at [d0, d1, d2, d3, d4, d5] f).toInt8.toInt32))), (.int (nar .byte ((own_at [d0, d1, d2, d3, d4, d5] (f + (1 : Int32))).toInt8.toInt32))), (.int (nar .byte ((own_at [d0, d1, d2, d3, d4, d5] ((f + (1 : Int32)) + (1 : Int32))).toInt8.toInt32))), (.int (0 : Int32)), (.int (0 : Int32))] (.int (0 : Int32)) := Arv.set Ar14 q14 S14 M14 G14 J14 (fits_nar_byte _) W14 2 rfl (Nat.le_of_ble_eq_true rfl)
  have N14 := Fr.snoc X14 N9 (by omega : n0 ≤ t)
  have f15 : Arv Z h14 b kb .char (6 : Int32) [(.int d0), (.int d1), (.int d2), (.int d3), (.int d4), (.int d5)] (.int (0 : Int32)) := (f10.other W14 (adr_ne (by omega)))
  have k16 : To p.tables e below S0 (T14.setTop (mkF m 12 #[.val (.ref b), .val (.int (((f + (1 : Int32)) + (1 : Int32)) + (1 : Int32))), .val (.ref t), .val (.int (3 : Int32)), .val (.int (5 : Int32)), .val (.int (3 : Int32)), .val (.int (own_at [d0, d1, d2, d3, d4, d5] ((f + (1 : Int32)) + (1 : Int32))))] [(.int (((f + (1 : Int32)) + (1 : Int32)) + (1 : Int32))), (.ref b)])) := fun tt hq => k14 tt (by
    refine XS.iinc X14.here hx rfl (hb hby d_jdk_52_method_21_code_32) rfl (l' := #[.val (.ref b), .val (.int (((f + (1 : Int32)) + (1 : Int32)) + (1 : Int32))), .val (.ref t), .val (.int (2 : Int32)), .val (.int (5 : Int32)), .val (.int (2 : Int32)), .val (.int (own_at [d0, d1, d2, d3, d4, d5] ((f + (1 : Int32)) + (1 : Int32))))]) rfl ?_
    refine XS.iinc X14.here hx rfl (hb hby d_jdk_52_method_21_code_35) rfl (l' := #[.val (.ref b), .val (.int (((f + (1 : Int32)) + (1 : Int32)) + (1 : Int32))), .val (.ref t), .val (.int (3 : Int32)), .val (.int (5 : Int32)), .val (.int (2 : Int32)), .val (.int (own_at [d0, d1, d2, d3, d4, d5] ((f + (1 : Int32)) + (1 : Int32))))]) rfl ?_
    refine XS.iinc X14.here hx rfl (hb hby d_jdk_52_method_21_code_38) rfl (l' := #[.val (.ref b), .val (.int (((f + (1 : Int32)) + (1 : Int32)) + (1 : Int32))), .val (.ref t), .val (.int (3 : Int32)), .val (.int (5 : Int32)), .val (.int (3 : Int32)), .val (.int (own_at [d0, d1, d2, d3, d4, d5] ((f + (1 : Int32)) + (1 : Int32))))]) rfl ?_
    refine XS.goto X14.here hx rfl (pc0 := 41) (pc' := 3) rfl (hb hby d_jdk_52_method_21_code_41) (by decide) (by decide) ?_
    refine XS.iload X14.here hx rfl (hb hby d_jdk_52_method_21_code_3) rfl ?_
    refine XS.iload X14.here hx rfl (hb hby d_jdk_52_method_21_code_5) rfl ?_
    refine XS.icmpNo X14.here hx rfl (hb hby d_jdk_52_method_21_code_7) rfl (tlt (by decide)).2.1 ?_
    refine XS.aloadN X14.here hx rfl (hb hby d_jdk_52_method_21_code_10) rfl rfl ?_
    refine XS.iloadN X14.here hx rfl (hb hby d_jdk_52_method_21_code_11) rfl ?_
    exact hq)
  obtain ⟨cl17, Ar17, -, S17, -, G17, -⟩ := id f15
  have hi17 := inb_of (j := (((f + (1 : Int32)) + (1 : Int32)) + (1 : Int32))) S17 (by rcases hf with rfl | rfl <;> decide)
  have st17 := fun tt => X14.caload hx (j := (((f + (1 : Int32)) + (1 : Int32)) + (1 : Int32))) (v := (.int (own_at [d0, d1, d2, d3, d4, d5] (((f + (1 : Int32)) + (1 : Int32)) + (1 : Int32))))) (by rw [e14]; exact Ar17.1) (State.isArrayOf_alike hZ.alike Ar17.2.1) Ar17.2.2 hi17 (G17.at hi17 (own_atv [d0, d1, d2, d3, d4, d5] (((f + (1 : Int32)) + (1 : Int32)) + (1 : Int32)))) (g := (mkF m 12 #[.val (.ref b), .val (.int (((f + (1 : Int32)) + (1 : Int32)) + (1 : Int32))), .val (.ref t), .val (.int (3 : Int32)), .val (.int (5 : Int32)), .val (.int (3 : Int32)), .val (.int (own_at [d0, d1, d2, d3, d4, d5] ((f + (1 : Int32)) + (1 : Int32))))] [(.int (((f + (1 : Int32)) + (1 : Int32)) + (1 : Int32))), (.ref b)])) rfl rfl (hb hby d_jdk_52_method_21_code_12) tt
  have k17 : To p.tables e below S0 (T14.setTop (mkF m 13 #[.val (.ref b), .val (.int (((f + (1 : Int32)) + (1 : Int32)) + (1 : Int32))), .val (.ref t), .val (.int (3 : Int32)), .val (.int (5 : Int32)), .val (.int (3 : Int32)), .val (.int (own_at [d0, d1, d2, d3, d4, d5] ((f + (1 : Int32)) + (1 : Int32))))] [(.int (own_at [d0, d1, d2, d3, d4, d5] (((f + (1 : Int32)) + (1 : Int32)) + (1 : Int32))))])) := fun tt hq => k16 tt (st17 tt hq)
  have k18 : To p.tables e below S0 (T14.setTop (mkF m 31 #[.val (.ref b), .val (.int (((f + (1 : Int32)) + (1 : Int32)) + (1 : Int32))), .val (.ref t), .val (.int (3 : Int32)), .val (.int (5 : Int32)), .val (.int (3 : Int32)), .val (.int (own_at [d0, d1, d2, d3, d4, d5] (((f + (1 : Int32)) + (1 : Int32)) + (1 : Int32))))] [(.int ((own_at [d0, d1, d2, d3, d4, d5] (((f + (1 : Int32)) + (1 : Int32)) + (1 : Int32))).toInt8.toInt32)), (.int (3 : Int32)), (.ref t)])) := fun tt hq => k17 tt (by
    refine XS.istore X14.here hx rfl (hb hby d_jdk_52_method_21_code_13) rfl (l' := #[.val (.ref b), .val (.int (((f + (1 : Int32)) + (1 : Int32)) + (1 : Int32))), .val (.ref t), .val (.int (3 : Int32)), .val (.int (5 : Int32)), .val (.int (3 : Int32)), .val (.int (own_at [d0, d1, d2, d3, d4, d5] (((f + (1 : Int32)) + (1 : Int32)) + (1 : Int32))))]) rfl ?_
    refine XS.iload X14.here hx rfl (hb hby d_jdk_52_method_21_code_15) rfl ?_
    refine XS.sipush X14.here hx rfl (hb hby d_jdk_52_method_21_code_17) ?_
    refine XS.icmpYes X14.here hx rfl (pc0 := 20) (pc' := 26) rfl (hb hby d_jdk_52_method_21_code_20) rfl (flt (hm (((f + (1 : Int32)) + (1 : Int32)) + (1 : Int32))).2).2.2.2 (by decide) (by decide) ?_
    refine XS.aloadN X14.here hx rfl (hb hby d_jdk_52_method_21_code_26) rfl rfl ?_
    refine XS.iloadN X14.here hx rfl (hb hby d_jdk_52_method_21_code_27) rfl ?_
    refine XS.iload X14.here hx rfl (hb hby d_jdk_52_method_21_code_28) rfl ?_
    refine XS.i2b X14.here hx rfl (hb hby d_jdk_52_method_21_code_30) rfl ?_
    exact hq)
  obtain ⟨cl19, Ar19, q19, S19, M19, G19, J19⟩ := id V14
  obtain ⟨T19, h19, X19, e19, W19, st19⟩ := stB X14 hx hZ e14 Ar19 (j := (3 : Int32)) (inb_of S19 ⟨by decide, by decide⟩) (g := (mkF m 31 #[.val (.ref b), .val (.int (((f + (1 : Int32)) + (1 : Int32)) + (1 : Int32))), .val (.ref t), .val (.int (3 : Int32)), .val (.int (5 : Int32)), .val (.int (3 : Int32)), .val (.int (own_at [d0, d1, d2, d3, d4, d5] (((f + (1 : Int32)) + (1 : Int32)) + (1 : Int32))))] [(.int ((own_at [d0, d1, d2, d3, d4, d5] (((f + (1 : Int32)) + (1 : Int32)) + (1 : Int32))).toInt8.toInt32)), (.int (3 : Int32)), (.ref t)])) rfl rfl (hb hby d_jdk_52_method_21_code_31)
  have k19 : To p.tables e below S0 (T19.setTop (mkF m 32 #[.val (.ref b), .val (.int (((f + (1 : Int32)) + (1 : Int32)) + (1 : Int32))), .val (.ref t), .val (.int (3 : Int32)), .val (.int (5 : Int32)), .val (.int (3 : Int32)), .val (.int (own_at [d0, d1, d2, d3, d4, d5] (((f + (1 : Int32)) + (1 : Int32)) + (1 : Int32))))] [])) := fun tt hq => k18 tt (st19 tt hq)
  have z19 : h19.size = h14.size := W19.size
  have V19 : Arv Z h19 t kt .byte (5 : Int32) [(.int (nar .byte ((own_at [d0, d1, d2, d3, d4, d5] f).toInt8.toInt32))), (.int (nar .byte ((own_at [d0, d1, d2, d3, d4, d5] (f + (1 : Int32))).toInt8.toInt32))), (.int (nar .byte ((own_at [d0, d1, d2, d3, d4, d5] ((f + (1 : Int32)) + (1 : Int32))).toInt8.toInt32))), (.int (nar .byte ((own_at [d0, d1, d2, d3, d4, d5] (((f + (1 : Int32)) + (1 : Int32)) + (1 : Int32))).toInt8.toInt32))), (.int (0 : Int32))] (.int (0 : Int32)) := Arv.set Ar19 q19 S19 M19 G19 J19 (fits_nar_byte _) W19 3 rfl (Nat.le_of_ble_eq_true rfl)
  have N19 := Fr.snoc X19 N14 (by omega : n0 ≤ t)
  have f20 : Arv Z h19 b kb .char (6 : Int32) [(.int d0), (.int d1), (.int d2), (.int d3), (.int d4), (.int d5)] (.int (0 : Int32)) := (f15.other W19 (adr_ne (by omega)))
  have k21 : To p.tables e below S0 (T19.setTop (mkF m 12 #[.val (.ref b), .val (.int ((((f + (1 : Int32)) + (1 : Int32)) + (1 : Int32)) + (1 : Int32))), .val (.ref t), .val (.int (4 : Int32)), .val (.int (5 : Int32)), .val (.int (4 : Int32)), .val (.int (own_at [d0, d1, d2, d3, d4, d5] (((f + (1 : Int32)) + (1 : Int32)) + (1 : Int32))))] [(.int ((((f + (1 : Int32)) + (1 : Int32)) + (1 : Int32)) + (1 : Int32))), (.ref b)])) := fun tt hq => k19 tt (by
    refine XS.iinc X19.here hx rfl (hb hby d_jdk_52_method_21_code_32) rfl (l' := #[.val (.ref b), .val (.int ((((f + (1 : Int32)) + (1 : Int32)) + (1 : Int32)) + (1 : Int32))), .val (.ref t), .val (.int (3 : Int32)), .val (.int (5 : Int32)), .val (.int (3 : Int32)), .val (.int (own_at [d0, d1, d2, d3, d4, d5] (((f + (1 : Int32)) + (1 : Int32)) + (1 : Int32))))]) rfl ?_
    refine XS.iinc X19.here hx rfl (hb hby d_jdk_52_method_21_code_35) rfl (l' := #[.val (.ref b), .val (.int ((((f + (1 : Int32)) + (1 : Int32)) + (1 : Int32)) + (1 : Int32))), .val (.ref t), .val (.int (4 : Int32)), .val (.int (5 : Int32)), .val (.int (3 : Int32)), .val (.int (own_at [d0, d1, d2, d3, d4, d5] (((f + (1 : Int32)) + (1 : Int32)) + (1 : Int32))))]) rfl ?_
    refine XS.iinc X19.here hx rfl (hb hby d_jdk_52_method_21_code_38) rfl (l' := #[.val (.ref b), .val (.int ((((f + (1 : Int32)) + (1 : Int32)) + (1 : Int32)) + (1 : Int32))), .val (.ref t), .val (.int (4 : Int32)), .val (.int (5 : Int32)), .val (.int (4 : Int32)), .val (.int (own_at [d0, d1, d2, d3, d4, d5] (((f + (1 : Int32)) + (1 : Int32)) + (1 : Int32))))]) rfl ?_
    refine XS.goto X19.here hx rfl (pc0 := 41) (pc' := 3) rfl (hb hby d_jdk_52_method_21_code_41) (by decide) (by decide) ?_
    refine XS.iload X19.here hx rfl (hb hby d_jdk_52_method_21_code_3) rfl ?_
    refine XS.iload X19.here hx rfl (hb hby d_jdk_52_method_21_code_5) rfl ?_
    refine XS.icmpNo X19.here hx rfl (hb hby d_jdk_52_method_21_code_7) rfl (tlt (by decide)).2.1 ?_
    refine XS.aloadN X19.here hx rfl (hb hby d_jdk_52_method_21_code_10) rfl rfl ?_
    refine XS.iloadN X19.here hx rfl (hb hby d_jdk_52_method_21_code_11) rfl ?_
    exact hq)
  obtain ⟨cl22, Ar22, -, S22, -, G22, -⟩ := id f20
  have hi22 := inb_of (j := ((((f + (1 : Int32)) + (1 : Int32)) + (1 : Int32)) + (1 : Int32))) S22 (by rcases hf with rfl | rfl <;> decide)
  have st22 := fun tt => X19.caload hx (j := ((((f + (1 : Int32)) + (1 : Int32)) + (1 : Int32)) + (1 : Int32))) (v := (.int (own_at [d0, d1, d2, d3, d4, d5] ((((f + (1 : Int32)) + (1 : Int32)) + (1 : Int32)) + (1 : Int32))))) (by rw [e19]; exact Ar22.1) (State.isArrayOf_alike hZ.alike Ar22.2.1) Ar22.2.2 hi22 (G22.at hi22 (own_atv [d0, d1, d2, d3, d4, d5] ((((f + (1 : Int32)) + (1 : Int32)) + (1 : Int32)) + (1 : Int32)))) (g := (mkF m 12 #[.val (.ref b), .val (.int ((((f + (1 : Int32)) + (1 : Int32)) + (1 : Int32)) + (1 : Int32))), .val (.ref t), .val (.int (4 : Int32)), .val (.int (5 : Int32)), .val (.int (4 : Int32)), .val (.int (own_at [d0, d1, d2, d3, d4, d5] (((f + (1 : Int32)) + (1 : Int32)) + (1 : Int32))))] [(.int ((((f + (1 : Int32)) + (1 : Int32)) + (1 : Int32)) + (1 : Int32))), (.ref b)])) rfl rfl (hb hby d_jdk_52_method_21_code_12) tt
  have k22 : To p.tables e below S0 (T19.setTop (mkF m 13 #[.val (.ref b), .val (.int ((((f + (1 : Int32)) + (1 : Int32)) + (1 : Int32)) + (1 : Int32))), .val (.ref t), .val (.int (4 : Int32)), .val (.int (5 : Int32)), .val (.int (4 : Int32)), .val (.int (own_at [d0, d1, d2, d3, d4, d5] (((f + (1 : Int32)) + (1 : Int32)) + (1 : Int32))))] [(.int (own_at [d0, d1, d2, d3, d4, d5] ((((f + (1 : Int32)) + (1 : Int32)) + (1 : Int32)) + (1 : Int32))))])) := fun tt hq => k21 tt (st22 tt hq)
  have k23 : To p.tables e below S0 (T19.setTop (mkF m 31 #[.val (.ref b), .val (.int ((((f + (1 : Int32)) + (1 : Int32)) + (1 : Int32)) + (1 : Int32))), .val (.ref t), .val (.int (4 : Int32)), .val (.int (5 : Int32)), .val (.int (4 : Int32)), .val (.int (own_at [d0, d1, d2, d3, d4, d5] ((((f + (1 : Int32)) + (1 : Int32)) + (1 : Int32)) + (1 : Int32))))] [(.int ((own_at [d0, d1, d2, d3, d4, d5] ((((f + (1 : Int32)) + (1 : Int32)) + (1 : Int32)) + (1 : Int32))).toInt8.toInt32)), (.int (4 : Int32)), (.ref t)])) := fun tt hq => k22 tt (by
    refine XS.istore X19.here hx rfl (hb hby d_jdk_52_method_21_code_13) rfl (l' := #[.val (.ref b), .val (.int ((((f + (1 : Int32)) + (1 : Int32)) + (1 : Int32)) + (1 : Int32))), .val (.ref t), .val (.int (4 : Int32)), .val (.int (5 : Int32)), .val (.int (4 : Int32)), .val (.int (own_at [d0, d1, d2, d3, d4, d5] ((((f + (1 : Int32)) + (1 : Int32)) + (1 : Int32)) + (1 : Int32))))]) rfl ?_
    refine XS.iload X19.here hx rfl (hb hby d_jdk_52_method_21_code_15) rfl ?_
    refine XS.sipush X19.here hx rfl (hb hby d_jdk_52_method_21_code_17) ?_
    refine XS.icmpYes X19.here hx rfl (pc0 := 20) (pc' := 26) rfl (hb hby d_jdk_52_method_21_code_20) rfl (flt (hm ((((f + (1 : Int32)) + (1 : Int32)) + (1 : Int32)) + (1 : Int32))).2).2.2.2 (by decide) (by decide) ?_
    refine XS.aloadN X19.here hx rfl (hb hby d_jdk_52_method_21_code_26) rfl rfl ?_
    refine XS.iloadN X19.here hx rfl (hb hby d_jdk_52_method_21_code_27) rfl ?_
    refine XS.iload X19.here hx rfl (hb hby d_jdk_52_method_21_code_28) rfl ?_
    refine XS.i2b X19.here hx rfl (hb hby d_jdk_52_method_21_code_30) rfl ?_
    exact hq)
  obtain ⟨cl24, Ar24, q24, S24, M24, G24, J24⟩ := id V19
  obtain ⟨T24, h24, X24, e24, W24, st24⟩ := stB X19 hx hZ e19 Ar24 (j := (4 : Int32)) (inb_of S24 ⟨by decide, by decide⟩) (g := (mkF m 31 #[.val (.ref b), .val (.int ((((f + (1 : Int32)) + (1 : Int32)) + (1 : Int32)) + (1 : Int32))), .val (.ref t), .val (.int (4 : Int32)), .val (.int (5 : Int32)), .val (.int (4 : Int32)), .val (.int (own_at [d0, d1, d2, d3, d4, d5] ((((f + (1 : Int32)) + (1 : Int32)) + (1 : Int32)) + (1 : Int32))))] [(.int ((own_at [d0, d1, d2, d3, d4, d5] ((((f + (1 : Int32)) + (1 : Int32)) + (1 : Int32)) + (1 : Int32))).toInt8.toInt32)), (.int (4 : Int32)), (.ref t)])) rfl rfl (hb hby d_jdk_52_method_21_code_31)
  have k24 : To p.tables e below S0 (T24.setTop (mkF m 32 #[.val (.ref b), .val (.int ((((f + (1 : Int32)) + (1 : Int32)) + (1 : Int32)) + (1 : Int32))), .val (.ref t), .val (.int (4 : Int32)), .val (.int (5 : Int32)), .val (.int (4 : Int32)), .val (.int (own_at [d0, d1, d2, d3, d4, d5] ((((f + (1 : Int32)) + (1 : Int32)) + (1 : Int32)) + (1 : Int32))))] [])) := fun tt hq => k23 tt (st24 tt hq)
  have z24 : h24.size = h19.size := W24.size
  have V24 : Arv Z h24 t kt .byte (5 : Int32) [(.int (nar .byte ((own_at [d0, d1, d2, d3, d4, d5] f).toInt8.toInt32))), (.int (nar .byte ((own_at [d0, d1, d2, d3, d4, d5] (f + (1 : Int32))).toInt8.toInt32))), (.int (nar .byte ((own_at [d0, d1, d2, d3, d4, d5] ((f + (1 : Int32)) + (1 : Int32))).toInt8.toInt32))), (.int (nar .byte ((own_at [d0, d1, d2, d3, d4, d5] (((f + (1 : Int32)) + (1 : Int32)) + (1 : Int32))).toInt8.toInt32))), (.int (nar .byte ((own_at [d0, d1, d2, d3, d4, d5] ((((f + (1 : Int32)) + (1 : Int32)) + (1 : Int32)) + (1 : Int32))).toInt8.toInt32)))] (.int (0 : Int32)) := Arv.set Ar24 q24 S24 M24 G24 J24 (fits_nar_byte _) W24 4 rfl (Nat.le_of_ble_eq_true rfl)
  have N24 := Fr.snoc X24 N19 (by omega : n0 ≤ t)
  have k25 : To p.tables e below S0 (T24.setTop (mkF m 46 #[.val (.ref b), .val (.int (((((f + (1 : Int32)) + (1 : Int32)) + (1 : Int32)) + (1 : Int32)) + (1 : Int32))), .val (.ref t), .val (.int (5 : Int32)), .val (.int (5 : Int32)), .val (.int (5 : Int32)), .val (.int (own_at [d0, d1, d2, d3, d4, d5] ((((f + (1 : Int32)) + (1 : Int32)) + (1 : Int32)) + (1 : Int32))))] [(.int (5 : Int32))])) := fun tt hq => k24 tt (by
    refine XS.iinc X24.here hx rfl (hb hby d_jdk_52_method_21_code_32) rfl (l' := #[.val (.ref b), .val (.int (((((f + (1 : Int32)) + (1 : Int32)) + (1 : Int32)) + (1 : Int32)) + (1 : Int32))), .val (.ref t), .val (.int (4 : Int32)), .val (.int (5 : Int32)), .val (.int (4 : Int32)), .val (.int (own_at [d0, d1, d2, d3, d4, d5] ((((f + (1 : Int32)) + (1 : Int32)) + (1 : Int32)) + (1 : Int32))))]) rfl ?_
    refine XS.iinc X24.here hx rfl (hb hby d_jdk_52_method_21_code_35) rfl (l' := #[.val (.ref b), .val (.int (((((f + (1 : Int32)) + (1 : Int32)) + (1 : Int32)) + (1 : Int32)) + (1 : Int32))), .val (.ref t), .val (.int (5 : Int32)), .val (.int (5 : Int32)), .val (.int (4 : Int32)), .val (.int (own_at [d0, d1, d2, d3, d4, d5] ((((f + (1 : Int32)) + (1 : Int32)) + (1 : Int32)) + (1 : Int32))))]) rfl ?_
    refine XS.iinc X24.here hx rfl (hb hby d_jdk_52_method_21_code_38) rfl (l' := #[.val (.ref b), .val (.int (((((f + (1 : Int32)) + (1 : Int32)) + (1 : Int32)) + (1 : Int32)) + (1 : Int32))), .val (.ref t), .val (.int (5 : Int32)), .val (.int (5 : Int32)), .val (.int (5 : Int32)), .val (.int (own_at [d0, d1, d2, d3, d4, d5] ((((f + (1 : Int32)) + (1 : Int32)) + (1 : Int32)) + (1 : Int32))))]) rfl ?_
    refine XS.goto X24.here hx rfl (pc0 := 41) (pc' := 3) rfl (hb hby d_jdk_52_method_21_code_41) (by decide) (by decide) ?_
    refine XS.iload X24.here hx rfl (hb hby d_jdk_52_method_21_code_3) rfl ?_
    refine XS.iload X24.here hx rfl (hb hby d_jdk_52_method_21_code_5) rfl ?_
    refine XS.icmpYes X24.here hx rfl (pc0 := 7) (pc' := 44) rfl (hb hby d_jdk_52_method_21_code_7) rfl (flt (by decide)).2.1 (by decide) (by decide) ?_
    refine XS.iload X24.here hx rfl (hb hby d_jdk_52_method_21_code_44) rfl ?_
    exact hq)
  have hE := e24
  refine retInt X24 hx hret hlk (by simp) rfl (hb hby d_jdk_52_method_21_code_46) k25 ?_ (by decide) (by decide)
  try rw [hE]
  exact ⟨rfl, N24, ((((((Keep.refl h0 [t]).wr W4 (Or.inl (by simp))).wr W9 (Or.inl (by simp))).wr W14 (Or.inl (by simp))).wr W19 (Or.inl (by simp))).wr W24 (Or.inl (by simp))), V24⟩
set_option maxRecDepth 65536 in
set_option maxHeartbeats 40000000 in
theorem rm_c3_5 (l : Launch) (Z : State) (a0 : Array Value) (hw : ∀ d ∈ tables_1, d.before a0 Z = true) (b : Addr) (kb : ClassId) (f : Int32) (d0 : Int32) (d1 : Int32) (d2 : Int32) (d3 : Int32) (d4 : Int32) (d5 : Int32) (h0 : Heap) (n0 : Nat) (hn0 : n0 ≤ h0.size) (P0 : Arv Z h0 b kb .char (6 : Int32) [(.int d0), (.int d1), (.int d2), (.int d3), (.int d4), (.int d5)] (.int (0 : Int32))) (yb : @LT.lt Nat instLTNat b h0.size) (hf : f = (0 : Int32) ∨ f = (1 : Int32)) (hm : ∀ i : Int32, ¬ own_at [d0, d1, d2, d3, d4, d5] i < (0 : Int32) ∧ ¬ (255 : Int32) < own_at [d0, d1, d2, d3, d4, d5] i) :
    Con l Z (⟨"java/lang/StringUTF16", "compress", "([CII)[B"⟩ : MethodName) jdk_52_method_16_code 6 (some (.array .byte)) [] ({ frames := 1, cells := 1, slots := 5, locals := 18 } : Room) #[(.ref b), (.int f), (.int (5 : Int32))] h0 (fun v h L => ∃ (t : Addr) (k : ClassId), v = some (.ref t) ∧ Fr n0 L ∧ h0.size ≤ t ∧ Keep h0 h [] ∧ Arv Z h t k .byte (5 : Int32) [(.int (nar .byte ((own_at [d0, d1, d2, d3, d4, d5] f).toInt8.toInt32))), (.int (nar .byte ((own_at [d0, d1, d2, d3, d4, d5] (f + (1 : Int32))).toInt8.toInt32))), (.int (nar .byte ((own_at [d0, d1, d2, d3, d4, d5] ((f + (1 : Int32)) + (1 : Int32))).toInt8.toInt32))), (.int (nar .byte ((own_at [d0, d1, d2, d3, d4, d5] (((f + (1 : Int32)) + (1 : Int32)) + (1 : Int32))).toInt8.toInt32))), (.int (nar .byte ((own_at [d0, d1, d2, d3, d4, d5] ((((f + (1 : Int32)) + (1 : Int32)) + (1 : Int32)) + (1 : Int32))).toInt8.toInt32)))] (.int (0 : Int32))) := by
  refine enter (Ls := #[.val (.ref b), .val (.int f), .val (.int (5 : Int32)), .unset, .unset, .unset]) (plainFor_of_name pn_5) (fun m => by exact entry_eq rfl) ?_
  intro p e s m below meth cd_ s₁ S0 hx hby hml hret hlk hnm hown hZ X0 e0 k0
  have N0 := Fr.nil n0
  have k1 : To p.tables e below S0 (s₁.setTop (mkF m 1 #[.val (.ref b), .val (.int f), .val (.int (5 : Int32)), .unset, .unset, .unset] [(.int (5 : Int32))])) := fun tt hq => k0 tt (by
    refine XS.iloadN X0.here hx rfl (hb hby d_jdk_52_method_16_code_0) rfl ?_
    exact hq)
  obtain ⟨T2, h2, c2, X2, e2, E2, A2, st2⟩ := newP X0 hx hZ (wq hw 74 rfl) e0 (g := (mkF m 1 #[.val (.ref b), .val (.int f), .val (.int (5 : Int32)), .unset, .unset, .unset] [(.int (5 : Int32))])) rfl (hb hby d_jdk_52_method_16_code_1) rfl (by decide) (cap := 5) (by decide) (by decide) (by decide) (by decide)
  obtain ⟨b2, g2⟩ : ∃ z, z = h0.size := ⟨_, rfl⟩
  rw [← g2] at A2 st2
  have k2 : To p.tables e below S0 (T2.setTop (mkF m 3 #[.val (.ref b), .val (.int f), .val (.int (5 : Int32)), .unset, .unset, .unset] [(.ref b2)])) := fun tt hq => k1 tt (st2 tt hq)
  have z2 : h0.size ≤ h2.size := E2.1
  have V2 : Arv Z h2 b2 c2 .byte (5 : Int32) [(.int (0 : Int32)), (.int (0 : Int32)), (.int (0 : Int32)), (.int (0 : Int32)), (.int (0 : Int32))] (.int (0 : Int32)) := (Arv.new A2 (by decide)).pad (pad_rep [] (.int (0 : Int32)) 5)
  have y2 : @LT.lt Nat instLTNat b2 h2.size := V2.lt
  have k3 : To p.tables e below S0 (T2.setTop (mkF m 9 #[.val (.ref b), .val (.int f), .val (.int (5 : Int32)), .val (.ref b2), .unset, .unset] [(.int (5 : Int32)), (.int (0 : Int32)), (.ref b2), (.int f), (.ref b)])) := fun tt hq => k2 tt (by
    refine XS.astoreN X2.here hx rfl (hb hby d_jdk_52_method_16_code_3) rfl rfl (l' := #[.val (.ref b), .val (.int f), .val (.int (5 : Int32)), .val (.ref b2), .unset, .unset]) rfl ?_
    refine XS.aloadN X2.here hx rfl (hb hby d_jdk_52_method_16_code_4) rfl rfl ?_
    refine XS.iloadN X2.here hx rfl (hb hby d_jdk_52_method_16_code_5) rfl ?_
    refine XS.aloadN X2.here hx rfl (hb hby d_jdk_52_method_16_code_6) rfl rfl ?_
    refine XS.iconst X2.here hx rfl (hb hby d_jdk_52_method_16_code_7) ?_
    refine XS.iloadN X2.here hx rfl (hb hby d_jdk_52_method_16_code_8) rfl ?_
    exact hq)
  have f4 : Arv Z h2 b kb .char (6 : Int32) [(.int d0), (.int d1), (.int d2), (.int d3), (.int d4), (.int d5)] (.int (0 : Int32)) := (P0.ext E2)
  obtain ⟨_, T5, L5, X5, ⟨rfl, Nq5, Kq5, V5⟩, k5a⟩ := callS' X2 hx hZ (y := (⟨"java/lang/StringUTF16", "compress", "([CI[BII)I"⟩ : MethodName)) hown (wq hw 75 rfl) (wq hw 76 rfl) (wq hw 72 rfl) (wq hw 77 rfl) (by decide) (backC (W := 0) (rm_c5_5 l Z a0 hw b kb b2 c2 f d0 d1 d2 d3 d4 d5 h2 n0 (by omega) f4 V2 (by omega) (by omega) hf hm) hZ (wq hw 77 rfl) (wq hw 72 rfl) (by decide) (by decide)) e2 (argsL := [(.ref b), (.int f), (.ref b2), (.int (0 : Int32)), (.int (5 : Int32))]) (rest := []) rfl rfl pd_13 rfl (by rw [hml]; rfl) (hb hby d_jdk_52_method_16_code_9) (Nat.le_of_eq rfl) (by decide) (by decide) k3
  have k5 : To p.tables e below S0 (T5.setTop (mkF m 12 #[.val (.ref b), .val (.int f), .val (.int (5 : Int32)), .val (.ref b2), .unset, .unset] [(.int (5 : Int32))])) := k5a
  have N5 := N0.app Nq5
  obtain ⟨h5, e5⟩ : ∃ z, T5.heap = z := ⟨_, rfl⟩
  rw [e5] at Kq5 V5
  have z5 : h2.size ≤ h5.size := Kq5.1
  have k6 : To p.tables e below S0 (T5.setTop (mkF m 58 #[.val (.ref b), .val (.int f), .val (.int (5 : Int32)), .val (.ref b2), .val (.int (5 : Int32)), .unset] [(.ref b2)])) := fun tt hq => k5 tt (by
    refine XS.istore X5.here hx rfl (hb hby d_jdk_52_method_16_code_12) rfl (l' := #[.val (.ref b), .val (.int f), .val (.int (5 : Int32)), .val (.ref b2), .val (.int (5 : Int32)), .unset]) rfl ?_
    refine XS.iload X5.here hx rfl (hb hby d_jdk_52_method_16_code_14) rfl ?_
    refine XS.iloadN X5.here hx rfl (hb hby d_jdk_52_method_16_code_16) rfl ?_
    refine XS.icmpYes X5.here hx rfl (pc0 := 17) (pc' := 57) rfl (hb hby d_jdk_52_method_16_code_17) rfl (teq (by decide)).1 (by decide) (by decide) ?_
    refine XS.aloadN X5.here hx rfl (hb hby d_jdk_52_method_16_code_57) rfl rfl ?_
    exact hq)
  have hE := e5
  refine retRef X5 hx hret hlk rfl rfl (hb hby d_jdk_52_method_16_code_58) k6 ?_ (by decide) (by decide)
  try rw [hE]
  exact ⟨b2, _, rfl, N5, (by omega), (((Keep.refl h0 []).ext E2).trans Kq5 (allS (Or.inr (by omega)) all0)), V5⟩
set_option maxRecDepth 65536 in
set_option maxHeartbeats 40000000 in
theorem rm_cl_5 (l : Launch) (Z : State) (a0 : Array Value) (hw : ∀ d ∈ tables_1, d.before a0 Z = true) (t : Addr) (kt : ClassId) (d0 : Int32) (d1 : Int32) (d2 : Int32) (d3 : Int32) (d4 : Int32) (h0 : Heap) (n0 : Nat) (hn0 : n0 ≤ h0.size) (P0 : Arv Z h0 t kt .byte (5 : Int32) [(.int d0), (.int d1), (.int d2), (.int d3), (.int d4)] (.int (0 : Int32))) :
    Con l Z (⟨"java/lang/StringUTF16", "coderFromArrayLen", "([BI)B"⟩ : MethodName) jdk_52_method_15_code 2 (some .byte) [] ({ frames := 0, cells := 0, slots := 0, locals := 0 } : Room) #[(.ref t), (.int (5 : Int32))] h0 (fun v h L => v = some (.int (0 : Int32)) ∧ Fr n0 L ∧ h = h0) := by
  refine enter (Ls := #[.val (.ref t), .val (.int (5 : Int32))]) (plainFor_of_name pn_5) (fun m => by exact entry_eq rfl) ?_
  intro p e s m below meth cd_ s₁ S0 hx hby hml hret hlk hnm hown hZ X0 e0 k0
  have N0 := Fr.nil n0
  have k1 : To p.tables e below S0 (s₁.setTop (mkF m 2 #[.val (.ref t), .val (.int (5 : Int32))] [(.ref t), (.int (5 : Int32))])) := fun tt hq => k0 tt (by
    refine XS.iloadN X0.here hx rfl (hb hby d_jdk_52_method_15_code_0) rfl ?_
    refine XS.aloadN X0.here hx rfl (hb hby d_jdk_52_method_15_code_1) rfl rfl ?_
    exact hq)
  obtain ⟨cl2, Ar2, -, S2, M2, -, -⟩ := id P0
  have st2 := fun tt => X0.arraylength hx (by rw [e0]; exact Ar2.1) (State.isArrayOf_alike hZ.alike Ar2.2.1) (g := (mkF m 2 #[.val (.ref t), .val (.int (5 : Int32))] [(.ref t), (.int (5 : Int32))])) rfl rfl (hb hby d_jdk_52_method_15_code_2) tt
  rw [len_of S2 M2] at st2
  have k2 : To p.tables e below S0 (s₁.setTop (mkF m 3 #[.val (.ref t), .val (.int (5 : Int32))] [(.int (5 : Int32)), (.int (5 : Int32))])) := fun tt hq => k1 tt (st2 tt hq)
  have k3 : To p.tables e below S0 (s₁.setTop (mkF m 8 #[.val (.ref t), .val (.int (5 : Int32))] [(.int (0 : Int32))])) := fun tt hq => k2 tt (by
    refine XS.isub X0.here hx rfl (hb hby d_jdk_52_method_15_code_3) rfl ?_
    refine XS.bipush X0.here hx rfl (hb hby d_jdk_52_method_15_code_4) ?_
    refine XS.iushr X0.here hx rfl (hb hby d_jdk_52_method_15_code_6) rfl ?_
    refine XS.i2b X0.here hx rfl (hb hby d_jdk_52_method_15_code_7) rfl ?_
    exact hq)
  have hE := e0
  refine retInt X0 hx hret hlk (by simp) rfl (hb hby d_jdk_52_method_15_code_8) k3 ?_ (by decide) (by decide)
  try rw [hE]
  exact ⟨rfl, N0, rfl⟩
set_option maxRecDepth 65536 in
set_option maxHeartbeats 40000000 in
theorem rm_n4_5 (l : Launch) (Z : State) (a0 : Array Value) (hw : ∀ d ∈ tables_1, d.before a0 Z = true) (zc : Int32) (a : Addr) (b : Addr) (kb : ClassId) (u1 : Value) (u2 : Value) (f : Int32) (d0 : Int32) (d1 : Int32) (d2 : Int32) (d3 : Int32) (d4 : Int32) (d5 : Int32) (h0 : Heap) (n0 : Nat) (hn0 : n0 ≤ h0.size) (S_c : Sta Z Z.heap "java/lang/String" "COMPACT_STRINGS" "Z" (.int zc)) (hzc : ¬ zc = (0 : Int32)) (O0 : Old Z n0 h0) (E0 : Exa Z h0 a "java/lang/String") (F1 : Fld Z h0 a "java/lang/String" "value" "[B" u1) (F2 : Fld Z h0 a "java/lang/String" "coder" "B" u2) (P0 : Arv Z h0 b kb .char (6 : Int32) [(.int d0), (.int d1), (.int d2), (.int d3), (.int d4), (.int d5)] (.int (0 : Int32))) (ga : n0 ≤ a) (ya : @LT.lt Nat instLTNat a h0.size) (yb : @LT.lt Nat instLTNat b h0.size) (nab : ¬ (@Eq Nat b a)) (hf : f = (0 : Int32) ∨ f = (1 : Int32)) (hm : ∀ i : Int32, ¬ own_at [d0, d1, d2, d3, d4, d5] i < (0 : Int32) ∧ ¬ (255 : Int32) < own_at [d0, d1, d2, d3, d4, d5] i) :
    Con l Z (⟨"java/lang/String", "<init>", "([CIILjava/lang/Void;)V"⟩ : MethodName) jdk_42_method_149_code 6 none [] ({ frames := 2, cells := 1, slots := 5, locals := 35 } : Room) #[(.ref a), (.ref b), (.int f), (.int (5 : Int32)), .null] h0 (fun v h L => v = none ∧ Fr n0 L ∧ Keep h0 h [a] ∧ ∃ (t : Addr) (k : ClassId), (@LT.lt Nat instLTNat t h.size) ∧ Exa Z h a "java/lang/String" ∧ Fld Z h a "java/lang/String" "value" "[B" (.ref t) ∧ Fld Z h a "java/lang/String" "coder" "B" (.int (0 : Int32)) ∧ Arv Z h t k .byte (5 : Int32) [(.int (nar .byte ((own_at [d0, d1, d2, d3, d4, d5] f).toInt8.toInt32))), (.int (nar .byte ((own_at [d0, d1, d2, d3, d4, d5] (f + (1 : Int32))).toInt8.toInt32))), (.int (nar .byte ((own_at [d0, d1, d2, d3, d4, d5] ((f + (1 : Int32)) + (1 : Int32))).toInt8.toInt32))), (.int (nar .byte ((own_at [d0, d1, d2, d3, d4, d5] (((f + (1 : Int32)) + (1 : Int32)) + (1 : Int32))).toInt8.toInt32))), (.int (nar .byte ((own_at [d0, d1, d2, d3, d4, d5] ((((f + (1 : Int32)) + (1 : Int32)) + (1 : Int32)) + (1 : Int32))).toInt8.toInt32)))] (.int 0)) := by
  refine enter (Ls := #[.val (.ref a), .val (.ref b), .val (.int f), .val (.int (5 : Int32)), .val .null, .unset]) (plainFor_of_name pn_3) (fun m => by exact entry_eq rfl) ?_
  intro p e s m below meth cd_ s₁ S0 hx hby hml hret hlk hnm hown hZ X0 e0 k0
  have N0 := Fr.nil n0
  have k1 : To p.tables e below S0 (s₁.setTop (mkF m 1 #[.val (.ref a), .val (.ref b), .val (.int f), .val (.int (5 : Int32)), .val .null, .unset] [(.ref a)])) := fun tt hq => k0 tt (by
    refine XS.aloadN X0.here hx rfl (hb hby d_jdk_42_method_149_code_0) rfl rfl ?_
    exact hq)
  obtain ⟨T2, X2, e2, st2⟩ := initO X0 hx hZ hown (wq hw 68 rfl) (wq hw 14 rfl) (wq hw 15 rfl) e0 (g := (mkF m 1 #[.val (.ref a), .val (.ref b), .val (.int f), .val (.int (5 : Int32)), .val .null, .unset] [(.ref a)])) rfl (by rw [hml]; rfl) rfl (hb hby d_jdk_42_method_149_code_1) (by decide) (W := 0) (by show 2 * 0 + _ ≤ _; exact Nat.le_of_eq rfl) (by decide)
  have k2 : To p.tables e below S0 (T2.setTop (mkF m 4 #[.val (.ref a), .val (.ref b), .val (.int f), .val (.int (5 : Int32)), .val .null, .unset] [])) := fun tt hq => k1 tt (st2 tt hq)
  have k3 : To p.tables e below S0 (T2.setTop (mkF m 27 #[.val (.ref a), .val (.ref b), .val (.int f), .val (.int (5 : Int32)), .val .null, .unset] [])) := fun tt hq => k2 tt (by
    refine XS.iloadN X2.here hx rfl (hb hby d_jdk_42_method_149_code_4) rfl ?_
    refine XS.ifYes X2.here hx rfl (pc0 := 5) (pc' := 27) rfl (hb hby d_jdk_42_method_149_code_5) rfl ((if0 _ _).trans (feq (by decide)).2) (by decide) (by decide) ?_
    exact hq)
  obtain ⟨T4, X4, e4, st4⟩ := getS2 X2 hx hZ hown (host := "") (Or.inl (wq hw 69 rfl)) Via.refl e2 (staOld S_c O0) (g := (mkF m 27 #[.val (.ref a), .val (.ref b), .val (.int f), .val (.int (5 : Int32)), .val .null, .unset] [])) rfl (hb hby d_jdk_42_method_149_code_27)
  have k4 : To p.tables e below S0 (T4.setTop (mkF m 30 #[.val (.ref a), .val (.ref b), .val (.int f), .val (.int (5 : Int32)), .val .null, .unset] [(.int zc)])) := fun tt hq => k3 tt (st4 tt hq)
  have k5 : To p.tables e below S0 (T4.setTop (mkF m 36 #[.val (.ref a), .val (.ref b), .val (.int f), .val (.int (5 : Int32)), .val .null, .unset] [(.int (5 : Int32)), (.int f), (.ref b)])) := fun tt hq => k4 tt (by
    refine XS.ifNo X4.here hx rfl (hb hby d_jdk_42_method_149_code_30) rfl ((if0 _ _).trans (feq hzc).1) ?_
    refine XS.aloadN X4.here hx rfl (hb hby d_jdk_42_method_149_code_33) rfl rfl ?_
    refine XS.iloadN X4.here hx rfl (hb hby d_jdk_42_method_149_code_34) rfl ?_
    refine XS.iloadN X4.here hx rfl (hb hby d_jdk_42_method_149_code_35) rfl ?_
    exact hq)
  obtain ⟨_, T6, L6, X6, ⟨t6, kt6, rfl, Nq6, gt6, Kq6, V6⟩, k6a⟩ := callS' X4 hx hZ (y := (⟨"java/lang/StringUTF16", "compress", "([CII)[B"⟩ : MethodName)) hown (wq hw 70 rfl) (wq hw 71 rfl) (wq hw 72 rfl) (wq hw 73 rfl) (by decide) (backC (W := 0) (rm_c3_5 l Z a0 hw b kb f d0 d1 d2 d3 d4 d5 h0 n0 (by omega) P0 (by omega) hf hm) hZ (wq hw 73 rfl) (wq hw 72 rfl) (by decide) (by decide)) e4 (argsL := [(.ref b), (.int f), (.int (5 : Int32))]) (rest := []) rfl rfl pd_14 rfl (by rw [hml]; rfl) (hb hby d_jdk_42_method_149_code_36) (Nat.le_of_eq rfl) (by decide) (by decide) k5
  have k6 : To p.tables e below S0 (T6.setTop (mkF m 39 #[.val (.ref a), .val (.ref b), .val (.int f), .val (.int (5 : Int32)), .val .null, .unset] [(.ref t6)])) := k6a
  have N6 := N0.app Nq6
  obtain ⟨h6, e6⟩ : ∃ z, T6.heap = z := ⟨_, rfl⟩
  rw [e6] at Kq6 V6
  have z6 : h0.size ≤ h6.size := Kq6.1
  have y6 : @LT.lt Nat instLTNat t6 h6.size := V6.lt
  have k7 : To p.tables e below S0 (T6.setTop (mkF m 45 #[.val (.ref a), .val (.ref b), .val (.int f), .val (.int (5 : Int32)), .val .null, .val (.ref t6)] [(.int (5 : Int32)), (.ref t6), (.ref a)])) := fun tt hq => k6 tt (by
    refine XS.astore X6.here hx rfl (hb hby d_jdk_42_method_149_code_39) rfl rfl (l' := #[.val (.ref a), .val (.ref b), .val (.int f), .val (.int (5 : Int32)), .val .null, .val (.ref t6)]) rfl ?_
    refine XS.aloadN X6.here hx rfl (hb hby d_jdk_42_method_149_code_41) rfl rfl ?_
    refine XS.aload X6.here hx rfl (hb hby d_jdk_42_method_149_code_42) rfl rfl ?_
    refine XS.iloadN X6.here hx rfl (hb hby d_jdk_42_method_149_code_44) rfl ?_
    exact hq)
  obtain ⟨_, T8, L8, X8, ⟨rfl, Nq8, eq8⟩, k8a⟩ := callS' X6 hx hZ (y := (⟨"java/lang/StringUTF16", "coderFromArrayLen", "([BI)B"⟩ : MethodName)) hown (wq hw 78 rfl) (wq hw 79 rfl) (wq hw 72 rfl) (wq hw 80 rfl) (by decide) (backC (W := 1) (rm_cl_5 l Z a0 hw t6 kt6 (nar .byte ((own_at [d0, d1, d2, d3, d4, d5] f).toInt8.toInt32)) (nar .byte ((own_at [d0, d1, d2, d3, d4, d5] (f + (1 : Int32))).toInt8.toInt32)) (nar .byte ((own_at [d0, d1, d2, d3, d4, d5] ((f + (1 : Int32)) + (1 : Int32))).toInt8.toInt32)) (nar .byte ((own_at [d0, d1, d2, d3, d4, d5] (((f + (1 : Int32)) + (1 : Int32)) + (1 : Int32))).toInt8.toInt32)) (nar .byte ((own_at [d0, d1, d2, d3, d4, d5] ((((f + (1 : Int32)) + (1 : Int32)) + (1 : Int32)) + (1 : Int32))).toInt8.toInt32)) h6 n0 (by omega) V6) hZ (wq hw 80 rfl) (wq hw 72 rfl) (by decide) (by decide)) e6 (argsL := [(.ref t6), (.int (5 : Int32))]) (rest := [(.ref a)]) rfl rfl pd_15 rfl (by rw [hml]; rfl) (hb hby d_jdk_42_method_149_code_45) (Nat.le_of_eq rfl) (by decide) (by decide) k7
  have k8 : To p.tables e below S0 (T8.setTop (mkF m 48 #[.val (.ref a), .val (.ref b), .val (.int f), .val (.int (5 : Int32)), .val .null, .val (.ref t6)] [(.int (0 : Int32)), (.ref a)])) := k8a
  have N8 := N6.app Nq8
  have e8 : T8.heap = h6 := eq8
  have f9 : Exa Z h6 a "java/lang/String" := (E0.keep Kq6)
  have f10 : Fld Z h6 a "java/lang/String" "coder" "B" u2 := (F2.keep Kq6 nin0)
  obtain ⟨T11, h11, X11, e11, W11, st11⟩ := putF X8 hx hZ hown (host := "") (Or.inl (wq hw 81 rfl)) Via.refl e8 f10 f9 (Or.inr ⟨(wq hw 82 rfl), rfl, hnm⟩) (wq hw 48 rfl) (ty := .byte) (by decide) rfl rfl (g := (mkF m 48 #[.val (.ref a), .val (.ref b), .val (.int f), .val (.int (5 : Int32)), .val .null, .val (.ref t6)] [(.int (0 : Int32)), (.ref a)])) rfl rfl (hb hby d_jdk_42_method_149_code_48)
  have k11 : To p.tables e below S0 (T11.setTop (mkF m 51 #[.val (.ref a), .val (.ref b), .val (.int f), .val (.int (5 : Int32)), .val .null, .val (.ref t6)] [])) := fun tt hq => k8 tt (st11 tt hq)
  have z11 : h11.size = h6.size := W11.size
  have F11 := f10.same W11
  have N11 := Fr.snoc X11 N8 (by omega : n0 ≤ a)
  have f12 : Exa Z h11 a "java/lang/String" := (f9.wr W11)
  have f13 : Fld Z h11 a "java/lang/String" "value" "[B" u1 := ((F1.keep Kq6 nin0).other W11 (Or.inr (slot_ne (Or.inr (wq hw 84 rfl)) (Or.inr (wq hw 82 rfl)) (by decide) (t := (.array .byte)) (t' := .byte) (by decide) (by decide))))
  have k14 : To p.tables e below S0 (T11.setTop (mkF m 54 #[.val (.ref a), .val (.ref b), .val (.int f), .val (.int (5 : Int32)), .val .null, .val (.ref t6)] [(.ref t6), (.ref a)])) := fun tt hq => k11 tt (by
    refine XS.aloadN X11.here hx rfl (hb hby d_jdk_42_method_149_code_51) rfl rfl ?_
    refine XS.aload X11.here hx rfl (hb hby d_jdk_42_method_149_code_52) rfl rfl ?_
    exact hq)
  obtain ⟨T15, h15, X15, e15, W15, st15⟩ := putF X11 hx hZ hown (host := "") (Or.inl (wq hw 83 rfl)) Via.refl e11 f13 f12 (Or.inr ⟨(wq hw 84 rfl), rfl, hnm⟩) (wq hw 48 rfl) (ty := (.array .byte)) (by decide) rfl rfl (g := (mkF m 54 #[.val (.ref a), .val (.ref b), .val (.int f), .val (.int (5 : Int32)), .val .null, .val (.ref t6)] [(.ref t6), (.ref a)])) rfl rfl (hb hby d_jdk_42_method_149_code_54)
  have k15 : To p.tables e below S0 (T15.setTop (mkF m 57 #[.val (.ref a), .val (.ref b), .val (.int f), .val (.int (5 : Int32)), .val .null, .val (.ref t6)] [])) := fun tt hq => k14 tt (st15 tt hq)
  have z15 : h15.size = h11.size := W15.size
  have F15 := f13.same W15
  have N15 := Fr.snoc X15 N11 (by omega : n0 ≤ a)
  have f16 : Arv Z h15 t6 kt6 .byte (5 : Int32) [(.int (nar .byte ((own_at [d0, d1, d2, d3, d4, d5] f).toInt8.toInt32))), (.int (nar .byte ((own_at [d0, d1, d2, d3, d4, d5] (f + (1 : Int32))).toInt8.toInt32))), (.int (nar .byte ((own_at [d0, d1, d2, d3, d4, d5] ((f + (1 : Int32)) + (1 : Int32))).toInt8.toInt32))), (.int (nar .byte ((own_at [d0, d1, d2, d3, d4, d5] (((f + (1 : Int32)) + (1 : Int32)) + (1 : Int32))).toInt8.toInt32))), (.int (nar .byte ((own_at [d0, d1, d2, d3, d4, d5] ((((f + (1 : Int32)) + (1 : Int32)) + (1 : Int32)) + (1 : Int32))).toInt8.toInt32)))] (.int (0 : Int32)) := ((V6.other W11 (adr_ne (by omega))).other W15 (adr_ne (by omega)))
  have f17 : Exa Z h15 a "java/lang/String" := (f12.wr W15)
  have f18 : Fld Z h15 a "java/lang/String" "coder" "B" (.int (0 : Int32)) := (F11.other W15 (Or.inr (slot_ne (Or.inr (wq hw 82 rfl)) (Or.inr (wq hw 84 rfl)) (by decide) (t := .byte) (t' := (.array .byte)) (by decide) (by decide))))
  have hE := e15
  refine retVoid X15 hx hret hlk (hb hby d_jdk_42_method_149_code_57) k15 ?_ (by decide) (by decide)
  try rw [hE]
  exact ⟨rfl, N15, ((((Keep.refl h0 [a]).trans Kq6 all0).wr W11 (Or.inl (by simp))).wr W15 (Or.inl (by simp))), t6, kt6, f16.lt, f17, F15, f18, f16⟩
set_option maxRecDepth 65536 in
set_option maxHeartbeats 40000000 in
theorem rm_n3_5 (l : Launch) (Z : State) (a0 : Array Value) (hw : ∀ d ∈ tables_1, d.before a0 Z = true) (zc : Int32) (fm : Value) (a : Addr) (b : Addr) (kb : ClassId) (u1 : Value) (u2 : Value) (f : Int32) (d0 : Int32) (d1 : Int32) (d2 : Int32) (d3 : Int32) (d4 : Int32) (d5 : Int32) (h0 : Heap) (n0 : Nat) (hn0 : n0 ≤ h0.size) (S_c : Sta Z Z.heap "java/lang/String" "COMPACT_STRINGS" "Z" (.int zc)) (hzc : ¬ zc = (0 : Int32)) (S_f : Sta Z Z.heap "jdk/internal/util/Preconditions" "SIOOBE_FORMATTER" "Ljava/util/function/BiFunction;" fm) (hfm : fm.isRef = true) (O0 : Old Z n0 h0) (E0 : Exa Z h0 a "java/lang/String") (F1 : Fld Z h0 a "java/lang/String" "value" "[B" u1) (F2 : Fld Z h0 a "java/lang/String" "coder" "B" u2) (P0 : Arv Z h0 b kb .char (6 : Int32) [(.int d0), (.int d1), (.int d2), (.int d3), (.int d4), (.int d5)] (.int (0 : Int32))) (ga : n0 ≤ a) (ya : @LT.lt Nat instLTNat a h0.size) (yb : @LT.lt Nat instLTNat b h0.size) (nab : ¬ (@Eq Nat b a)) (hf : f = (0 : Int32) ∨ f = (1 : Int32)) (hm : ∀ i : Int32, ¬ own_at [d0, d1, d2, d3, d4, d5] i < (0 : Int32) ∧ ¬ (255 : Int32) < own_at [d0, d1, d2, d3, d4, d5] i) (q1 : ¬ (((6 : Int32) ||| f) ||| (5 : Int32)) < (0 : Int32)) (q2 : ¬ ((6 : Int32) - f) < (5 : Int32)) :
    Con l Z (⟨"java/lang/String", "<init>", "([CII)V"⟩ : MethodName) jdk_42_method_4_code 4 none [] ({ frames := 3, cells := 1, slots := 5, locals := 52 } : Room) #[(.ref a), (.ref b), (.int f), (.int (5 : Int32))] h0 (fun v h L => v = none ∧ Fr n0 L ∧ Keep h0 h [a] ∧ ∃ (t : Addr) (k : ClassId), (@LT.lt Nat instLTNat t h.size) ∧ Exa Z h a "java/lang/String" ∧ Fld Z h a "java/lang/String" "value" "[B" (.ref t) ∧ Fld Z h a "java/lang/String" "coder" "B" (.int (0 : Int32)) ∧ Arv Z h t k .byte (5 : Int32) [(.int (nar .byte ((own_at [d0, d1, d2, d3, d4, d5] f).toInt8.toInt32))), (.int (nar .byte ((own_at [d0, d1, d2, d3, d4, d5] (f + (1 : Int32))).toInt8.toInt32))), (.int (nar .byte ((own_at [d0, d1, d2, d3, d4, d5] ((f + (1 : Int32)) + (1 : Int32))).toInt8.toInt32))), (.int (nar .byte ((own_at [d0, d1, d2, d3, d4, d5] (((f + (1 : Int32)) + (1 : Int32)) + (1 : Int32))).toInt8.toInt32))), (.int (nar .byte ((own_at [d0, d1, d2, d3, d4, d5] ((((f + (1 : Int32)) + (1 : Int32)) + (1 : Int32)) + (1 : Int32))).toInt8.toInt32)))] (.int 0)) := by
  refine enter (Ls := #[.val (.ref a), .val (.ref b), .val (.int f), .val (.int (5 : Int32))]) (plainFor_of_name pn_3) (fun m => by exact entry_eq rfl) ?_
  intro p e s m below meth cd_ s₁ S0 hx hby hml hret hlk hnm hown hZ X0 e0 k0
  have N0 := Fr.nil n0
  have k1 : To p.tables e below S0 (s₁.setTop (mkF m 7 #[.val (.ref a), .val (.ref b), .val (.int f), .val (.int (5 : Int32))] [(.int (5 : Int32)), (.int f), (.ref b), (.int (5 : Int32)), (.int f), (.ref b), (.ref a)])) := fun tt hq => k0 tt (by
    refine XS.aloadN X0.here hx rfl (hb hby d_jdk_42_method_4_code_0) rfl rfl ?_
    refine XS.aloadN X0.here hx rfl (hb hby d_jdk_42_method_4_code_1) rfl rfl ?_
    refine XS.iloadN X0.here hx rfl (hb hby d_jdk_42_method_4_code_2) rfl ?_
    refine XS.iloadN X0.here hx rfl (hb hby d_jdk_42_method_4_code_3) rfl ?_
    refine XS.aloadN X0.here hx rfl (hb hby d_jdk_42_method_4_code_4) rfl rfl ?_
    refine XS.iloadN X0.here hx rfl (hb hby d_jdk_42_method_4_code_5) rfl ?_
    refine XS.iloadN X0.here hx rfl (hb hby d_jdk_42_method_4_code_6) rfl ?_
    exact hq)
  obtain ⟨_, T2, L2, X2, ⟨rfl, Nq2, eq2⟩, k2a⟩ := callS' X0 hx hZ (y := (⟨"java/lang/String", "rangeCheck", "([CII)Ljava/lang/Void;"⟩ : MethodName)) hown (wq hw 53 rfl) (wq hw 54 rfl) (wq hw 49 rfl) (wq hw 55 rfl) (by decide) (backC (W := 4) (rm_rck l Z a0 hw fm b kb f (5 : Int32) d0 d1 d2 d3 d4 d5 h0 n0 (by omega) S_f hfm O0 P0 q1 q2) hZ (wq hw 55 rfl) (wq hw 49 rfl) (by decide) (by decide)) e0 (argsL := [(.ref b), (.int f), (.int (5 : Int32))]) (rest := [(.int (5 : Int32)), (.int f), (.ref b), (.ref a)]) rfl rfl pd_10 rfl (by rw [hml]; rfl) (hb hby d_jdk_42_method_4_code_7) (Nat.le_of_eq rfl) (by decide) (by decide) k1
  have k2 : To p.tables e below S0 (T2.setTop (mkF m 10 #[.val (.ref a), .val (.ref b), .val (.int f), .val (.int (5 : Int32))] [.null, (.int (5 : Int32)), (.int f), (.ref b), (.ref a)])) := k2a
  have N2 := N0.app Nq2
  have e2 : T2.heap = h0 := eq2
  obtain ⟨_, T3, L3, X3, ⟨rfl, Nq3, Kq3, t3, kt3, gt3, P30, P31, P32, P33⟩, k3a⟩ := callC' X2 hx hZ (y := (⟨"java/lang/String", "<init>", "([CIILjava/lang/Void;)V"⟩ : MethodName)) rfl hown (wq hw 64 rfl) (wq hw 65 rfl) (wq hw 67 rfl) (by decide) (backC (W := 0) (rm_n4_5 l Z a0 hw zc a b kb u1 u2 f d0 d1 d2 d3 d4 d5 h0 n0 (by omega) S_c hzc O0 E0 F1 F2 P0 (by omega) (by omega) (by omega) (by omega) hf hm) hZ (wq hw 67 rfl) (wq hw 49 rfl) (by decide) (by decide)) e2 (argsL := [(.ref b), (.int f), (.int (5 : Int32)), .null]) (rest := []) rfl rfl pd_11 rfl (by rw [hml]; rfl) (hb hby d_jdk_42_method_4_code_10) (Nat.le_of_eq rfl) (by decide) (by decide) k2
  have k3 : To p.tables e below S0 (T3.setTop (mkF m 13 #[.val (.ref a), .val (.ref b), .val (.int f), .val (.int (5 : Int32))] [])) := k3a
  have N3 := N2.app Nq3
  obtain ⟨h3, e3⟩ : ∃ z, T3.heap = z := ⟨_, rfl⟩
  rw [e3] at Kq3 gt3 P30 P31 P32 P33
  have z3 : h0.size ≤ h3.size := Kq3.1
  have hE := e3
  refine retVoid X3 hx hret hlk (hb hby d_jdk_42_method_4_code_13) k3 ?_ (by decide) (by decide)
  try rw [hE]
  exact ⟨rfl, N3, ((Keep.refl h0 [a]).trans Kq3 (allS (Or.inl (by simp)) all0)), t3, kt3, P33.lt, P30, P31, P32, P33⟩
set_option maxRecDepth 65536 in
set_option maxHeartbeats 40000000 in
theorem rm_ts_5 (l : Launch) (Z : State) (a0 : Array Value) (hw : ∀ d ∈ tables_1, d.before a0 Z = true) (zc : Int32) (fm : Value) (r : Addr) (b : Addr) (kb : ClassId) (f : Int32) (d0 : Int32) (d1 : Int32) (d2 : Int32) (d3 : Int32) (d4 : Int32) (d5 : Int32) (h0 : Heap) (n0 : Nat) (hn0 : n0 ≤ h0.size) (S_c : Sta Z Z.heap "java/lang/String" "COMPACT_STRINGS" "Z" (.int zc)) (hzc : ¬ zc = (0 : Int32)) (S_f : Sta Z Z.heap "jdk/internal/util/Preconditions" "SIOOBE_FORMATTER" "Ljava/util/function/BiFunction;" fm) (hfm : fm.isRef = true) (O0 : Old Z n0 h0) (R0 : Exa Z h0 r "strikebound/cli/InPlaceText") (R1 : Fld Z h0 r "strikebound/cli/InPlaceText" "chars" "[C" (.ref b)) (R2 : Fld Z h0 r "strikebound/cli/InPlaceText" "start" "I" (.int f)) (R3 : Fld Z h0 r "strikebound/cli/InPlaceText" "length" "I" (.int (5 : Int32))) (P0 : Arv Z h0 b kb .char (6 : Int32) [(.int d0), (.int d1), (.int d2), (.int d3), (.int d4), (.int d5)] (.int (0 : Int32))) (yb : @LT.lt Nat instLTNat b h0.size) (hf : f = (0 : Int32) ∨ f = (1 : Int32)) (hm : ∀ i : Int32, ¬ own_at [d0, d1, d2, d3, d4, d5] i < (0 : Int32) ∧ ¬ (255 : Int32) < own_at [d0, d1, d2, d3, d4, d5] i) (q1 : ¬ (((6 : Int32) ||| f) ||| (5 : Int32)) < (0 : Int32)) (q2 : ¬ ((6 : Int32) - f) < (5 : Int32)) :
    Con l Z (⟨"strikebound/cli/InPlaceText", "toString", "()Ljava/lang/String;"⟩ : MethodName) prog_26_method_8_code 1 (some (.object "java/lang/String")) [] ({ frames := 4, cells := 2, slots := 9, locals := 68 } : Room) #[(.ref r)] h0 (fun v h L => ∃ (c t : Addr) (k : ClassId), v = some (.ref c) ∧ Fr n0 L ∧ (@LT.lt Nat instLTNat c h.size) ∧ (@LT.lt Nat instLTNat t h.size) ∧ Keep h0 h [] ∧ Exa Z h c "java/lang/String" ∧ Fld Z h c "java/lang/String" "value" "[B" (.ref t) ∧ Fld Z h c "java/lang/String" "coder" "B" (.int (0 : Int32)) ∧ Arv Z h t k .byte (5 : Int32) [(.int (nar .byte ((own_at [d0, d1, d2, d3, d4, d5] f).toInt8.toInt32))), (.int (nar .byte ((own_at [d0, d1, d2, d3, d4, d5] (f + (1 : Int32))).toInt8.toInt32))), (.int (nar .byte ((own_at [d0, d1, d2, d3, d4, d5] ((f + (1 : Int32)) + (1 : Int32))).toInt8.toInt32))), (.int (nar .byte ((own_at [d0, d1, d2, d3, d4, d5] (((f + (1 : Int32)) + (1 : Int32)) + (1 : Int32))).toInt8.toInt32))), (.int (nar .byte ((own_at [d0, d1, d2, d3, d4, d5] ((((f + (1 : Int32)) + (1 : Int32)) + (1 : Int32)) + (1 : Int32))).toInt8.toInt32)))] (.int 0)) := by
  refine enter (Ls := #[.val (.ref r)]) (plainFor_of_name pn_1) (fun m => by exact entry_eq rfl) ?_
  intro p e s m below meth cd_ s₁ S0 hx hby hml hret hlk hnm hown hZ X0 e0 k0
  have N0 := Fr.nil n0
  obtain ⟨T1, h1, X1, e1, E1, A1, D1, -, st1⟩ := newO X0 hx hZ hown (wq hw 47 rfl) (wq hw 48 rfl) (wq hw 49 rfl) e0 (g := (mkF m 0 #[.val (.ref r)] [])) rfl (hb hby d_prog_26_method_8_code_0) (by decide) (by decide)
  obtain ⟨b1, g1⟩ : ∃ z, z = h0.size := ⟨_, rfl⟩
  rw [← g1] at A1 D1 st1
  have k1 : To p.tables e below S0 (T1.setTop (mkF m 3 #[.val (.ref r)] [(.ref b1)])) := fun tt hq => k0 tt (st1 tt hq)
  have z1 : h0.size ≤ h1.size := E1.1
  have y1 : @LT.lt Nat instLTNat b1 h1.size := A1.lt
  have F1_coder : Fld Z h1 b1 "java/lang/String" "coder" "B" (.int (0 : Int32)) := D1 (Or.inr (wq hw 82 rfl)) (ty := .byte) (by decide)
  have F1_value : Fld Z h1 b1 "java/lang/String" "value" "[B" .null := D1 (Or.inr (wq hw 84 rfl)) (ty := (.array .byte)) (by decide)
  have f2 : Fld Z h1 r "strikebound/cli/InPlaceText" "chars" "[C" (.ref b) := (R1.ext E1)
  have k3 : To p.tables e below S0 (T1.setTop (mkF m 5 #[.val (.ref r)] [(.ref r), (.ref b1), (.ref b1)])) := fun tt hq => k1 tt (by
    refine XS.dup X1.here hx rfl (hb hby d_prog_26_method_8_code_3) rfl rfl ?_
    refine XS.aloadN X1.here hx rfl (hb hby d_prog_26_method_8_code_4) rfl rfl ?_
    exact hq)
  obtain ⟨T4, X4, e4, st4⟩ := getF X1 hx hZ hown (host := "") (Or.inl (wq hw 16 rfl)) Via.refl e1 f2 (g := (mkF m 5 #[.val (.ref r)] [(.ref r), (.ref b1), (.ref b1)])) rfl rfl (hb hby d_prog_26_method_8_code_5)
  have k4 : To p.tables e below S0 (T4.setTop (mkF m 8 #[.val (.ref r)] [(.ref b), (.ref b1), (.ref b1)])) := fun tt hq => k3 tt (st4 tt hq)
  have f5 : Fld Z h1 r "strikebound/cli/InPlaceText" "start" "I" (.int f) := (R2.ext E1)
  have k6 : To p.tables e below S0 (T4.setTop (mkF m 9 #[.val (.ref r)] [(.ref r), (.ref b), (.ref b1), (.ref b1)])) := fun tt hq => k4 tt (by
    refine XS.aloadN X4.here hx rfl (hb hby d_prog_26_method_8_code_8) rfl rfl ?_
    exact hq)
  obtain ⟨T7, X7, e7, st7⟩ := getF X4 hx hZ hown (host := "") (Or.inl (wq hw 23 rfl)) Via.refl e4 f5 (g := (mkF m 9 #[.val (.ref r)] [(.ref r), (.ref b), (.ref b1), (.ref b1)])) rfl rfl (hb hby d_prog_26_method_8_code_9)
  have k7 : To p.tables e below S0 (T7.setTop (mkF m 12 #[.val (.ref r)] [(.int f), (.ref b), (.ref b1), (.ref b1)])) := fun tt hq => k6 tt (st7 tt hq)
  have f8 : Fld Z h1 r "strikebound/cli/InPlaceText" "length" "I" (.int (5 : Int32)) := (R3.ext E1)
  have k9 : To p.tables e below S0 (T7.setTop (mkF m 13 #[.val (.ref r)] [(.ref r), (.int f), (.ref b), (.ref b1), (.ref b1)])) := fun tt hq => k7 tt (by
    refine XS.aloadN X7.here hx rfl (hb hby d_prog_26_method_8_code_12) rfl rfl ?_
    exact hq)
  obtain ⟨T10, X10, e10, st10⟩ := getF X7 hx hZ hown (host := "") (Or.inl (wq hw 25 rfl)) Via.refl e7 f8 (g := (mkF m 13 #[.val (.ref r)] [(.ref r), (.int f), (.ref b), (.ref b1), (.ref b1)])) rfl rfl (hb hby d_prog_26_method_8_code_13)
  have k10 : To p.tables e below S0 (T10.setTop (mkF m 16 #[.val (.ref r)] [(.int (5 : Int32)), (.int f), (.ref b), (.ref b1), (.ref b1)])) := fun tt hq => k9 tt (st10 tt hq)
  have f11 : Old Z n0 h1 := (O0.ext E1)
  have f12 : Arv Z h1 b kb .char (6 : Int32) [(.int d0), (.int d1), (.int d2), (.int d3), (.int d4), (.int d5)] (.int (0 : Int32)) := (P0.ext E1)
  obtain ⟨_, T13, L13, X13, ⟨rfl, Nq13, Kq13, t13, kt13, gt13, P130, P131, P132, P133⟩, k13a⟩ := callC' X10 hx hZ (y := (⟨"java/lang/String", "<init>", "([CII)V"⟩ : MethodName)) rfl hown (wq hw 50 rfl) (wq hw 51 rfl) (wq hw 52 rfl) (by decide) (backC (W := 1) (rm_n3_5 l Z a0 hw zc fm b1 b kb .null (.int (0 : Int32)) f d0 d1 d2 d3 d4 d5 h1 n0 (by omega) S_c hzc S_f hfm f11 A1 F1_value F1_coder f12 (by omega) (by omega) (by omega) (by omega) hf hm q1 q2) hZ (wq hw 52 rfl) (wq hw 49 rfl) (by decide) (by decide)) e10 (argsL := [(.ref b), (.int f), (.int (5 : Int32))]) (rest := [(.ref b1)]) rfl rfl pd_7 rfl (by rw [hml]; rfl) (hb hby d_prog_26_method_8_code_16) (Nat.le_of_eq rfl) (by decide) (by decide) k10
  have k13 : To p.tables e below S0 (T13.setTop (mkF m 19 #[.val (.ref r)] [(.ref b1)])) := k13a
  have N13 := N0.app Nq13
  obtain ⟨h13, e13⟩ : ∃ z, T13.heap = z := ⟨_, rfl⟩
  rw [e13] at Kq13 gt13 P130 P131 P132 P133
  have z13 : h1.size ≤ h13.size := Kq13.1
  have hE := e13
  refine retRef X13 hx hret hlk rfl rfl (hb hby d_prog_26_method_8_code_19) k13 ?_ (by decide) (by decide)
  try rw [hE]
  exact ⟨_, _, _, rfl, N13, P130.lt, P133.lt, (((Keep.refl h0 []).ext E1).trans Kq13 (allS (Or.inr (by omega)) all0)), P130, P131, P132, P133⟩
set_option maxRecDepth 65536 in
set_option maxHeartbeats 40000000 in
theorem rm_lcs5 (l : Launch) (Z : State) (a0 : Array Value) (hw : ∀ d ∈ tables_1, d.before a0 Z = true) (fm : Value) (t : Addr) (kt : ClassId) (c0 : Int32) (c1 : Int32) (c2 : Int32) (c3 : Int32) (c4 : Int32) (i : Int32) (h0 : Heap) (n0 : Nat) (hn0 : n0 ≤ h0.size) (S_f : Sta Z Z.heap "jdk/internal/util/Preconditions" "SIOOBE_FORMATTER" "Ljava/util/function/BiFunction;" fm) (hfm : fm.isRef = true) (O0 : Old Z n0 h0) (P0 : Arv Z h0 t kt .byte (5 : Int32) [(.int c0), (.int c1), (.int c2), (.int c3), (.int c4)] (.int (0 : Int32))) (hi0 : ¬ i < (0 : Int32)) (hi1 : i < (5 : Int32)) :
    Con l Z (⟨"java/lang/StringLatin1", "charAt", "([BI)C"⟩ : MethodName) jdk_43_method_2_code 2 (some .char) [] ({ frames := 2, cells := 0, slots := 0, locals := 27 } : Room) #[(.ref t), (.int i)] h0 (fun v h L => v = some (.int ((own_at [c0, c1, c2, c3, c4] i) &&& (255 : Int32))) ∧ Fr n0 L ∧ h = h0) := by
  refine enter (Ls := #[.val (.ref t), .val (.int i)]) (plainFor_of_name pn_6) (fun m => by exact entry_eq rfl) ?_
  intro p e s m below meth cd_ s₁ S0 hx hby hml hret hlk hnm hown hZ X0 e0 k0
  have N0 := Fr.nil n0
  have k1 : To p.tables e below S0 (s₁.setTop (mkF m 2 #[.val (.ref t), .val (.int i)] [(.ref t), (.int i)])) := fun tt hq => k0 tt (by
    refine XS.iloadN X0.here hx rfl (hb hby d_jdk_43_method_2_code_0) rfl ?_
    refine XS.aloadN X0.here hx rfl (hb hby d_jdk_43_method_2_code_1) rfl rfl ?_
    exact hq)
  obtain ⟨cl2, Ar2, -, S2, M2, -, -⟩ := id P0
  have st2 := fun tt => X0.arraylength hx (by rw [e0]; exact Ar2.1) (State.isArrayOf_alike hZ.alike Ar2.2.1) (g := (mkF m 2 #[.val (.ref t), .val (.int i)] [(.ref t), (.int i)])) rfl rfl (hb hby d_jdk_43_method_2_code_2) tt
  rw [len_of S2 M2] at st2
  have k2 : To p.tables e below S0 (s₁.setTop (mkF m 3 #[.val (.ref t), .val (.int i)] [(.int (5 : Int32)), (.int i)])) := fun tt hq => k1 tt (st2 tt hq)
  obtain ⟨_, T3, L3, X3, ⟨rfl, Nq3, eq3⟩, k3a⟩ := callS' X0 hx hZ (y := (⟨"java/lang/String", "checkIndex", "(II)V"⟩ : MethodName)) hown (wq hw 121 rfl) (wq hw 122 rfl) (wq hw 49 rfl) (wq hw 123 rfl) (by decide) (backC (W := 0) (rm_chk l Z a0 hw fm i (5 : Int32) h0 n0 (by omega) S_f hfm O0 hi0 hi1) hZ (wq hw 123 rfl) (wq hw 49 rfl) (by decide) (by decide)) e0 (argsL := [(.int i), (.int (5 : Int32))]) (rest := []) rfl rfl pd_18 rfl (by rw [hml]; rfl) (hb hby d_jdk_43_method_2_code_3) (Nat.le_of_eq rfl) (by decide) (by decide) k2
  have k3 : To p.tables e below S0 (T3.setTop (mkF m 6 #[.val (.ref t), .val (.int i)] [])) := k3a
  have N3 := N0.app Nq3
  have e3 : T3.heap = h0 := eq3
  have k4 : To p.tables e below S0 (T3.setTop (mkF m 8 #[.val (.ref t), .val (.int i)] [(.int i), (.ref t)])) := fun tt hq => k3 tt (by
    refine XS.aloadN X3.here hx rfl (hb hby d_jdk_43_method_2_code_6) rfl rfl ?_
    refine XS.iloadN X3.here hx rfl (hb hby d_jdk_43_method_2_code_7) rfl ?_
    exact hq)
  obtain ⟨cl5, Ar5, -, S5, -, G5, -⟩ := id P0
  have hi5 := inb_of (j := i) S5 (⟨hi0, hi1⟩)
  have st5 := fun tt => X3.baloadBytes hx (j := i) (v := (.int (own_at [c0, c1, c2, c3, c4] i))) (by rw [e3]; exact Ar5.1) (State.isArrayOf_alike hZ.alike Ar5.2.1) Ar5.2.2 hi5 (G5.at hi5 (own_atv [c0, c1, c2, c3, c4] i)) (g := (mkF m 8 #[.val (.ref t), .val (.int i)] [(.int i), (.ref t)])) rfl rfl (hb hby d_jdk_43_method_2_code_8) tt
  have k5 : To p.tables e below S0 (T3.setTop (mkF m 9 #[.val (.ref t), .val (.int i)] [(.int (own_at [c0, c1, c2, c3, c4] i))])) := fun tt hq => k4 tt (st5 tt hq)
  have k6 : To p.tables e below S0 (T3.setTop (mkF m 14 #[.val (.ref t), .val (.int i)] [(.int (((own_at [c0, c1, c2, c3, c4] i) &&& (255 : Int32)).toUInt32.toUInt16.toUInt32.toInt32))])) := fun tt hq => k5 tt (by
    refine XS.sipush X3.here hx rfl (hb hby d_jdk_43_method_2_code_9) ?_
    refine XS.iand X3.here hx rfl (hb hby d_jdk_43_method_2_code_12) rfl ?_
    refine XS.i2c X3.here hx rfl (hb hby d_jdk_43_method_2_code_13) rfl ?_
    exact hq)
  have k7 : To p.tables e below S0 (T3.setTop (mkF m 14 #[.val (.ref t), .val (.int i)] [(.int ((own_at [c0, c1, c2, c3, c4] i) &&& (255 : Int32)))])) := by have hq := k6; rw [i2c_mask] at hq; exact hq
  obtain ⟨v8, hv8⟩ : ∃ z : Int32, z = ((own_at [c0, c1, c2, c3, c4] i) &&& (255 : Int32)) := ⟨_, rfl⟩
  have k8 : To p.tables e below S0 (T3.setTop (mkF m 14 #[.val (.ref t), .val (.int i)] [(.int v8)])) := by rw [hv8]; exact k7
  have mv8 : ¬ v8 < (0 : Int32) ∧ ¬ (255 : Int32) < v8 := by rw [hv8]; exact own_m255 _
  have hE := e3
  refine retInt X3 hx hret hlk (by simp) (congrArg Value.int (own_narc mv8)) (hb hby d_jdk_43_method_2_code_14) k8 ?_ (by decide) (by decide)
  try rw [hE]
  exact ⟨by rw [hv8], N3, rfl⟩
set_option maxRecDepth 65536 in
set_option maxHeartbeats 40000000 in
theorem rm_cs5 (l : Launch) (Z : State) (a0 : Array Value) (hw : ∀ d ∈ tables_1, d.before a0 Z = true) (zc : Int32) (fm : Value) (a : Addr) (t : Addr) (kt : ClassId) (c0 : Int32) (c1 : Int32) (c2 : Int32) (c3 : Int32) (c4 : Int32) (i : Int32) (r : Int32) (h0 : Heap) (n0 : Nat) (hn0 : n0 ≤ h0.size) (S_c : Sta Z Z.heap "java/lang/String" "COMPACT_STRINGS" "Z" (.int zc)) (hzc : ¬ zc = (0 : Int32)) (S_f : Sta Z Z.heap "jdk/internal/util/Preconditions" "SIOOBE_FORMATTER" "Ljava/util/function/BiFunction;" fm) (hfm : fm.isRef = true) (O0 : Old Z n0 h0) (P0 : Exa Z h0 a "java/lang/String") (P1 : Fld Z h0 a "java/lang/String" "value" "[B" (.ref t)) (P2 : Fld Z h0 a "java/lang/String" "coder" "B" (.int (0 : Int32))) (P3 : Arv Z h0 t kt .byte (5 : Int32) [(.int c0), (.int c1), (.int c2), (.int c3), (.int c4)] (.int 0)) (hi0 : ¬ i < (0 : Int32)) (hi1 : i < (5 : Int32)) (hr : ((own_at [c0, c1, c2, c3, c4] i) &&& (255 : Int32)) = r) :
    Con l Z (⟨"java/lang/String", "charAt", "(I)C"⟩ : MethodName) jdk_42_method_56_code 2 (some .char) [] ({ frames := 3, cells := 0, slots := 0, locals := 40 } : Room) #[(.ref a), (.int i)] h0 (fun v h L => v = some (.int r) ∧ Fr n0 L ∧ h = h0) := by
  refine enter (Ls := #[.val (.ref a), .val (.int i)]) (plainFor_of_name pn_3) (fun m => by exact entry_eq rfl) ?_
  intro p e s m below meth cd_ s₁ S0 hx hby hml hret hlk hnm hown hZ X0 e0 k0
  have N0 := Fr.nil n0
  have k1 : To p.tables e below S0 (s₁.setTop (mkF m 1 #[.val (.ref a), .val (.int i)] [(.ref a)])) := fun tt hq => k0 tt (by
    refine XS.aloadN X0.here hx rfl (hb hby d_jdk_42_method_56_code_0) rfl rfl ?_
    exact hq)
  obtain ⟨_, T2, L2, X2, ⟨rfl, Nq2, eq2⟩, k2a⟩ := callV' X0 hx hZ (y := (⟨"java/lang/String", "isLatin1", "()Z"⟩ : MethodName)) (z := (⟨"java/lang/String", "isLatin1", "()Z"⟩ : MethodName)) hown (wq hw 112 rfl) (wq hw 113 rfl) (notFace_of_selects (args := #[]) (mvT hZ (wq hw 115 rfl))) (wq hw 115 rfl) (wq hw 114 rfl) (by decide) P0 (backC (W := 0) (rm_latin l Z a0 hw zc a h0 n0 (by omega) S_c hzc O0 P2) hZ (wq hw 116 rfl) (wq hw 49 rfl) (by decide) (by decide)) e0 (argsL := []) (rest := []) rfl rfl pd_17 rfl (by rw [hml]; rfl) (hb hby d_jdk_42_method_56_code_1) (Nat.le_of_eq rfl) (by decide) (by decide) k1
  have k2 : To p.tables e below S0 (T2.setTop (mkF m 4 #[.val (.ref a), .val (.int i)] [(.int (1 : Int32))])) := k2a
  have N2 := N0.app Nq2
  have e2 : T2.heap = h0 := eq2
  have k3 : To p.tables e below S0 (T2.setTop (mkF m 8 #[.val (.ref a), .val (.int i)] [(.ref a)])) := fun tt hq => k2 tt (by
    refine XS.ifNo X2.here hx rfl (hb hby d_jdk_42_method_56_code_4) rfl ((if0 _ _).trans (feq (by decide)).1) ?_
    refine XS.aloadN X2.here hx rfl (hb hby d_jdk_42_method_56_code_7) rfl rfl ?_
    exact hq)
  obtain ⟨T4, X4, e4, st4⟩ := getF X2 hx hZ hown (host := "") (Or.inl (wq hw 83 rfl)) Via.refl e2 P1 (g := (mkF m 8 #[.val (.ref a), .val (.int i)] [(.ref a)])) rfl rfl (hb hby d_jdk_42_method_56_code_8)
  have k4 : To p.tables e below S0 (T4.setTop (mkF m 11 #[.val (.ref a), .val (.int i)] [(.ref t)])) := fun tt hq => k3 tt (st4 tt hq)
  have k5 : To p.tables e below S0 (T4.setTop (mkF m 12 #[.val (.ref a), .val (.int i)] [(.int i), (.ref t)])) := fun tt hq => k4 tt (by
    refine XS.iloadN X4.here hx rfl (hb hby d_jdk_42_method_56_code_11) rfl ?_
    exact hq)
  obtain ⟨_, T6, L6, X6, ⟨rfl, Nq6, eq6⟩, k6a⟩ := callS' X4 hx hZ (y := (⟨"java/lang/StringLatin1", "charAt", "([BI)C"⟩ : MethodName)) hown (wq hw 117 rfl) (wq hw 118 rfl) (wq hw 119 rfl) (wq hw 120 rfl) (by decide) (backC (W := 0) (rm_lcs5 l Z a0 hw fm t kt c0 c1 c2 c3 c4 i h0 n0 (by omega) S_f hfm O0 P3 hi0 hi1) hZ (wq hw 120 rfl) (wq hw 119 rfl) (by decide) (by decide)) e4 (argsL := [(.ref t), (.int i)]) (rest := []) rfl rfl pd_19 rfl (by rw [hml]; rfl) (hb hby d_jdk_42_method_56_code_12) (Nat.le_of_eq rfl) (by decide) (by decide) k5
  have k6 : To p.tables e below S0 (T6.setTop (mkF m 15 #[.val (.ref a), .val (.int i)] [(.int ((own_at [c0, c1, c2, c3, c4] i) &&& (255 : Int32)))])) := k6a
  have N6 := N2.app Nq6
  have e6 : T6.heap = h0 := eq6
  have hE := e6
  refine retInt X6 hx hret hlk (by simp) (own_narrowc _) (hb hby d_jdk_42_method_56_code_15) k6 ?_ (by decide) (by decide)
  try rw [hE]
  exact ⟨by rw [hr], N6, rfl⟩
set_option maxRecDepth 65536 in
set_option maxHeartbeats 40000000 in
theorem rm_c5_6 (l : Launch) (Z : State) (a0 : Array Value) (hw : ∀ d ∈ tables_1, d.before a0 Z = true) (b : Addr) (kb : ClassId) (t : Addr) (kt : ClassId) (f : Int32) (d0 : Int32) (d1 : Int32) (d2 : Int32) (d3 : Int32) (d4 : Int32) (d5 : Int32) (h0 : Heap) (n0 : Nat) (hn0 : n0 ≤ h0.size) (P0 : Arv Z h0 b kb .char (6 : Int32) [(.int d0), (.int d1), (.int d2), (.int d3), (.int d4), (.int d5)] (.int (0 : Int32))) (P1 : Arv Z h0 t kt .byte (6 : Int32) [(.int (0 : Int32)), (.int (0 : Int32)), (.int (0 : Int32)), (.int (0 : Int32)), (.int (0 : Int32)), (.int (0 : Int32))] (.int (0 : Int32))) (ga : n0 ≤ t) (nbt : ¬ (@Eq Nat b t)) (hf : f = (0 : Int32)) (hm : ∀ i : Int32, ¬ own_at [d0, d1, d2, d3, d4, d5] i < (0 : Int32) ∧ ¬ (255 : Int32) < own_at [d0, d1, d2, d3, d4, d5] i) :
    Con l Z (⟨"java/lang/StringUTF16", "compress", "([CI[BII)I"⟩ : MethodName) jdk_52_method_21_code 7 (some .int) [] ({ frames := 0, cells := 0, slots := 0, locals := 0 } : Room) #[(.ref b), (.int f), (.ref t), (.int (0 : Int32)), (.int (6 : Int32))] h0 (fun v h L => v = some (.int (6 : Int32)) ∧ Fr n0 L ∧ Keep h0 h [t] ∧ Arv Z h t kt .byte (6 : Int32) [(.int (nar .byte ((own_at [d0, d1, d2, d3, d4, d5] f).toInt8.toInt32))), (.int (nar .byte ((own_at [d0, d1, d2, d3, d4, d5] (f + (1 : Int32))).toInt8.toInt32))), (.int (nar .byte ((own_at [d0, d1, d2, d3, d4, d5] ((f + (1 : Int32)) + (1 : Int32))).toInt8.toInt32))), (.int (nar .byte ((own_at [d0, d1, d2, d3, d4, d5] (((f + (1 : Int32)) + (1 : Int32)) + (1 : Int32))).toInt8.toInt32))), (.int (nar .byte ((own_at [d0, d1, d2, d3, d4, d5] ((((f + (1 : Int32)) + (1 : Int32)) + (1 : Int32)) + (1 : Int32))).toInt8.toInt32))), (.int (nar .byte ((own_at [d0, d1, d2, d3, d4, d5] (((((f + (1 : Int32)) + (1 : Int32)) + (1 : Int32)) + (1 : Int32)) + (1 : Int32))).toInt8.toInt32)))] (.int (0 : Int32))) := by
  refine enter (Ls := #[.val (.ref b), .val (.int f), .val (.ref t), .val (.int (0 : Int32)), .val (.int (6 : Int32)), .unset, .unset]) (plainFor_of_name pn_5) (fun m => by exact entry_eq rfl) ?_
  intro p e s m below meth cd_ s₁ S0 hx hby hml hret hlk hnm hown hZ X0 e0 k0
  have N0 := Fr.nil n0
  have k1 : To p.tables e below S0 (s₁.setTop (mkF m 12 #[.val (.ref b), .val (.int f), .val (.ref t), .val (.int (0 : Int32)), .val (.int (6 : Int32)), .val (.int (0 : Int32)), .unset] [(.int f), (.ref b)])) := fun tt hq => k0 tt (by
    refine XS.iconst X0.here hx rfl (hb hby d_jdk_52_method_21_code_0) ?_
    refine XS.istore X0.here hx rfl (hb hby d_jdk_52_method_21_code_1) rfl (l' := #[.val (.ref b), .val (.int f), .val (.ref t), .val (.int (0 : Int32)), .val (.int (6 : Int32)), .val (.int (0 : Int32)), .unset]) rfl ?_
    refine XS.iload X0.here hx rfl (hb hby d_jdk_52_method_21_code_3) rfl ?_
    refine XS.iload X0.here hx rfl (hb hby d_jdk_52_method_21_code_5) rfl ?_
    refine XS.icmpNo X0.here hx rfl (hb hby d_jdk_52_method_21_code_7) rfl (tlt (by decide)).2.1 ?_
    refine XS.aloadN X0.here hx rfl (hb hby d_jdk_52_method_21_code_10) rfl rfl ?_
    refine XS.iloadN X0.here hx rfl (hb hby d_jdk_52_method_21_code_11) rfl ?_
    exact hq)
  obtain ⟨cl2, Ar2, -, S2, -, G2, -⟩ := id P0
  have hi2 := inb_of (j := f) S2 (by rcases hf with rfl <;> decide)
  have st2 := fun tt => X0.caload hx (j := f) (v := (.int (own_at [d0, d1, d2, d3, d4, d5] f))) (by rw [e0]; exact Ar2.1) (State.isArrayOf_alike hZ.alike Ar2.2.1) Ar2.2.2 hi2 (G2.at hi2 (own_atv [d0, d1, d2, d3, d4, d5] f)) (g := (mkF m 12 #[.val (.ref b), .val (.int f), .val (.ref t), .val (.int (0 : Int32)), .val (.int (6 : Int32)), .val (.int (0 : Int32)), .unset] [(.int f), (.ref b)])) rfl rfl (hb hby d_jdk_52_method_21_code_12) tt
  have k2 : To p.tables e below S0 (s₁.setTop (mkF m 13 #[.val (.ref b), .val (.int f), .val (.ref t), .val (.int (0 : Int32)), .val (.int (6 : Int32)), .val (.int (0 : Int32)), .unset] [(.int (own_at [d0, d1, d2, d3, d4, d5] f))])) := fun tt hq => k1 tt (st2 tt hq)
  have k3 : To p.tables e below S0 (s₁.setTop (mkF m 31 #[.val (.ref b), .val (.int f), .val (.ref t), .val (.int (0 : Int32)), .val (.int (6 : Int32)), .val (.int (0 : Int32)), .val (.int (own_at [d0, d1, d2, d3, d4, d5] f))] [(.int ((own_at [d0, d1, d2, d3, d4, d5] f).toInt8.toInt32)), (.int (0 : Int32)), (.ref t)])) := fun tt hq => k2 tt (by
    refine XS.istore X0.here hx rfl (hb hby d_jdk_52_method_21_code_13) rfl (l' := #[.val (.ref b), .val (.int f), .val (.ref t), .val (.int (0 : Int32)), .val (.int (6 : Int32)), .val (.int (0 : Int32)), .val (.int (own_at [d0, d1, d2, d3, d4, d5] f))]) rfl ?_
    refine XS.iload X0.here hx rfl (hb hby d_jdk_52_method_21_code_15) rfl ?_
    refine XS.sipush X0.here hx rfl (hb hby d_jdk_52_method_21_code_17) ?_
    refine XS.icmpYes X0.here hx rfl (pc0 := 20) (pc' := 26) rfl (hb hby d_jdk_52_method_21_code_20) rfl (flt (hm f).2).2.2.2 (by decide) (by decide) ?_
    refine XS.aloadN X0.here hx rfl (hb hby d_jdk_52_method_21_code_26) rfl rfl ?_
    refine XS.iloadN X0.here hx rfl (hb hby d_jdk_52_method_21_code_27) rfl ?_
    refine XS.iload X0.here hx rfl (hb hby d_jdk_52_method_21_code_28) rfl ?_
    refine XS.i2b X0.here hx rfl (hb hby d_jdk_52_method_21_code_30) rfl ?_
    exact hq)
  obtain ⟨cl4, Ar4, q4, S4, M4, G4, J4⟩ := id P1
  obtain ⟨T4, h4, X4, e4, W4, st4⟩ := stB X0 hx hZ e0 Ar4 (j := (0 : Int32)) (inb_of S4 ⟨by decide, by decide⟩) (g := (mkF m 31 #[.val (.ref b), .val (.int f), .val (.ref t), .val (.int (0 : Int32)), .val (.int (6 : Int32)), .val (.int (0 : Int32)), .val (.int (own_at [d0, d1, d2, d3, d4, d5] f))] [(.int ((own_at [d0, d1, d2, d3, d4, d5] f).toInt8.toInt32)), (.int (0 : Int32)), (.ref t)])) rfl rfl (hb hby d_jdk_52_method_21_code_31)
  have k4 : To p.tables e below S0 (T4.setTop (mkF m 32 #[.val (.ref b), .val (.int f), .val (.ref t), .val (.int (0 : Int32)), .val (.int (6 : Int32)), .val (.int (0 : Int32)), .val (.int (own_at [d0, d1, d2, d3, d4, d5] f))] [])) := fun tt hq => k3 tt (st4 tt hq)
  have z4 : h4.size = h0.size := W4.size
  have V4 : Arv Z h4 t kt .byte (6 : Int32) [(.int (nar .byte ((own_at [d0, d1, d2, d3, d4, d5] f).toInt8.toInt32))), (.int (0 : Int32)), (.int (0 : Int32)), (.int (0 : Int32)), (.int (0 : Int32)), (.int (0 : Int32))] (.int (0 : Int32)) := Arv.set Ar4 q4 S4 M4 G4 J4 (fits_nar_byte _) W4 0 rfl (Nat.le_of_ble_eq_true rfl)
  have N4 := Fr.snoc X4 N0 (by omega : n0 ≤ t)
  have f5 : Arv Z h4 b kb .char (6 : Int32) [(.int d0), (.int d1), (.int d2), (.int d3), (.int d4), (.int d5)] (.int (0 : Int32)) := (P0.other W4 (adr_ne (by omega)))
  have k6 : To p.tables e below S0 (T4.setTop (mkF m 12 #[.val (.ref b), .val (.int (f + (1 : Int32))), .val (.ref t), .val (.int (1 : Int32)), .val (.int (6 : Int32)), .val (.int (1 : Int32)), .val (.int (own_at [d0, d1, d2, d3, d4, d5] f))] [(.int (f + (1 : Int32))), (.ref b)])) := fun tt hq => k4 tt (by
    refine XS.iinc X4.here hx rfl (hb hby d_jdk_52_method_21_code_32) rfl (l' := #[.val (.ref b), .val (.int (f + (1 : Int32))), .val (.ref t), .val (.int (0 : Int32)), .val (.int (6 : Int32)), .val (.int (0 : Int32)), .val (.int (own_at [d0, d1, d2, d3, d4, d5] f))]) rfl ?_
    refine XS.iinc X4.here hx rfl (hb hby d_jdk_52_method_21_code_35) rfl (l' := #[.val (.ref b), .val (.int (f + (1 : Int32))), .val (.ref t), .val (.int (1 : Int32)), .val (.int (6 : Int32)), .val (.int (0 : Int32)), .val (.int (own_at [d0, d1, d2, d3, d4, d5] f))]) rfl ?_
    refine XS.iinc X4.here hx rfl (hb hby d_jdk_52_method_21_code_38) rfl (l' := #[.val (.ref b), .val (.int (f + (1 : Int32))), .val (.ref t), .val (.int (1 : Int32)), .val (.int (6 : Int32)), .val (.int (1 : Int32)), .val (.int (own_at [d0, d1, d2, d3, d4, d5] f))]) rfl ?_
    refine XS.goto X4.here hx rfl (pc0 := 41) (pc' := 3) rfl (hb hby d_jdk_52_method_21_code_41) (by decide) (by decide) ?_
    refine XS.iload X4.here hx rfl (hb hby d_jdk_52_method_21_code_3) rfl ?_
    refine XS.iload X4.here hx rfl (hb hby d_jdk_52_method_21_code_5) rfl ?_
    refine XS.icmpNo X4.here hx rfl (hb hby d_jdk_52_method_21_code_7) rfl (tlt (by decide)).2.1 ?_
    refine XS.aloadN X4.here hx rfl (hb hby d_jdk_52_method_21_code_10) rfl rfl ?_
    refine XS.iloadN X4.here hx rfl (hb hby d_jdk_52_method_21_code_11) rfl ?_
    exact hq)
  obtain ⟨cl7, Ar7, -, S7, -, G7, -⟩ := id f5
  have hi7 := inb_of (j := (f + (1 : Int32))) S7 (by rcases hf with rfl <;> decide)
  have st7 := fun tt => X4.caload hx (j := (f + (1 : Int32))) (v := (.int (own_at [d0, d1, d2, d3, d4, d5] (f + (1 : Int32))))) (by rw [e4]; exact Ar7.1) (State.isArrayOf_alike hZ.alike Ar7.2.1) Ar7.2.2 hi7 (G7.at hi7 (own_atv [d0, d1, d2, d3, d4, d5] (f + (1 : Int32)))) (g := (mkF m 12 #[.val (.ref b), .val (.int (f + (1 : Int32))), .val (.ref t), .val (.int (1 : Int32)), .val (.int (6 : Int32)), .val (.int (1 : Int32)), .val (.int (own_at [d0, d1, d2, d3, d4, d5] f))] [(.int (f + (1 : Int32))), (.ref b)])) rfl rfl (hb hby d_jdk_52_method_21_code_12) tt
  have k7 : To p.tables e below S0 (T4.setTop (mkF m 13 #[.val (.ref b), .val (.int (f + (1 : Int32))), .val (.ref t), .val (.int (1 : Int32)), .val (.int (6 : Int32)), .val (.int (1 : Int32)), .val (.int (own_at [d0, d1, d2, d3, d4, d5] f))] [(.int (own_at [d0, d1, d2, d3, d4, d5] (f + (1 : Int32))))])) := fun tt hq => k6 tt (st7 tt hq)
  have k8 : To p.tables e below S0 (T4.setTop (mkF m 31 #[.val (.ref b), .val (.int (f + (1 : Int32))), .val (.ref t), .val (.int (1 : Int32)), .val (.int (6 : Int32)), .val (.int (1 : Int32)), .val (.int (own_at [d0, d1, d2, d3, d4, d5] (f + (1 : Int32))))] [(.int ((own_at [d0, d1, d2, d3, d4, d5] (f + (1 : Int32))).toInt8.toInt32)), (.int (1 : Int32)), (.ref t)])) := fun tt hq => k7 tt (by
    refine XS.istore X4.here hx rfl (hb hby d_jdk_52_method_21_code_13) rfl (l' := #[.val (.ref b), .val (.int (f + (1 : Int32))), .val (.ref t), .val (.int (1 : Int32)), .val (.int (6 : Int32)), .val (.int (1 : Int32)), .val (.int (own_at [d0, d1, d2, d3, d4, d5] (f + (1 : Int32))))]) rfl ?_
    refine XS.iload X4.here hx rfl (hb hby d_jdk_52_method_21_code_15) rfl ?_
    refine XS.sipush X4.here hx rfl (hb hby d_jdk_52_method_21_code_17) ?_
    refine XS.icmpYes X4.here hx rfl (pc0 := 20) (pc' := 26) rfl (hb hby d_jdk_52_method_21_code_20) rfl (flt (hm (f + (1 : Int32))).2).2.2.2 (by decide) (by decide) ?_
    refine XS.aloadN X4.here hx rfl (hb hby d_jdk_52_method_21_code_26) rfl rfl ?_
    refine XS.iloadN X4.here hx rfl (hb hby d_jdk_52_method_21_code_27) rfl ?_
    refine XS.iload X4.here hx rfl (hb hby d_jdk_52_method_21_code_28) rfl ?_
    refine XS.i2b X4.here hx rfl (hb hby d_jdk_52_method_21_code_30) rfl ?_
    exact hq)
  obtain ⟨cl9, Ar9, q9, S9, M9, G9, J9⟩ := id V4
  obtain ⟨T9, h9, X9, e9, W9, st9⟩ := stB X4 hx hZ e4 Ar9 (j := (1 : Int32)) (inb_of S9 ⟨by decide, by decide⟩) (g := (mkF m 31 #[.val (.ref b), .val (.int (f + (1 : Int32))), .val (.ref t), .val (.int (1 : Int32)), .val (.int (6 : Int32)), .val (.int (1 : Int32)), .val (.int (own_at [d0, d1, d2, d3, d4, d5] (f + (1 : Int32))))] [(.int ((own_at [d0, d1, d2, d3, d4, d5] (f + (1 : Int32))).toInt8.toInt32)), (.int (1 : Int32)), (.ref t)])) rfl rfl (hb hby d_jdk_52_method_21_code_31)
  have k9 : To p.tables e below S0 (T9.setTop (mkF m 32 #[.val (.ref b), .val (.int (f + (1 : Int32))), .val (.ref t), .val (.int (1 : Int32)), .val (.int (6 : Int32)), .val (.int (1 : Int32)), .val (.int (own_at [d0, d1, d2, d3, d4, d5] (f + (1 : Int32))))] [])) := fun tt hq => k8 tt (st9 tt hq)
  have z9 : h9.size = h4.size := W9.size
  have V9 : Arv Z h9 t kt .byte (6 : Int32) [(.int (nar .byte ((own_at [d0, d1, d2, d3, d4, d5] f).toInt8.toInt32))), (.int (nar .byte ((own_at [d0, d1, d2, d3, d4, d5] (f + (1 : Int32))).toInt8.toInt32))), (.int (0 : Int32)), (.int (0 : Int32)), (.int (0 : Int32)), (.int (0 : Int32))] (.int (0 : Int32)) := Arv.set Ar9 q9 S9 M9 G9 J9 (fits_nar_byte _) W9 1 rfl (Nat.le_of_ble_eq_true rfl)
  have N9 := Fr.snoc X9 N4 (by omega : n0 ≤ t)
  have f10 : Arv Z h9 b kb .char (6 : Int32) [(.int d0), (.int d1), (.int d2), (.int d3), (.int d4), (.int d5)] (.int (0 : Int32)) := (f5.other W9 (adr_ne (by omega)))
  have k11 : To p.tables e below S0 (T9.setTop (mkF m 12 #[.val (.ref b), .val (.int ((f + (1 : Int32)) + (1 : Int32))), .val (.ref t), .val (.int (2 : Int32)), .val (.int (6 : Int32)), .val (.int (2 : Int32)), .val (.int (own_at [d0, d1, d2, d3, d4, d5] (f + (1 : Int32))))] [(.int ((f + (1 : Int32)) + (1 : Int32))), (.ref b)])) := fun tt hq => k9 tt (by
    refine XS.iinc X9.here hx rfl (hb hby d_jdk_52_method_21_code_32) rfl (l' := #[.val (.ref b), .val (.int ((f + (1 : Int32)) + (1 : Int32))), .val (.ref t), .val (.int (1 : Int32)), .val (.int (6 : Int32)), .val (.int (1 : Int32)), .val (.int (own_at [d0, d1, d2, d3, d4, d5] (f + (1 : Int32))))]) rfl ?_
    refine XS.iinc X9.here hx rfl (hb hby d_jdk_52_method_21_code_35) rfl (l' := #[.val (.ref b), .val (.int ((f + (1 : Int32)) + (1 : Int32))), .val (.ref t), .val (.int (2 : Int32)), .val (.int (6 : Int32)), .val (.int (1 : Int32)), .val (.int (own_at [d0, d1, d2, d3, d4, d5] (f + (1 : Int32))))]) rfl ?_
    refine XS.iinc X9.here hx rfl (hb hby d_jdk_52_method_21_code_38) rfl (l' := #[.val (.ref b), .val (.int ((f + (1 : Int32)) + (1 : Int32))), .val (.ref t), .val (.int (2 : Int32)), .val (.int (6 : Int32)), .val (.int (2 : Int32)), .val (.int (own_at [d0, d1, d2, d3, d4, d5] (f + (1 : Int32))))]) rfl ?_
    refine XS.goto X9.here hx rfl (pc0 := 41) (pc' := 3) rfl (hb hby d_jdk_52_method_21_code_41) (by decide) (by decide) ?_
    refine XS.iload X9.here hx rfl (hb hby d_jdk_52_method_21_code_3) rfl ?_
    refine XS.iload X9.here hx rfl (hb hby d_jdk_52_method_21_code_5) rfl ?_
    refine XS.icmpNo X9.here hx rfl (hb hby d_jdk_52_method_21_code_7) rfl (tlt (by decide)).2.1 ?_
    refine XS.aloadN X9.here hx rfl (hb hby d_jdk_52_method_21_code_10) rfl rfl ?_
    refine XS.iloadN X9.here hx rfl (hb hby d_jdk_52_method_21_code_11) rfl ?_
    exact hq)
  obtain ⟨cl12, Ar12, -, S12, -, G12, -⟩ := id f10
  have hi12 := inb_of (j := ((f + (1 : Int32)) + (1 : Int32))) S12 (by rcases hf with rfl <;> decide)
  have st12 := fun tt => X9.caload hx (j := ((f + (1 : Int32)) + (1 : Int32))) (v := (.int (own_at [d0, d1, d2, d3, d4, d5] ((f + (1 : Int32)) + (1 : Int32))))) (by rw [e9]; exact Ar12.1) (State.isArrayOf_alike hZ.alike Ar12.2.1) Ar12.2.2 hi12 (G12.at hi12 (own_atv [d0, d1, d2, d3, d4, d5] ((f + (1 : Int32)) + (1 : Int32)))) (g := (mkF m 12 #[.val (.ref b), .val (.int ((f + (1 : Int32)) + (1 : Int32))), .val (.ref t), .val (.int (2 : Int32)), .val (.int (6 : Int32)), .val (.int (2 : Int32)), .val (.int (own_at [d0, d1, d2, d3, d4, d5] (f + (1 : Int32))))] [(.int ((f + (1 : Int32)) + (1 : Int32))), (.ref b)])) rfl rfl (hb hby d_jdk_52_method_21_code_12) tt
  have k12 : To p.tables e below S0 (T9.setTop (mkF m 13 #[.val (.ref b), .val (.int ((f + (1 : Int32)) + (1 : Int32))), .val (.ref t), .val (.int (2 : Int32)), .val (.int (6 : Int32)), .val (.int (2 : Int32)), .val (.int (own_at [d0, d1, d2, d3, d4, d5] (f + (1 : Int32))))] [(.int (own_at [d0, d1, d2, d3, d4, d5] ((f + (1 : Int32)) + (1 : Int32))))])) := fun tt hq => k11 tt (st12 tt hq)
  have k13 : To p.tables e below S0 (T9.setTop (mkF m 31 #[.val (.ref b), .val (.int ((f + (1 : Int32)) + (1 : Int32))), .val (.ref t), .val (.int (2 : Int32)), .val (.int (6 : Int32)), .val (.int (2 : Int32)), .val (.int (own_at [d0, d1, d2, d3, d4, d5] ((f + (1 : Int32)) + (1 : Int32))))] [(.int ((own_at [d0, d1, d2, d3, d4, d5] ((f + (1 : Int32)) + (1 : Int32))).toInt8.toInt32)), (.int (2 : Int32)), (.ref t)])) := fun tt hq => k12 tt (by
    refine XS.istore X9.here hx rfl (hb hby d_jdk_52_method_21_code_13) rfl (l' := #[.val (.ref b), .val (.int ((f + (1 : Int32)) + (1 : Int32))), .val (.ref t), .val (.int (2 : Int32)), .val (.int (6 : Int32)), .val (.int (2 : Int32)), .val (.int (own_at [d0, d1, d2, d3, d4, d5] ((f + (1 : Int32)) + (1 : Int32))))]) rfl ?_
    refine XS.iload X9.here hx rfl (hb hby d_jdk_52_method_21_code_15) rfl ?_
    refine XS.sipush X9.here hx rfl (hb hby d_jdk_52_method_21_code_17) ?_
    refine XS.icmpYes X9.here hx rfl (pc0 := 20) (pc' := 26) rfl (hb hby d_jdk_52_method_21_code_20) rfl (flt (hm ((f + (1 : Int32)) + (1 : Int32))).2).2.2.2 (by decide) (by decide) ?_
    refine XS.aloadN X9.here hx rfl (hb hby d_jdk_52_method_21_code_26) rfl rfl ?_
    refine XS.iloadN X9.here hx rfl (hb hby d_jdk_52_method_21_code_27) rfl ?_
    refine XS.iload X9.here hx rfl (hb hby d_jdk_52_method_21_code_28) rfl ?_
    refine XS.i2b X9.here hx rfl (hb hby d_jdk_52_method_21_code_30) rfl ?_
    exact hq)
  obtain ⟨cl14, Ar14, q14, S14, M14, G14, J14⟩ := id V9
  obtain ⟨T14, h14, X14, e14, W14, st14⟩ := stB X9 hx hZ e9 Ar14 (j := (2 : Int32)) (inb_of S14 ⟨by decide, by decide⟩) (g := (mkF m 31 #[.val (.ref b), .val (.int ((f + (1 : Int32)) + (1 : Int32))), .val (.ref t), .val (.int (2 : Int32)), .val (.int (6 : Int32)), .val (.int (2 : Int32)), .val (.int (own_at [d0, d1, d2, d3, d4, d5] ((f + (1 : Int32)) + (1 : Int32))))] [(.int ((own_at [d0, d1, d2, d3, d4, d5] ((f + (1 : Int32)) + (1 : Int32))).toInt8.toInt32)), (.int (2 : Int32)), (.ref t)])) rfl rfl (hb hby d_jdk_52_method_21_code_31)
  have k14 : To p.tables e below S0 (T14.setTop (mkF m 32 #[.val (.ref b), .val (.int ((f + (1 : Int32)) + (1 : Int32))), .val (.ref t), .val (.int (2 : Int32)), .val (.int (6 : Int32)), .val (.int (2 : Int32)), .val (.int (own_at [d0, d1, d2, d3, d4, d5] ((f + (1 : Int32)) + (1 : Int32))))] [])) := fun tt hq => k13 tt (st14 tt hq)
  have z14 : h14.size = h9.size := W14.size
  have V14 : Arv Z h14 t kt .byte (6 : Int32) [(.int (nar .byte ((own_at [d0, d1, d2, d3, d4, d5] f).toInt8.toInt32))), (.int (nar .byte ((own_at [d0, d1, d2, d3, d4, d5] (f + (1 : Int32))).toInt8.toInt32))), (.int (nar .byte ((own_at [d0, d1, d2, d3, d4, d5] ((f + (1 : Int32)) + (1 : Int32))).toInt8.toInt32))), (.int (0 : Int32)), (.int (0 : Int32)), (.int (0 : Int32))] (.int (0 : Int32)) := Arv.set Ar14 q14 S14 M14 G14 J14 (fits_nar_byte _) W14 2 rfl (Nat.le_of_ble_eq_true rfl)
  have N14 := Fr.snoc X14 N9 (by omega : n0 ≤ t)
  have f15 : Arv Z h14 b kb .char (6 : Int32) [(.int d0), (.int d1), (.int d2), (.int d3), (.int d4), (.int d5)] (.int (0 : Int32)) := (f10.other W14 (adr_ne (by omega)))
  have k16 : To p.tables e below S0 (T14.setTop (mkF m 12 #[.val (.ref b), .val (.int (((f + (1 : Int32)) + (1 : Int32)) + (1 : Int32))), .val (.ref t), .val (.int (3 : Int32)), .val (.int (6 : Int32)), .val (.int (3 : Int32)), .val (.int (own_at [d0, d1, d2, d3, d4, d5] ((f + (1 : Int32)) + (1 : Int32))))] [(.int (((f + (1 : Int32)) + (1 : Int32)) + (1 : Int32))), (.ref b)])) := fun tt hq => k14 tt (by
    refine XS.iinc X14.here hx rfl (hb hby d_jdk_52_method_21_code_32) rfl (l' := #[.val (.ref b), .val (.int (((f + (1 : Int32)) + (1 : Int32)) + (1 : Int32))), .val (.ref t), .val (.int (2 : Int32)), .val (.int (6 : Int32)), .val (.int (2 : Int32)), .val (.int (own_at [d0, d1, d2, d3, d4, d5] ((f + (1 : Int32)) + (1 : Int32))))]) rfl ?_
    refine XS.iinc X14.here hx rfl (hb hby d_jdk_52_method_21_code_35) rfl (l' := #[.val (.ref b), .val (.int (((f + (1 : Int32)) + (1 : Int32)) + (1 : Int32))), .val (.ref t), .val (.int (3 : Int32)), .val (.int (6 : Int32)), .val (.int (2 : Int32)), .val (.int (own_at [d0, d1, d2, d3, d4, d5] ((f + (1 : Int32)) + (1 : Int32))))]) rfl ?_
    refine XS.iinc X14.here hx rfl (hb hby d_jdk_52_method_21_code_38) rfl (l' := #[.val (.ref b), .val (.int (((f + (1 : Int32)) + (1 : Int32)) + (1 : Int32))), .val (.ref t), .val (.int (3 : Int32)), .val (.int (6 : Int32)), .val (.int (3 : Int32)), .val (.int (own_at [d0, d1, d2, d3, d4, d5] ((f + (1 : Int32)) + (1 : Int32))))]) rfl ?_
    refine XS.goto X14.here hx rfl (pc0 := 41) (pc' := 3) rfl (hb hby d_jdk_52_method_21_code_41) (by decide) (by decide) ?_
    refine XS.iload X14.here hx rfl (hb hby d_jdk_52_method_21_code_3) rfl ?_
    refine XS.iload X14.here hx rfl (hb hby d_jdk_52_method_21_code_5) rfl ?_
    refine XS.icmpNo X14.here hx rfl (hb hby d_jdk_52_method_21_code_7) rfl (tlt (by decide)).2.1 ?_
    refine XS.aloadN X14.here hx rfl (hb hby d_jdk_52_method_21_code_10) rfl rfl ?_
    refine XS.iloadN X14.here hx rfl (hb hby d_jdk_52_method_21_code_11) rfl ?_
    exact hq)
  obtain ⟨cl17, Ar17, -, S17, -, G17, -⟩ := id f15
  have hi17 := inb_of (j := (((f + (1 : Int32)) + (1 : Int32)) + (1 : Int32))) S17 (by rcases hf with rfl <;> decide)
  have st17 := fun tt => X14.caload hx (j := (((f + (1 : Int32)) + (1 : Int32)) + (1 : Int32))) (v := (.int (own_at [d0, d1, d2, d3, d4, d5] (((f + (1 : Int32)) + (1 : Int32)) + (1 : Int32))))) (by rw [e14]; exact Ar17.1) (State.isArrayOf_alike hZ.alike Ar17.2.1) Ar17.2.2 hi17 (G17.at hi17 (own_atv [d0, d1, d2, d3, d4, d5] (((f + (1 : Int32)) + (1 : Int32)) + (1 : Int32)))) (g := (mkF m 12 #[.val (.ref b), .val (.int (((f + (1 : Int32)) + (1 : Int32)) + (1 : Int32))), .val (.ref t), .val (.int (3 : Int32)), .val (.int (6 : Int32)), .val (.int (3 : Int32)), .val (.int (own_at [d0, d1, d2, d3, d4, d5] ((f + (1 : Int32)) + (1 : Int32))))] [(.int (((f + (1 : Int32)) + (1 : Int32)) + (1 : Int32))), (.ref b)])) rfl rfl (hb hby d_jdk_52_method_21_code_12) tt
  have k17 : To p.tables e below S0 (T14.setTop (mkF m 13 #[.val (.ref b), .val (.int (((f + (1 : Int32)) + (1 : Int32)) + (1 : Int32))), .val (.ref t), .val (.int (3 : Int32)), .val (.int (6 : Int32)), .val (.int (3 : Int32)), .val (.int (own_at [d0, d1, d2, d3, d4, d5] ((f + (1 : Int32)) + (1 : Int32))))] [(.int (own_at [d0, d1, d2, d3, d4, d5] (((f + (1 : Int32)) + (1 : Int32)) + (1 : Int32))))])) := fun tt hq => k16 tt (st17 tt hq)
  have k18 : To p.tables e below S0 (T14.setTop (mkF m 31 #[.val (.ref b), .val (.int (((f + (1 : Int32)) + (1 : Int32)) + (1 : Int32))), .val (.ref t), .val (.int (3 : Int32)), .val (.int (6 : Int32)), .val (.int (3 : Int32)), .val (.int (own_at [d0, d1, d2, d3, d4, d5] (((f + (1 : Int32)) + (1 : Int32)) + (1 : Int32))))] [(.int ((own_at [d0, d1, d2, d3, d4, d5] (((f + (1 : Int32)) + (1 : Int32)) + (1 : Int32))).toInt8.toInt32)), (.int (3 : Int32)), (.ref t)])) := fun tt hq => k17 tt (by
    refine XS.istore X14.here hx rfl (hb hby d_jdk_52_method_21_code_13) rfl (l' := #[.val (.ref b), .val (.int (((f + (1 : Int32)) + (1 : Int32)) + (1 : Int32))), .val (.ref t), .val (.int (3 : Int32)), .val (.int (6 : Int32)), .val (.int (3 : Int32)), .val (.int (own_at [d0, d1, d2, d3, d4, d5] (((f + (1 : Int32)) + (1 : Int32)) + (1 : Int32))))]) rfl ?_
    refine XS.iload X14.here hx rfl (hb hby d_jdk_52_method_21_code_15) rfl ?_
    refine XS.sipush X14.here hx rfl (hb hby d_jdk_52_method_21_code_17) ?_
    refine XS.icmpYes X14.here hx rfl (pc0 := 20) (pc' := 26) rfl (hb hby d_jdk_52_method_21_code_20) rfl (flt (hm (((f + (1 : Int32)) + (1 : Int32)) + (1 : Int32))).2).2.2.2 (by decide) (by decide) ?_
    refine XS.aloadN X14.here hx rfl (hb hby d_jdk_52_method_21_code_26) rfl rfl ?_
    refine XS.iloadN X14.here hx rfl (hb hby d_jdk_52_method_21_code_27) rfl ?_
    refine XS.iload X14.here hx rfl (hb hby d_jdk_52_method_21_code_28) rfl ?_
    refine XS.i2b X14.here hx rfl (hb hby d_jdk_52_method_21_code_30) rfl ?_
    exact hq)
  obtain ⟨cl19, Ar19, q19, S19, M19, G19, J19⟩ := id V14
  obtain ⟨T19, h19, X19, e19, W19, st19⟩ := stB X14 hx hZ e14 Ar19 (j := (3 : Int32)) (inb_of S19 ⟨by decide, by decide⟩) (g := (mkF m 31 #[.val (.ref b), .val (.int (((f + (1 : Int32)) + (1 : Int32)) + (1 : Int32))), .val (.ref t), .val (.int (3 : Int32)), .val (.int (6 : Int32)), .val (.int (3 : Int32)), .val (.int (own_at [d0, d1, d2, d3, d4, d5] (((f + (1 : Int32)) + (1 : Int32)) + (1 : Int32))))] [(.int ((own_at [d0, d1, d2, d3, d4, d5] (((f + (1 : Int32)) + (1 : Int32)) + (1 : Int32))).toInt8.toInt32)), (.int (3 : Int32)), (.ref t)])) rfl rfl (hb hby d_jdk_52_method_21_code_31)
  have k19 : To p.tables e below S0 (T19.setTop (mkF m 32 #[.val (.ref b), .val (.int (((f + (1 : Int32)) + (1 : Int32)) + (1 : Int32))), .val (.ref t), .val (.int (3 : Int32)), .val (.int (6 : Int32)), .val (.int (3 : Int32)), .val (.int (own_at [d0, d1, d2, d3, d4, d5] (((f + (1 : Int32)) + (1 : Int32)) + (1 : Int32))))] [])) := fun tt hq => k18 tt (st19 tt hq)
  have z19 : h19.size = h14.size := W19.size
  have V19 : Arv Z h19 t kt .byte (6 : Int32) [(.int (nar .byte ((own_at [d0, d1, d2, d3, d4, d5] f).toInt8.toInt32))), (.int (nar .byte ((own_at [d0, d1, d2, d3, d4, d5] (f + (1 : Int32))).toInt8.toInt32))), (.int (nar .byte ((own_at [d0, d1, d2, d3, d4, d5] ((f + (1 : Int32)) + (1 : Int32))).toInt8.toInt32))), (.int (nar .byte ((own_at [d0, d1, d2, d3, d4, d5] (((f + (1 : Int32)) + (1 : Int32)) + (1 : Int32))).toInt8.toInt32))), (.int (0 : Int32)), (.int (0 : Int32))] (.int (0 : Int32)) := Arv.set Ar19 q19 S19 M19 G19 J19 (fits_nar_byte _) W19 3 rfl (Nat.le_of_ble_eq_true rfl)
  have N19 := Fr.snoc X19 N14 (by omega : n0 ≤ t)
  have f20 : Arv Z h19 b kb .char (6 : Int32) [(.int d0), (.int d1), (.int d2), (.int d3), (.int d4), (.int d5)] (.int (0 : Int32)) := (f15.other W19 (adr_ne (by omega)))
  have k21 : To p.tables e below S0 (T19.setTop (mkF m 12 #[.val (.ref b), .val (.int ((((f + (1 : Int32)) + (1 : Int32)) + (1 : Int32)) + (1 : Int32))), .val (.ref t), .val (.int (4 : Int32)), .val (.int (6 : Int32)), .val (.int (4 : Int32)), .val (.int (own_at [d0, d1, d2, d3, d4, d5] (((f + (1 : Int32)) + (1 : Int32)) + (1 : Int32))))] [(.int ((((f + (1 : Int32)) + (1 : Int32)) + (1 : Int32)) + (1 : Int32))), (.ref b)])) := fun tt hq => k19 tt (by
    refine XS.iinc X19.here hx rfl (hb hby d_jdk_52_method_21_code_32) rfl (l' := #[.val (.ref b), .val (.int ((((f + (1 : Int32)) + (1 : Int32)) + (1 : Int32)) + (1 : Int32))), .val (.ref t), .val (.int (3 : Int32)), .val (.int (6 : Int32)), .val (.int (3 : Int32)), .val (.int (own_at [d0, d1, d2, d3, d4, d5] (((f + (1 : Int32)) + (1 : Int32)) + (1 : Int32))))]) rfl ?_
    refine XS.iinc X19.here hx rfl (hb hby d_jdk_52_method_21_code_35) rfl (l' := #[.val (.ref b), .val (.int ((((f + (1 : Int32)) + (1 : Int32)) + (1 : Int32)) + (1 : Int32))), .val (.ref t), .val (.int (4 : Int32)), .val (.int (6 : Int32)), .val (.int (3 : Int32)), .val (.int (own_at [d0, d1, d2, d3, d4, d5] (((f + (1 : Int32)) + (1 : Int32)) + (1 : Int32))))]) rfl ?_
    refine XS.iinc X19.here hx rfl (hb hby d_jdk_52_method_21_code_38) rfl (l' := #[.val (.ref b), .val (.int ((((f + (1 : Int32)) + (1 : Int32)) + (1 : Int32)) + (1 : Int32))), .val (.ref t), .val (.int (4 : Int32)), .val (.int (6 : Int32)), .val (.int (4 : Int32)), .val (.int (own_at [d0, d1, d2, d3, d4, d5] (((f + (1 : Int32)) + (1 : Int32)) + (1 : Int32))))]) rfl ?_
    refine XS.goto X19.here hx rfl (pc0 := 41) (pc' := 3) rfl (hb hby d_jdk_52_method_21_code_41) (by decide) (by decide) ?_
    refine XS.iload X19.here hx rfl (hb hby d_jdk_52_method_21_code_3) rfl ?_
    refine XS.iload X19.here hx rfl (hb hby d_jdk_52_method_21_code_5) rfl ?_
    refine XS.icmpNo X19.here hx rfl (hb hby d_jdk_52_method_21_code_7) rfl (tlt (by decide)).2.1 ?_
    refine XS.aloadN X19.here hx rfl (hb hby d_jdk_52_method_21_code_10) rfl rfl ?_
    refine XS.iloadN X19.here hx rfl (hb hby d_jdk_52_method_21_code_11) rfl ?_
    exact hq)
  obtain ⟨cl22, Ar22, -, S22, -, G22, -⟩ := id f20
  have hi22 := inb_of (j := ((((f + (1 : Int32)) + (1 : Int32)) + (1 : Int32)) + (1 : Int32))) S22 (by rcases hf with rfl <;> decide)
  have st22 := fun tt => X19.caload hx (j := ((((f + (1 : Int32)) + (1 : Int32)) + (1 : Int32)) + (1 : Int32))) (v := (.int (own_at [d0, d1, d2, d3, d4, d5] ((((f + (1 : Int32)) + (1 : Int32)) + (1 : Int32)) + (1 : Int32))))) (by rw [e19]; exact Ar22.1) (State.isArrayOf_alike hZ.alike Ar22.2.1) Ar22.2.2 hi22 (G22.at hi22 (own_atv [d0, d1, d2, d3, d4, d5] ((((f + (1 : Int32)) + (1 : Int32)) + (1 : Int32)) + (1 : Int32)))) (g := (mkF m 12 #[.val (.ref b), .val (.int ((((f + (1 : Int32)) + (1 : Int32)) + (1 : Int32)) + (1 : Int32))), .val (.ref t), .val (.int (4 : Int32)), .val (.int (6 : Int32)), .val (.int (4 : Int32)), .val (.int (own_at [d0, d1, d2, d3, d4, d5] (((f + (1 : Int32)) + (1 : Int32)) + (1 : Int32))))] [(.int ((((f + (1 : Int32)) + (1 : Int32)) + (1 : Int32)) + (1 : Int32))), (.ref b)])) rfl rfl (hb hby d_jdk_52_method_21_code_12) tt
  have k22 : To p.tables e below S0 (T19.setTop (mkF m 13 #[.val (.ref b), .val (.int ((((f + (1 : Int32)) + (1 : Int32)) + (1 : Int32)) + (1 : Int32))), .val (.ref t), .val (.int (4 : Int32)), .val (.int (6 : Int32)), .val (.int (4 : Int32)), .val (.int (own_at [d0, d1, d2, d3, d4, d5] (((f + (1 : Int32)) + (1 : Int32)) + (1 : Int32))))] [(.int (own_at [d0, d1, d2, d3, d4, d5] ((((f + (1 : Int32)) + (1 : Int32)) + (1 : Int32)) + (1 : Int32))))])) := fun tt hq => k21 tt (st22 tt hq)
  have k23 : To p.tables e below S0 (T19.setTop (mkF m 31 #[.val (.ref b), .val (.int ((((f + (1 : Int32)) + (1 : Int32)) + (1 : Int32)) + (1 : Int32))), .val (.ref t), .val (.int (4 : Int32)), .val (.int (6 : Int32)), .val (.int (4 : Int32)), .val (.int (own_at [d0, d1, d2, d3, d4, d5] ((((f + (1 : Int32)) + (1 : Int32)) + (1 : Int32)) + (1 : Int32))))] [(.int ((own_at [d0, d1, d2, d3, d4, d5] ((((f + (1 : Int32)) + (1 : Int32)) + (1 : Int32)) + (1 : Int32))).toInt8.toInt32)), (.int (4 : Int32)), (.ref t)])) := fun tt hq => k22 tt (by
    refine XS.istore X19.here hx rfl (hb hby d_jdk_52_method_21_code_13) rfl (l' := #[.val (.ref b), .val (.int ((((f + (1 : Int32)) + (1 : Int32)) + (1 : Int32)) + (1 : Int32))), .val (.ref t), .val (.int (4 : Int32)), .val (.int (6 : Int32)), .val (.int (4 : Int32)), .val (.int (own_at [d0, d1, d2, d3, d4, d5] ((((f + (1 : Int32)) + (1 : Int32)) + (1 : Int32)) + (1 : Int32))))]) rfl ?_
    refine XS.iload X19.here hx rfl (hb hby d_jdk_52_method_21_code_15) rfl ?_
    refine XS.sipush X19.here hx rfl (hb hby d_jdk_52_method_21_code_17) ?_
    refine XS.icmpYes X19.here hx rfl (pc0 := 20) (pc' := 26) rfl (hb hby d_jdk_52_method_21_code_20) rfl (flt (hm ((((f + (1 : Int32)) + (1 : Int32)) + (1 : Int32)) + (1 : Int32))).2).2.2.2 (by decide) (by decide) ?_
    refine XS.aloadN X19.here hx rfl (hb hby d_jdk_52_method_21_code_26) rfl rfl ?_
    refine XS.iloadN X19.here hx rfl (hb hby d_jdk_52_method_21_code_27) rfl ?_
    refine XS.iload X19.here hx rfl (hb hby d_jdk_52_method_21_code_28) rfl ?_
    refine XS.i2b X19.here hx rfl (hb hby d_jdk_52_method_21_code_30) rfl ?_
    exact hq)
  obtain ⟨cl24, Ar24, q24, S24, M24, G24, J24⟩ := id V19
  obtain ⟨T24, h24, X24, e24, W24, st24⟩ := stB X19 hx hZ e19 Ar24 (j := (4 : Int32)) (inb_of S24 ⟨by decide, by decide⟩) (g := (mkF m 31 #[.val (.ref b), .val (.int ((((f + (1 : Int32)) + (1 : Int32)) + (1 : Int32)) + (1 : Int32))), .val (.ref t), .val (.int (4 : Int32)), .val (.int (6 : Int32)), .val (.int (4 : Int32)), .val (.int (own_at [d0, d1, d2, d3, d4, d5] ((((f + (1 : Int32)) + (1 : Int32)) + (1 : Int32)) + (1 : Int32))))] [(.int ((own_at [d0, d1, d2, d3, d4, d5] ((((f + (1 : Int32)) + (1 : Int32)) + (1 : Int32)) + (1 : Int32))).toInt8.toInt32)), (.int (4 : Int32)), (.ref t)])) rfl rfl (hb hby d_jdk_52_method_21_code_31)
  have k24 : To p.tables e below S0 (T24.setTop (mkF m 32 #[.val (.ref b), .val (.int ((((f + (1 : Int32)) + (1 : Int32)) + (1 : Int32)) + (1 : Int32))), .val (.ref t), .val (.int (4 : Int32)), .val (.int (6 : Int32)), .val (.int (4 : Int32)), .val (.int (own_at [d0, d1, d2, d3, d4, d5] ((((f + (1 : Int32)) + (1 : Int32)) + (1 : Int32)) + (1 : Int32))))] [])) := fun tt hq => k23 tt (st24 tt hq)
  have z24 : h24.size = h19.size := W24.size
  have V24 : Arv Z h24 t kt .byte (6 : Int32) [(.int (nar .byte ((own_at [d0, d1, d2, d3, d4, d5] f).toInt8.toInt32))), (.int (nar .byte ((own_at [d0, d1, d2, d3, d4, d5] (f + (1 : Int32))).toInt8.toInt32))), (.int (nar .byte ((own_at [d0, d1, d2, d3, d4, d5] ((f + (1 : Int32)) + (1 : Int32))).toInt8.toInt32))), (.int (nar .byte ((own_at [d0, d1, d2, d3, d4, d5] (((f + (1 : Int32)) + (1 : Int32)) + (1 : Int32))).toInt8.toInt32))), (.int (nar .byte ((own_at [d0, d1, d2, d3, d4, d5] ((((f + (1 : Int32)) + (1 : Int32)) + (1 : Int32)) + (1 : Int32))).toInt8.toInt32))), (.int (0 : Int32))] (.int (0 : Int32)) := Arv.set Ar24 q24 S24 M24 G24 J24 (fits_nar_byte _) W24 4 rfl (Nat.le_of_ble_eq_true rfl)
  have N24 := Fr.snoc X24 N19 (by omega : n0 ≤ t)
  have f25 : Arv Z h24 b kb .char (6 : Int32) [(.int d0), (.int d1), (.int d2), (.int d3), (.int d4), (.int d5)] (.int (0 : Int32)) := (f20.other W24 (adr_ne (by omega)))
  have k26 : To p.tables e below S0 (T24.setTop (mkF m 12 #[.val (.ref b), .val (.int (((((f + (1 : Int32)) + (1 : Int32)) + (1 : Int32)) + (1 : Int32)) + (1 : Int32))), .val (.ref t), .val (.int (5 : Int32)), .val (.int (6 : Int32)), .val (.int (5 : Int32)), .val (.int (own_at [d0, d1, d2, d3, d4, d5] ((((f + (1 : Int32)) + (1 : Int32)) + (1 : Int32)) + (1 : Int32))))] [(.int (((((f + (1 : Int32)) + (1 : Int32)) + (1 : Int32)) + (1 : Int32)) + (1 : Int32))), (.ref b)])) := fun tt hq => k24 tt (by
    refine XS.iinc X24.here hx rfl (hb hby d_jdk_52_method_21_code_32) rfl (l' := #[.val (.ref b), .val (.int (((((f + (1 : Int32)) + (1 : Int32)) + (1 : Int32)) + (1 : Int32)) + (1 : Int32))), .val (.ref t), .val (.int (4 : Int32)), .val (.int (6 : Int32)), .val (.int (4 : Int32)), .val (.int (own_at [d0, d1, d2, d3, d4, d5] ((((f + (1 : Int32)) + (1 : Int32)) + (1 : Int32)) + (1 : Int32))))]) rfl ?_
    refine XS.iinc X24.here hx rfl (hb hby d_jdk_52_method_21_code_35) rfl (l' := #[.val (.ref b), .val (.int (((((f + (1 : Int32)) + (1 : Int32)) + (1 : Int32)) + (1 : Int32)) + (1 : Int32))), .val (.ref t), .val (.int (5 : Int32)), .val (.int (6 : Int32)), .val (.int (4 : Int32)), .val (.int (own_at [d0, d1, d2, d3, d4, d5] ((((f + (1 : Int32)) + (1 : Int32)) + (1 : Int32)) + (1 : Int32))))]) rfl ?_
    refine XS.iinc X24.here hx rfl (hb hby d_jdk_52_method_21_code_38) rfl (l' := #[.val (.ref b), .val (.int (((((f + (1 : Int32)) + (1 : Int32)) + (1 : Int32)) + (1 : Int32)) + (1 : Int32))), .val (.ref t), .val (.int (5 : Int32)), .val (.int (6 : Int32)), .val (.int (5 : Int32)), .val (.int (own_at [d0, d1, d2, d3, d4, d5] ((((f + (1 : Int32)) + (1 : Int32)) + (1 : Int32)) + (1 : Int32))))]) rfl ?_
    refine XS.goto X24.here hx rfl (pc0 := 41) (pc' := 3) rfl (hb hby d_jdk_52_method_21_code_41) (by decide) (by decide) ?_
    refine XS.iload X24.here hx rfl (hb hby d_jdk_52_method_21_code_3) rfl ?_
    refine XS.iload X24.here hx rfl (hb hby d_jdk_52_method_21_code_5) rfl ?_
    refine XS.icmpNo X24.here hx rfl (hb hby d_jdk_52_method_21_code_7) rfl (tlt (by decide)).2.1 ?_
    refine XS.aloadN X24.here hx rfl (hb hby d_jdk_52_method_21_code_10) rfl rfl ?_
    refine XS.iloadN X24.here hx rfl (hb hby d_jdk_52_method_21_code_11) rfl ?_
    exact hq)
  obtain ⟨cl27, Ar27, -, S27, -, G27, -⟩ := id f25
  have hi27 := inb_of (j := (((((f + (1 : Int32)) + (1 : Int32)) + (1 : Int32)) + (1 : Int32)) + (1 : Int32))) S27 (by rcases hf with rfl <;> decide)
  have st27 := fun tt => X24.caload hx (j := (((((f + (1 : Int32)) + (1 : Int32)) + (1 : Int32)) + (1 : Int32)) + (1 : Int32))) (v := (.int (own_at [d0, d1, d2, d3, d4, d5] (((((f + (1 : Int32)) + (1 : Int32)) + (1 : Int32)) + (1 : Int32)) + (1 : Int32))))) (by rw [e24]; exact Ar27.1) (State.isArrayOf_alike hZ.alike Ar27.2.1) Ar27.2.2 hi27 (G27.at hi27 (own_atv [d0, d1, d2, d3, d4, d5] (((((f + (1 : Int32)) + (1 : Int32)) + (1 : Int32)) + (1 : Int32)) + (1 : Int32)))) (g := (mkF m 12 #[.val (.ref b), .val (.int (((((f + (1 : Int32)) + (1 : Int32)) + (1 : Int32)) + (1 : Int32)) + (1 : Int32))), .val (.ref t), .val (.int (5 : Int32)), .val (.int (6 : Int32)), .val (.int (5 : Int32)), .val (.int (own_at [d0, d1, d2, d3, d4, d5] ((((f + (1 : Int32)) + (1 : Int32)) + (1 : Int32)) + (1 : Int32))))] [(.int (((((f + (1 : Int32)) + (1 : Int32)) + (1 : Int32)) + (1 : Int32)) + (1 : Int32))), (.ref b)])) rfl rfl (hb hby d_jdk_52_method_21_code_12) tt
  have k27 : To p.tables e below S0 (T24.setTop (mkF m 13 #[.val (.ref b), .val (.int (((((f + (1 : Int32)) + (1 : Int32)) + (1 : Int32)) + (1 : Int32)) + (1 : Int32))), .val (.ref t), .val (.int (5 : Int32)), .val (.int (6 : Int32)), .val (.int (5 : Int32)), .val (.int (own_at [d0, d1, d2, d3, d4, d5] ((((f + (1 : Int32)) + (1 : Int32)) + (1 : Int32)) + (1 : Int32))))] [(.int (own_at [d0, d1, d2, d3, d4, d5] (((((f + (1 : Int32)) + (1 : Int32)) + (1 : Int32)) + (1 : Int32)) + (1 : Int32))))])) := fun tt hq => k26 tt (st27 tt hq)
  have k28 : To p.tables e below S0 (T24.setTop (mkF m 31 #[.val (.ref b), .val (.int (((((f + (1 : Int32)) + (1 : Int32)) + (1 : Int32)) + (1 : Int32)) + (1 : Int32))), .val (.ref t), .val (.int (5 : Int32)), .val (.int (6 : Int32)), .val (.int (5 : Int32)), .val (.int (own_at [d0, d1, d2, d3, d4, d5] (((((f + (1 : Int32)) + (1 : Int32)) + (1 : Int32)) + (1 : Int32)) + (1 : Int32))))] [(.int ((own_at [d0, d1, d2, d3, d4, d5] (((((f + (1 : Int32)) + (1 : Int32)) + (1 : Int32)) + (1 : Int32)) + (1 : Int32))).toInt8.toInt32)), (.int (5 : Int32)), (.ref t)])) := fun tt hq => k27 tt (by
    refine XS.istore X24.here hx rfl (hb hby d_jdk_52_method_21_code_13) rfl (l' := #[.val (.ref b), .val (.int (((((f + (1 : Int32)) + (1 : Int32)) + (1 : Int32)) + (1 : Int32)) + (1 : Int32))), .val (.ref t), .val (.int (5 : Int32)), .val (.int (6 : Int32)), .val (.int (5 : Int32)), .val (.int (own_at [d0, d1, d2, d3, d4, d5] (((((f + (1 : Int32)) + (1 : Int32)) + (1 : Int32)) + (1 : Int32)) + (1 : Int32))))]) rfl ?_
    refine XS.iload X24.here hx rfl (hb hby d_jdk_52_method_21_code_15) rfl ?_
    refine XS.sipush X24.here hx rfl (hb hby d_jdk_52_method_21_code_17) ?_
    refine XS.icmpYes X24.here hx rfl (pc0 := 20) (pc' := 26) rfl (hb hby d_jdk_52_method_21_code_20) rfl (flt (hm (((((f + (1 : Int32)) + (1 : Int32)) + (1 : Int32)) + (1 : Int32)) + (1 : Int32))).2).2.2.2 (by decide) (by decide) ?_
    refine XS.aloadN X24.here hx rfl (hb hby d_jdk_52_method_21_code_26) rfl rfl ?_
    refine XS.iloadN X24.here hx rfl (hb hby d_jdk_52_method_21_code_27) rfl ?_
    refine XS.iload X24.here hx rfl (hb hby d_jdk_52_method_21_code_28) rfl ?_
    refine XS.i2b X24.here hx rfl (hb hby d_jdk_52_method_21_code_30) rfl ?_
    exact hq)
  obtain ⟨cl29, Ar29, q29, S29, M29, G29, J29⟩ := id V24
  obtain ⟨T29, h29, X29, e29, W29, st29⟩ := stB X24 hx hZ e24 Ar29 (j := (5 : Int32)) (inb_of S29 ⟨by decide, by decide⟩) (g := (mkF m 31 #[.val (.ref b), .val (.int (((((f + (1 : Int32)) + (1 : Int32)) + (1 : Int32)) + (1 : Int32)) + (1 : Int32))), .val (.ref t), .val (.int (5 : Int32)), .val (.int (6 : Int32)), .val (.int (5 : Int32)), .val (.int (own_at [d0, d1, d2, d3, d4, d5] (((((f + (1 : Int32)) + (1 : Int32)) + (1 : Int32)) + (1 : Int32)) + (1 : Int32))))] [(.int ((own_at [d0, d1, d2, d3, d4, d5] (((((f + (1 : Int32)) + (1 : Int32)) + (1 : Int32)) + (1 : Int32)) + (1 : Int32))).toInt8.toInt32)), (.int (5 : Int32)), (.ref t)])) rfl rfl (hb hby d_jdk_52_method_21_code_31)
  have k29 : To p.tables e below S0 (T29.setTop (mkF m 32 #[.val (.ref b), .val (.int (((((f + (1 : Int32)) + (1 : Int32)) + (1 : Int32)) + (1 : Int32)) + (1 : Int32))), .val (.ref t), .val (.int (5 : Int32)), .val (.int (6 : Int32)), .val (.int (5 : Int32)), .val (.int (own_at [d0, d1, d2, d3, d4, d5] (((((f + (1 : Int32)) + (1 : Int32)) + (1 : Int32)) + (1 : Int32)) + (1 : Int32))))] [])) := fun tt hq => k28 tt (st29 tt hq)
  have z29 : h29.size = h24.size := W29.size
  have V29 : Arv Z h29 t kt .byte (6 : Int32) [(.int (nar .byte ((own_at [d0, d1, d2, d3, d4, d5] f).toInt8.toInt32))), (.int (nar .byte ((own_at [d0, d1, d2, d3, d4, d5] (f + (1 : Int32))).toInt8.toInt32))), (.int (nar .byte ((own_at [d0, d1, d2, d3, d4, d5] ((f + (1 : Int32)) + (1 : Int32))).toInt8.toInt32))), (.int (nar .byte ((own_at [d0, d1, d2, d3, d4, d5] (((f + (1 : Int32)) + (1 : Int32)) + (1 : Int32))).toInt8.toInt32))), (.int (nar .byte ((own_at [d0, d1, d2, d3, d4, d5] ((((f + (1 : Int32)) + (1 : Int32)) + (1 : Int32)) + (1 : Int32))).toInt8.toInt32))), (.int (nar .byte ((own_at [d0, d1, d2, d3, d4, d5] (((((f + (1 : Int32)) + (1 : Int32)) + (1 : Int32)) + (1 : Int32)) + (1 : Int32))).toInt8.toInt32)))] (.int (0 : Int32)) := Arv.set Ar29 q29 S29 M29 G29 J29 (fits_nar_byte _) W29 5 rfl (Nat.le_of_ble_eq_true rfl)
  have N29 := Fr.snoc X29 N24 (by omega : n0 ≤ t)
  have k30 : To p.tables e below S0 (T29.setTop (mkF m 46 #[.val (.ref b), .val (.int ((((((f + (1 : Int32)) + (1 : Int32)) + (1 : Int32)) + (1 : Int32)) + (1 : Int32)) + (1 : Int32))), .val (.ref t), .val (.int (6 : Int32)), .val (.int (6 : Int32)), .val (.int (6 : Int32)), .val (.int (own_at [d0, d1, d2, d3, d4, d5] (((((f + (1 : Int32)) + (1 : Int32)) + (1 : Int32)) + (1 : Int32)) + (1 : Int32))))] [(.int (6 : Int32))])) := fun tt hq => k29 tt (by
    refine XS.iinc X29.here hx rfl (hb hby d_jdk_52_method_21_code_32) rfl (l' := #[.val (.ref b), .val (.int ((((((f + (1 : Int32)) + (1 : Int32)) + (1 : Int32)) + (1 : Int32)) + (1 : Int32)) + (1 : Int32))), .val (.ref t), .val (.int (5 : Int32)), .val (.int (6 : Int32)), .val (.int (5 : Int32)), .val (.int (own_at [d0, d1, d2, d3, d4, d5] (((((f + (1 : Int32)) + (1 : Int32)) + (1 : Int32)) + (1 : Int32)) + (1 : Int32))))]) rfl ?_
    refine XS.iinc X29.here hx rfl (hb hby d_jdk_52_method_21_code_35) rfl (l' := #[.val (.ref b), .val (.int ((((((f + (1 : Int32)) + (1 : Int32)) + (1 : Int32)) + (1 : Int32)) + (1 : Int32)) + (1 : Int32))), .val (.ref t), .val (.int (6 : Int32)), .val (.int (6 : Int32)), .val (.int (5 : Int32)), .val (.int (own_at [d0, d1, d2, d3, d4, d5] (((((f + (1 : Int32)) + (1 : Int32)) + (1 : Int32)) + (1 : Int32)) + (1 : Int32))))]) rfl ?_
    refine XS.iinc X29.here hx rfl (hb hby d_jdk_52_method_21_code_38) rfl (l' := #[.val (.ref b), .val (.int ((((((f + (1 : Int32)) + (1 : Int32)) + (1 : Int32)) + (1 : Int32)) + (1 : Int32)) + (1 : Int32))), .val (.ref t), .val (.int (6 : Int32)), .val (.int (6 : Int32)), .val (.int (6 : Int32)), .val (.int (own_at [d0, d1, d2, d3, d4, d5] (((((f + (1 : Int32)) + (1 : Int32)) + (1 : Int32)) + (1 : Int32)) + (1 : Int32))))]) rfl ?_
    refine XS.goto X29.here hx rfl (pc0 := 41) (pc' := 3) rfl (hb hby d_jdk_52_method_21_code_41) (by decide) (by decide) ?_
    refine XS.iload X29.here hx rfl (hb hby d_jdk_52_method_21_code_3) rfl ?_
    refine XS.iload X29.here hx rfl (hb hby d_jdk_52_method_21_code_5) rfl ?_
    refine XS.icmpYes X29.here hx rfl (pc0 := 7) (pc' := 44) rfl (hb hby d_jdk_52_method_21_code_7) rfl (flt (by decide)).2.1 (by decide) (by decide) ?_
    refine XS.iload X29.here hx rfl (hb hby d_jdk_52_method_21_code_44) rfl ?_
    exact hq)
  have hE := e29
  refine retInt X29 hx hret hlk (by simp) rfl (hb hby d_jdk_52_method_21_code_46) k30 ?_ (by decide) (by decide)
  try rw [hE]
  exact ⟨rfl, N29, (((((((Keep.refl h0 [t]).wr W4 (Or.inl (by simp))).wr W9 (Or.inl (by simp))).wr W14 (Or.inl (by simp))).wr W19 (Or.inl (by simp))).wr W24 (Or.inl (by simp))).wr W29 (Or.inl (by simp))), V29⟩
set_option maxRecDepth 65536 in
set_option maxHeartbeats 40000000 in
theorem rm_c3_6 (l : Launch) (Z : State) (a0 : Array Value) (hw : ∀ d ∈ tables_1, d.before a0 Z = true) (b : Addr) (kb : ClassId) (f : Int32) (d0 : Int32) (d1 : Int32) (d2 : Int32) (d3 : Int32) (d4 : Int32) (d5 : Int32) (h0 : Heap) (n0 : Nat) (hn0 : n0 ≤ h0.size) (P0 : Arv Z h0 b kb .char (6 : Int32) [(.int d0), (.int d1), (.int d2), (.int d3), (.int d4), (.int d5)] (.int (0 : Int32))) (yb : @LT.lt Nat instLTNat b h0.size) (hf : f = (0 : Int32)) (hm : ∀ i : Int32, ¬ own_at [d0, d1, d2, d3, d4, d5] i < (0 : Int32) ∧ ¬ (255 : Int32) < own_at [d0, d1, d2, d3, d4, d5] i) :
    Con l Z (⟨"java/lang/StringUTF16", "compress", "([CII)[B"⟩ : MethodName) jdk_52_method_16_code 6 (some (.array .byte)) [] ({ frames := 1, cells := 1, slots := 6, locals := 18 } : Room) #[(.ref b), (.int f), (.int (6 : Int32))] h0 (fun v h L => ∃ (t : Addr) (k : ClassId), v = some (.ref t) ∧ Fr n0 L ∧ h0.size ≤ t ∧ Keep h0 h [] ∧ Arv Z h t k .byte (6 : Int32) [(.int (nar .byte ((own_at [d0, d1, d2, d3, d4, d5] f).toInt8.toInt32))), (.int (nar .byte ((own_at [d0, d1, d2, d3, d4, d5] (f + (1 : Int32))).toInt8.toInt32))), (.int (nar .byte ((own_at [d0, d1, d2, d3, d4, d5] ((f + (1 : Int32)) + (1 : Int32))).toInt8.toInt32))), (.int (nar .byte ((own_at [d0, d1, d2, d3, d4, d5] (((f + (1 : Int32)) + (1 : Int32)) + (1 : Int32))).toInt8.toInt32))), (.int (nar .byte ((own_at [d0, d1, d2, d3, d4, d5] ((((f + (1 : Int32)) + (1 : Int32)) + (1 : Int32)) + (1 : Int32))).toInt8.toInt32))), (.int (nar .byte ((own_at [d0, d1, d2, d3, d4, d5] (((((f + (1 : Int32)) + (1 : Int32)) + (1 : Int32)) + (1 : Int32)) + (1 : Int32))).toInt8.toInt32)))] (.int (0 : Int32))) := by
  refine enter (Ls := #[.val (.ref b), .val (.int f), .val (.int (6 : Int32)), .unset, .unset, .unset]) (plainFor_of_name pn_5) (fun m => by exact entry_eq rfl) ?_
  intro p e s m below meth cd_ s₁ S0 hx hby hml hret hlk hnm hown hZ X0 e0 k0
  have N0 := Fr.nil n0
  have k1 : To p.tables e below S0 (s₁.setTop (mkF m 1 #[.val (.ref b), .val (.int f), .val (.int (6 : Int32)), .unset, .unset, .unset] [(.int (6 : Int32))])) := fun tt hq => k0 tt (by
    refine XS.iloadN X0.here hx rfl (hb hby d_jdk_52_method_16_code_0) rfl ?_
    exact hq)
  obtain ⟨T2, h2, c2, X2, e2, E2, A2, st2⟩ := newP X0 hx hZ (wq hw 74 rfl) e0 (g := (mkF m 1 #[.val (.ref b), .val (.int f), .val (.int (6 : Int32)), .unset, .unset, .unset] [(.int (6 : Int32))])) rfl (hb hby d_jdk_52_method_16_code_1) rfl (by decide) (cap := 6) (by decide) (by decide) (by decide) (by decide)
  obtain ⟨b2, g2⟩ : ∃ z, z = h0.size := ⟨_, rfl⟩
  rw [← g2] at A2 st2
  have k2 : To p.tables e below S0 (T2.setTop (mkF m 3 #[.val (.ref b), .val (.int f), .val (.int (6 : Int32)), .unset, .unset, .unset] [(.ref b2)])) := fun tt hq => k1 tt (st2 tt hq)
  have z2 : h0.size ≤ h2.size := E2.1
  have V2 : Arv Z h2 b2 c2 .byte (6 : Int32) [(.int (0 : Int32)), (.int (0 : Int32)), (.int (0 : Int32)), (.int (0 : Int32)), (.int (0 : Int32)), (.int (0 : Int32))] (.int (0 : Int32)) := (Arv.new A2 (by decide)).pad (pad_rep [] (.int (0 : Int32)) 6)
  have y2 : @LT.lt Nat instLTNat b2 h2.size := V2.lt
  have k3 : To p.tables e below S0 (T2.setTop (mkF m 9 #[.val (.ref b), .val (.int f), .val (.int (6 : Int32)), .val (.ref b2), .unset, .unset] [(.int (6 : Int32)), (.int (0 : Int32)), (.ref b2), (.int f), (.ref b)])) := fun tt hq => k2 tt (by
    refine XS.astoreN X2.here hx rfl (hb hby d_jdk_52_method_16_code_3) rfl rfl (l' := #[.val (.ref b), .val (.int f), .val (.int (6 : Int32)), .val (.ref b2), .unset, .unset]) rfl ?_
    refine XS.aloadN X2.here hx rfl (hb hby d_jdk_52_method_16_code_4) rfl rfl ?_
    refine XS.iloadN X2.here hx rfl (hb hby d_jdk_52_method_16_code_5) rfl ?_
    refine XS.aloadN X2.here hx rfl (hb hby d_jdk_52_method_16_code_6) rfl rfl ?_
    refine XS.iconst X2.here hx rfl (hb hby d_jdk_52_method_16_code_7) ?_
    refine XS.iloadN X2.here hx rfl (hb hby d_jdk_52_method_16_code_8) rfl ?_
    exact hq)
  have f4 : Arv Z h2 b kb .char (6 : Int32) [(.int d0), (.int d1), (.int d2), (.int d3), (.int d4), (.int d5)] (.int (0 : Int32)) := (P0.ext E2)
  obtain ⟨_, T5, L5, X5, ⟨rfl, Nq5, Kq5, V5⟩, k5a⟩ := callS' X2 hx hZ (y := (⟨"java/lang/StringUTF16", "compress", "([CI[BII)I"⟩ : MethodName)) hown (wq hw 75 rfl) (wq hw 76 rfl) (wq hw 72 rfl) (wq hw 77 rfl) (by decide) (backC (W := 0) (rm_c5_6 l Z a0 hw b kb b2 c2 f d0 d1 d2 d3 d4 d5 h2 n0 (by omega) f4 V2 (by omega) (by omega) hf hm) hZ (wq hw 77 rfl) (wq hw 72 rfl) (by decide) (by decide)) e2 (argsL := [(.ref b), (.int f), (.ref b2), (.int (0 : Int32)), (.int (6 : Int32))]) (rest := []) rfl rfl pd_13 rfl (by rw [hml]; rfl) (hb hby d_jdk_52_method_16_code_9) (Nat.le_of_eq rfl) (by decide) (by decide) k3
  have k5 : To p.tables e below S0 (T5.setTop (mkF m 12 #[.val (.ref b), .val (.int f), .val (.int (6 : Int32)), .val (.ref b2), .unset, .unset] [(.int (6 : Int32))])) := k5a
  have N5 := N0.app Nq5
  obtain ⟨h5, e5⟩ : ∃ z, T5.heap = z := ⟨_, rfl⟩
  rw [e5] at Kq5 V5
  have z5 : h2.size ≤ h5.size := Kq5.1
  have k6 : To p.tables e below S0 (T5.setTop (mkF m 58 #[.val (.ref b), .val (.int f), .val (.int (6 : Int32)), .val (.ref b2), .val (.int (6 : Int32)), .unset] [(.ref b2)])) := fun tt hq => k5 tt (by
    refine XS.istore X5.here hx rfl (hb hby d_jdk_52_method_16_code_12) rfl (l' := #[.val (.ref b), .val (.int f), .val (.int (6 : Int32)), .val (.ref b2), .val (.int (6 : Int32)), .unset]) rfl ?_
    refine XS.iload X5.here hx rfl (hb hby d_jdk_52_method_16_code_14) rfl ?_
    refine XS.iloadN X5.here hx rfl (hb hby d_jdk_52_method_16_code_16) rfl ?_
    refine XS.icmpYes X5.here hx rfl (pc0 := 17) (pc' := 57) rfl (hb hby d_jdk_52_method_16_code_17) rfl (teq (by decide)).1 (by decide) (by decide) ?_
    refine XS.aloadN X5.here hx rfl (hb hby d_jdk_52_method_16_code_57) rfl rfl ?_
    exact hq)
  have hE := e5
  refine retRef X5 hx hret hlk rfl rfl (hb hby d_jdk_52_method_16_code_58) k6 ?_ (by decide) (by decide)
  try rw [hE]
  exact ⟨b2, _, rfl, N5, (by omega), (((Keep.refl h0 []).ext E2).trans Kq5 (allS (Or.inr (by omega)) all0)), V5⟩
set_option maxRecDepth 65536 in
set_option maxHeartbeats 40000000 in
theorem rm_cl_6 (l : Launch) (Z : State) (a0 : Array Value) (hw : ∀ d ∈ tables_1, d.before a0 Z = true) (t : Addr) (kt : ClassId) (d0 : Int32) (d1 : Int32) (d2 : Int32) (d3 : Int32) (d4 : Int32) (d5 : Int32) (h0 : Heap) (n0 : Nat) (hn0 : n0 ≤ h0.size) (P0 : Arv Z h0 t kt .byte (6 : Int32) [(.int d0), (.int d1), (.int d2), (.int d3), (.int d4), (.int d5)] (.int (0 : Int32))) :
    Con l Z (⟨"java/lang/StringUTF16", "coderFromArrayLen", "([BI)B"⟩ : MethodName) jdk_52_method_15_code 2 (some .byte) [] ({ frames := 0, cells := 0, slots := 0, locals := 0 } : Room) #[(.ref t), (.int (6 : Int32))] h0 (fun v h L => v = some (.int (0 : Int32)) ∧ Fr n0 L ∧ h = h0) := by
  refine enter (Ls := #[.val (.ref t), .val (.int (6 : Int32))]) (plainFor_of_name pn_5) (fun m => by exact entry_eq rfl) ?_
  intro p e s m below meth cd_ s₁ S0 hx hby hml hret hlk hnm hown hZ X0 e0 k0
  have N0 := Fr.nil n0
  have k1 : To p.tables e below S0 (s₁.setTop (mkF m 2 #[.val (.ref t), .val (.int (6 : Int32))] [(.ref t), (.int (6 : Int32))])) := fun tt hq => k0 tt (by
    refine XS.iloadN X0.here hx rfl (hb hby d_jdk_52_method_15_code_0) rfl ?_
    refine XS.aloadN X0.here hx rfl (hb hby d_jdk_52_method_15_code_1) rfl rfl ?_
    exact hq)
  obtain ⟨cl2, Ar2, -, S2, M2, -, -⟩ := id P0
  have st2 := fun tt => X0.arraylength hx (by rw [e0]; exact Ar2.1) (State.isArrayOf_alike hZ.alike Ar2.2.1) (g := (mkF m 2 #[.val (.ref t), .val (.int (6 : Int32))] [(.ref t), (.int (6 : Int32))])) rfl rfl (hb hby d_jdk_52_method_15_code_2) tt
  rw [len_of S2 M2] at st2
  have k2 : To p.tables e below S0 (s₁.setTop (mkF m 3 #[.val (.ref t), .val (.int (6 : Int32))] [(.int (6 : Int32)), (.int (6 : Int32))])) := fun tt hq => k1 tt (st2 tt hq)
  have k3 : To p.tables e below S0 (s₁.setTop (mkF m 8 #[.val (.ref t), .val (.int (6 : Int32))] [(.int (0 : Int32))])) := fun tt hq => k2 tt (by
    refine XS.isub X0.here hx rfl (hb hby d_jdk_52_method_15_code_3) rfl ?_
    refine XS.bipush X0.here hx rfl (hb hby d_jdk_52_method_15_code_4) ?_
    refine XS.iushr X0.here hx rfl (hb hby d_jdk_52_method_15_code_6) rfl ?_
    refine XS.i2b X0.here hx rfl (hb hby d_jdk_52_method_15_code_7) rfl ?_
    exact hq)
  have hE := e0
  refine retInt X0 hx hret hlk (by simp) rfl (hb hby d_jdk_52_method_15_code_8) k3 ?_ (by decide) (by decide)
  try rw [hE]
  exact ⟨rfl, N0, rfl⟩
set_option maxRecDepth 65536 in
set_option maxHeartbeats 40000000 in
theorem rm_n4_6 (l : Launch) (Z : State) (a0 : Array Value) (hw : ∀ d ∈ tables_1, d.before a0 Z = true) (zc : Int32) (a : Addr) (b : Addr) (kb : ClassId) (u1 : Value) (u2 : Value) (f : Int32) (d0 : Int32) (d1 : Int32) (d2 : Int32) (d3 : Int32) (d4 : Int32) (d5 : Int32) (h0 : Heap) (n0 : Nat) (hn0 : n0 ≤ h0.size) (S_c : Sta Z Z.heap "java/lang/String" "COMPACT_STRINGS" "Z" (.int zc)) (hzc : ¬ zc = (0 : Int32)) (O0 : Old Z n0 h0) (E0 : Exa Z h0 a "java/lang/String") (F1 : Fld Z h0 a "java/lang/String" "value" "[B" u1) (F2 : Fld Z h0 a "java/lang/String" "coder" "B" u2) (P0 : Arv Z h0 b kb .char (6 : Int32) [(.int d0), (.int d1), (.int d2), (.int d3), (.int d4), (.int d5)] (.int (0 : Int32))) (ga : n0 ≤ a) (ya : @LT.lt Nat instLTNat a h0.size) (yb : @LT.lt Nat instLTNat b h0.size) (nab : ¬ (@Eq Nat b a)) (hf : f = (0 : Int32)) (hm : ∀ i : Int32, ¬ own_at [d0, d1, d2, d3, d4, d5] i < (0 : Int32) ∧ ¬ (255 : Int32) < own_at [d0, d1, d2, d3, d4, d5] i) :
    Con l Z (⟨"java/lang/String", "<init>", "([CIILjava/lang/Void;)V"⟩ : MethodName) jdk_42_method_149_code 6 none [] ({ frames := 2, cells := 1, slots := 6, locals := 35 } : Room) #[(.ref a), (.ref b), (.int f), (.int (6 : Int32)), .null] h0 (fun v h L => v = none ∧ Fr n0 L ∧ Keep h0 h [a] ∧ ∃ (t : Addr) (k : ClassId), (@LT.lt Nat instLTNat t h.size) ∧ Exa Z h a "java/lang/String" ∧ Fld Z h a "java/lang/String" "value" "[B" (.ref t) ∧ Fld Z h a "java/lang/String" "coder" "B" (.int (0 : Int32)) ∧ Arv Z h t k .byte (6 : Int32) [(.int (nar .byte ((own_at [d0, d1, d2, d3, d4, d5] f).toInt8.toInt32))), (.int (nar .byte ((own_at [d0, d1, d2, d3, d4, d5] (f + (1 : Int32))).toInt8.toInt32))), (.int (nar .byte ((own_at [d0, d1, d2, d3, d4, d5] ((f + (1 : Int32)) + (1 : Int32))).toInt8.toInt32))), (.int (nar .byte ((own_at [d0, d1, d2, d3, d4, d5] (((f + (1 : Int32)) + (1 : Int32)) + (1 : Int32))).toInt8.toInt32))), (.int (nar .byte ((own_at [d0, d1, d2, d3, d4, d5] ((((f + (1 : Int32)) + (1 : Int32)) + (1 : Int32)) + (1 : Int32))).toInt8.toInt32))), (.int (nar .byte ((own_at [d0, d1, d2, d3, d4, d5] (((((f + (1 : Int32)) + (1 : Int32)) + (1 : Int32)) + (1 : Int32)) + (1 : Int32))).toInt8.toInt32)))] (.int 0)) := by
  refine enter (Ls := #[.val (.ref a), .val (.ref b), .val (.int f), .val (.int (6 : Int32)), .val .null, .unset]) (plainFor_of_name pn_3) (fun m => by exact entry_eq rfl) ?_
  intro p e s m below meth cd_ s₁ S0 hx hby hml hret hlk hnm hown hZ X0 e0 k0
  have N0 := Fr.nil n0
  have k1 : To p.tables e below S0 (s₁.setTop (mkF m 1 #[.val (.ref a), .val (.ref b), .val (.int f), .val (.int (6 : Int32)), .val .null, .unset] [(.ref a)])) := fun tt hq => k0 tt (by
    refine XS.aloadN X0.here hx rfl (hb hby d_jdk_42_method_149_code_0) rfl rfl ?_
    exact hq)
  obtain ⟨T2, X2, e2, st2⟩ := initO X0 hx hZ hown (wq hw 68 rfl) (wq hw 14 rfl) (wq hw 15 rfl) e0 (g := (mkF m 1 #[.val (.ref a), .val (.ref b), .val (.int f), .val (.int (6 : Int32)), .val .null, .unset] [(.ref a)])) rfl (by rw [hml]; rfl) rfl (hb hby d_jdk_42_method_149_code_1) (by decide) (W := 0) (by show 2 * 0 + _ ≤ _; exact Nat.le_of_eq rfl) (by decide)
  have k2 : To p.tables e below S0 (T2.setTop (mkF m 4 #[.val (.ref a), .val (.ref b), .val (.int f), .val (.int (6 : Int32)), .val .null, .unset] [])) := fun tt hq => k1 tt (st2 tt hq)
  have k3 : To p.tables e below S0 (T2.setTop (mkF m 27 #[.val (.ref a), .val (.ref b), .val (.int f), .val (.int (6 : Int32)), .val .null, .unset] [])) := fun tt hq => k2 tt (by
    refine XS.iloadN X2.here hx rfl (hb hby d_jdk_42_method_149_code_4) rfl ?_
    refine XS.ifYes X2.here hx rfl (pc0 := 5) (pc' := 27) rfl (hb hby d_jdk_42_method_149_code_5) rfl ((if0 _ _).trans (feq (by decide)).2) (by decide) (by decide) ?_
    exact hq)
  obtain ⟨T4, X4, e4, st4⟩ := getS2 X2 hx hZ hown (host := "") (Or.inl (wq hw 69 rfl)) Via.refl e2 (staOld S_c O0) (g := (mkF m 27 #[.val (.ref a), .val (.ref b), .val (.int f), .val (.int (6 : Int32)), .val .null, .unset] [])) rfl (hb hby d_jdk_42_method_149_code_27)
  have k4 : To p.tables e below S0 (T4.setTop (mkF m 30 #[.val (.ref a), .val (.ref b), .val (.int f), .val (.int (6 : Int32)), .val .null, .unset] [(.int zc)])) := fun tt hq => k3 tt (st4 tt hq)
  have k5 : To p.tables e below S0 (T4.setTop (mkF m 36 #[.val (.ref a), .val (.ref b), .val (.int f), .val (.int (6 : Int32)), .val .null, .unset] [(.int (6 : Int32)), (.int f), (.ref b)])) := fun tt hq => k4 tt (by
    refine XS.ifNo X4.here hx rfl (hb hby d_jdk_42_method_149_code_30) rfl ((if0 _ _).trans (feq hzc).1) ?_
    refine XS.aloadN X4.here hx rfl (hb hby d_jdk_42_method_149_code_33) rfl rfl ?_
    refine XS.iloadN X4.here hx rfl (hb hby d_jdk_42_method_149_code_34) rfl ?_
    refine XS.iloadN X4.here hx rfl (hb hby d_jdk_42_method_149_code_35) rfl ?_
    exact hq)
  obtain ⟨_, T6, L6, X6, ⟨t6, kt6, rfl, Nq6, gt6, Kq6, V6⟩, k6a⟩ := callS' X4 hx hZ (y := (⟨"java/lang/StringUTF16", "compress", "([CII)[B"⟩ : MethodName)) hown (wq hw 70 rfl) (wq hw 71 rfl) (wq hw 72 rfl) (wq hw 73 rfl) (by decide) (backC (W := 0) (rm_c3_6 l Z a0 hw b kb f d0 d1 d2 d3 d4 d5 h0 n0 (by omega) P0 (by omega) hf hm) hZ (wq hw 73 rfl) (wq hw 72 rfl) (by decide) (by decide)) e4 (argsL := [(.ref b), (.int f), (.int (6 : Int32))]) (rest := []) rfl rfl pd_14 rfl (by rw [hml]; rfl) (hb hby d_jdk_42_method_149_code_36) (Nat.le_of_eq rfl) (by decide) (by decide) k5
  have k6 : To p.tables e below S0 (T6.setTop (mkF m 39 #[.val (.ref a), .val (.ref b), .val (.int f), .val (.int (6 : Int32)), .val .null, .unset] [(.ref t6)])) := k6a
  have N6 := N0.app Nq6
  obtain ⟨h6, e6⟩ : ∃ z, T6.heap = z := ⟨_, rfl⟩
  rw [e6] at Kq6 V6
  have z6 : h0.size ≤ h6.size := Kq6.1
  have y6 : @LT.lt Nat instLTNat t6 h6.size := V6.lt
  have k7 : To p.tables e below S0 (T6.setTop (mkF m 45 #[.val (.ref a), .val (.ref b), .val (.int f), .val (.int (6 : Int32)), .val .null, .val (.ref t6)] [(.int (6 : Int32)), (.ref t6), (.ref a)])) := fun tt hq => k6 tt (by
    refine XS.astore X6.here hx rfl (hb hby d_jdk_42_method_149_code_39) rfl rfl (l' := #[.val (.ref a), .val (.ref b), .val (.int f), .val (.int (6 : Int32)), .val .null, .val (.ref t6)]) rfl ?_
    refine XS.aloadN X6.here hx rfl (hb hby d_jdk_42_method_149_code_41) rfl rfl ?_
    refine XS.aload X6.here hx rfl (hb hby d_jdk_42_method_149_code_42) rfl rfl ?_
    refine XS.iloadN X6.here hx rfl (hb hby d_jdk_42_method_149_code_44) rfl ?_
    exact hq)
  obtain ⟨_, T8, L8, X8, ⟨rfl, Nq8, eq8⟩, k8a⟩ := callS' X6 hx hZ (y := (⟨"java/lang/StringUTF16", "coderFromArrayLen", "([BI)B"⟩ : MethodName)) hown (wq hw 78 rfl) (wq hw 79 rfl) (wq hw 72 rfl) (wq hw 80 rfl) (by decide) (backC (W := 1) (rm_cl_6 l Z a0 hw t6 kt6 (nar .byte ((own_at [d0, d1, d2, d3, d4, d5] f).toInt8.toInt32)) (nar .byte ((own_at [d0, d1, d2, d3, d4, d5] (f + (1 : Int32))).toInt8.toInt32)) (nar .byte ((own_at [d0, d1, d2, d3, d4, d5] ((f + (1 : Int32)) + (1 : Int32))).toInt8.toInt32)) (nar .byte ((own_at [d0, d1, d2, d3, d4, d5] (((f + (1 : Int32)) + (1 : Int32)) + (1 : Int32))).toInt8.toInt32)) (nar .byte ((own_at [d0, d1, d2, d3, d4, d5] ((((f + (1 : Int32)) + (1 : Int32)) + (1 : Int32)) + (1 : Int32))).toInt8.toInt32)) (nar .byte ((own_at [d0, d1, d2, d3, d4, d5] (((((f + (1 : Int32)) + (1 : Int32)) + (1 : Int32)) + (1 : Int32)) + (1 : Int32))).toInt8.toInt32)) h6 n0 (by omega) V6) hZ (wq hw 80 rfl) (wq hw 72 rfl) (by decide) (by decide)) e6 (argsL := [(.ref t6), (.int (6 : Int32))]) (rest := [(.ref a)]) rfl rfl pd_15 rfl (by rw [hml]; rfl) (hb hby d_jdk_42_method_149_code_45) (Nat.le_of_eq rfl) (by decide) (by decide) k7
  have k8 : To p.tables e below S0 (T8.setTop (mkF m 48 #[.val (.ref a), .val (.ref b), .val (.int f), .val (.int (6 : Int32)), .val .null, .val (.ref t6)] [(.int (0 : Int32)), (.ref a)])) := k8a
  have N8 := N6.app Nq8
  have e8 : T8.heap = h6 := eq8
  have f9 : Exa Z h6 a "java/lang/String" := (E0.keep Kq6)
  have f10 : Fld Z h6 a "java/lang/String" "coder" "B" u2 := (F2.keep Kq6 nin0)
  obtain ⟨T11, h11, X11, e11, W11, st11⟩ := putF X8 hx hZ hown (host := "") (Or.inl (wq hw 81 rfl)) Via.refl e8 f10 f9 (Or.inr ⟨(wq hw 82 rfl), rfl, hnm⟩) (wq hw 48 rfl) (ty := .byte) (by decide) rfl rfl (g := (mkF m 48 #[.val (.ref a), .val (.ref b), .val (.int f), .val (.int (6 : Int32)), .val .null, .val (.ref t6)] [(.int (0 : Int32)), (.ref a)])) rfl rfl (hb hby d_jdk_42_method_149_code_48)
  have k11 : To p.tables e below S0 (T11.setTop (mkF m 51 #[.val (.ref a), .val (.ref b), .val (.int f), .val (.int (6 : Int32)), .val .null, .val (.ref t6)] [])) := fun tt hq => k8 tt (st11 tt hq)
  have z11 : h11.size = h6.size := W11.size
  have F11 := f10.same W11
  have N11 := Fr.snoc X11 N8 (by omega : n0 ≤ a)
  have f12 : Exa Z h11 a "java/lang/String" := (f9.wr W11)
  have f13 : Fld Z h11 a "java/lang/String" "value" "[B" u1 := ((F1.keep Kq6 nin0).other W11 (Or.inr (slot_ne (Or.inr (wq hw 84 rfl)) (Or.inr (wq hw 82 rfl)) (by decide) (t := (.array .byte)) (t' := .byte) (by decide) (by decide))))
  have k14 : To p.tables e below S0 (T11.setTop (mkF m 54 #[.val (.ref a), .val (.ref b), .val (.int f), .val (.int (6 : Int32)), .val .null, .val (.ref t6)] [(.ref t6), (.ref a)])) := fun tt hq => k11 tt (by
    refine XS.aloadN X11.here hx rfl (hb hby d_jdk_42_method_149_code_51) rfl rfl ?_
    refine XS.aload X11.here hx rfl (hb hby d_jdk_42_method_149_code_52) rfl rfl ?_
    exact hq)
  obtain ⟨T15, h15, X15, e15, W15, st15⟩ := putF X11 hx hZ hown (host := "") (Or.inl (wq hw 83 rfl)) Via.refl e11 f13 f12 (Or.inr ⟨(wq hw 84 rfl), rfl, hnm⟩) (wq hw 48 rfl) (ty := (.array .byte)) (by decide) rfl rfl (g := (mkF m 54 #[.val (.ref a), .val (.ref b), .val (.int f), .val (.int (6 : Int32)), .val .null, .val (.ref t6)] [(.ref t6), (.ref a)])) rfl rfl (hb hby d_jdk_42_method_149_code_54)
  have k15 : To p.tables e below S0 (T15.setTop (mkF m 57 #[.val (.ref a), .val (.ref b), .val (.int f), .val (.int (6 : Int32)), .val .null, .val (.ref t6)] [])) := fun tt hq => k14 tt (st15 tt hq)
  have z15 : h15.size = h11.size := W15.size
  have F15 := f13.same W15
  have N15 := Fr.snoc X15 N11 (by omega : n0 ≤ a)
  have f16 : Arv Z h15 t6 kt6 .byte (6 : Int32) [(.int (nar .byte ((own_at [d0, d1, d2, d3, d4, d5] f).toInt8.toInt32))), (.int (nar .byte ((own_at [d0, d1, d2, d3, d4, d5] (f + (1 : Int32))).toInt8.toInt32))), (.int (nar .byte ((own_at [d0, d1, d2, d3, d4, d5] ((f + (1 : Int32)) + (1 : Int32))).toInt8.toInt32))), (.int (nar .byte ((own_at [d0, d1, d2, d3, d4, d5] (((f + (1 : Int32)) + (1 : Int32)) + (1 : Int32))).toInt8.toInt32))), (.int (nar .byte ((own_at [d0, d1, d2, d3, d4, d5] ((((f + (1 : Int32)) + (1 : Int32)) + (1 : Int32)) + (1 : Int32))).toInt8.toInt32))), (.int (nar .byte ((own_at [d0, d1, d2, d3, d4, d5] (((((f + (1 : Int32)) + (1 : Int32)) + (1 : Int32)) + (1 : Int32)) + (1 : Int32))).toInt8.toInt32)))] (.int (0 : Int32)) := ((V6.other W11 (adr_ne (by omega))).other W15 (adr_ne (by omega)))
  have f17 : Exa Z h15 a "java/lang/String" := (f12.wr W15)
  have f18 : Fld Z h15 a "java/lang/String" "coder" "B" (.int (0 : Int32)) := (F11.other W15 (Or.inr (slot_ne (Or.inr (wq hw 82 rfl)) (Or.inr (wq hw 84 rfl)) (by decide) (t := .byte) (t' := (.array .byte)) (by decide) (by decide))))
  have hE := e15
  refine retVoid X15 hx hret hlk (hb hby d_jdk_42_method_149_code_57) k15 ?_ (by decide) (by decide)
  try rw [hE]
  exact ⟨rfl, N15, ((((Keep.refl h0 [a]).trans Kq6 all0).wr W11 (Or.inl (by simp))).wr W15 (Or.inl (by simp))), t6, kt6, f16.lt, f17, F15, f18, f16⟩
set_option maxRecDepth 65536 in
set_option maxHeartbeats 40000000 in
theorem rm_n3_6 (l : Launch) (Z : State) (a0 : Array Value) (hw : ∀ d ∈ tables_1, d.before a0 Z = true) (zc : Int32) (fm : Value) (a : Addr) (b : Addr) (kb : ClassId) (u1 : Value) (u2 : Value) (f : Int32) (d0 : Int32) (d1 : Int32) (d2 : Int32) (d3 : Int32) (d4 : Int32) (d5 : Int32) (h0 : Heap) (n0 : Nat) (hn0 : n0 ≤ h0.size) (S_c : Sta Z Z.heap "java/lang/String" "COMPACT_STRINGS" "Z" (.int zc)) (hzc : ¬ zc = (0 : Int32)) (S_f : Sta Z Z.heap "jdk/internal/util/Preconditions" "SIOOBE_FORMATTER" "Ljava/util/function/BiFunction;" fm) (hfm : fm.isRef = true) (O0 : Old Z n0 h0) (E0 : Exa Z h0 a "java/lang/String") (F1 : Fld Z h0 a "java/lang/String" "value" "[B" u1) (F2 : Fld Z h0 a "java/lang/String" "coder" "B" u2) (P0 : Arv Z h0 b kb .char (6 : Int32) [(.int d0), (.int d1), (.int d2), (.int d3), (.int d4), (.int d5)] (.int (0 : Int32))) (ga : n0 ≤ a) (ya : @LT.lt Nat instLTNat a h0.size) (yb : @LT.lt Nat instLTNat b h0.size) (nab : ¬ (@Eq Nat b a)) (hf : f = (0 : Int32)) (hm : ∀ i : Int32, ¬ own_at [d0, d1, d2, d3, d4, d5] i < (0 : Int32) ∧ ¬ (255 : Int32) < own_at [d0, d1, d2, d3, d4, d5] i) (q1 : ¬ (((6 : Int32) ||| f) ||| (6 : Int32)) < (0 : Int32)) (q2 : ¬ ((6 : Int32) - f) < (6 : Int32)) :
    Con l Z (⟨"java/lang/String", "<init>", "([CII)V"⟩ : MethodName) jdk_42_method_4_code 4 none [] ({ frames := 3, cells := 1, slots := 6, locals := 52 } : Room) #[(.ref a), (.ref b), (.int f), (.int (6 : Int32))] h0 (fun v h L => v = none ∧ Fr n0 L ∧ Keep h0 h [a] ∧ ∃ (t : Addr) (k : ClassId), (@LT.lt Nat instLTNat t h.size) ∧ Exa Z h a "java/lang/String" ∧ Fld Z h a "java/lang/String" "value" "[B" (.ref t) ∧ Fld Z h a "java/lang/String" "coder" "B" (.int (0 : Int32)) ∧ Arv Z h t k .byte (6 : Int32) [(.int (nar .byte ((own_at [d0, d1, d2, d3, d4, d5] f).toInt8.toInt32))), (.int (nar .byte ((own_at [d0, d1, d2, d3, d4, d5] (f + (1 : Int32))).toInt8.toInt32))), (.int (nar .byte ((own_at [d0, d1, d2, d3, d4, d5] ((f + (1 : Int32)) + (1 : Int32))).toInt8.toInt32))), (.int (nar .byte ((own_at [d0, d1, d2, d3, d4, d5] (((f + (1 : Int32)) + (1 : Int32)) + (1 : Int32))).toInt8.toInt32))), (.int (nar .byte ((own_at [d0, d1, d2, d3, d4, d5] ((((f + (1 : Int32)) + (1 : Int32)) + (1 : Int32)) + (1 : Int32))).toInt8.toInt32))), (.int (nar .byte ((own_at [d0, d1, d2, d3, d4, d5] (((((f + (1 : Int32)) + (1 : Int32)) + (1 : Int32)) + (1 : Int32)) + (1 : Int32))).toInt8.toInt32)))] (.int 0)) := by
  refine enter (Ls := #[.val (.ref a), .val (.ref b), .val (.int f), .val (.int (6 : Int32))]) (plainFor_of_name pn_3) (fun m => by exact entry_eq rfl) ?_
  intro p e s m below meth cd_ s₁ S0 hx hby hml hret hlk hnm hown hZ X0 e0 k0
  have N0 := Fr.nil n0
  have k1 : To p.tables e below S0 (s₁.setTop (mkF m 7 #[.val (.ref a), .val (.ref b), .val (.int f), .val (.int (6 : Int32))] [(.int (6 : Int32)), (.int f), (.ref b), (.int (6 : Int32)), (.int f), (.ref b), (.ref a)])) := fun tt hq => k0 tt (by
    refine XS.aloadN X0.here hx rfl (hb hby d_jdk_42_method_4_code_0) rfl rfl ?_
    refine XS.aloadN X0.here hx rfl (hb hby d_jdk_42_method_4_code_1) rfl rfl ?_
    refine XS.iloadN X0.here hx rfl (hb hby d_jdk_42_method_4_code_2) rfl ?_
    refine XS.iloadN X0.here hx rfl (hb hby d_jdk_42_method_4_code_3) rfl ?_
    refine XS.aloadN X0.here hx rfl (hb hby d_jdk_42_method_4_code_4) rfl rfl ?_
    refine XS.iloadN X0.here hx rfl (hb hby d_jdk_42_method_4_code_5) rfl ?_
    refine XS.iloadN X0.here hx rfl (hb hby d_jdk_42_method_4_code_6) rfl ?_
    exact hq)
  obtain ⟨_, T2, L2, X2, ⟨rfl, Nq2, eq2⟩, k2a⟩ := callS' X0 hx hZ (y := (⟨"java/lang/String", "rangeCheck", "([CII)Ljava/lang/Void;"⟩ : MethodName)) hown (wq hw 53 rfl) (wq hw 54 rfl) (wq hw 49 rfl) (wq hw 55 rfl) (by decide) (backC (W := 4) (rm_rck l Z a0 hw fm b kb f (6 : Int32) d0 d1 d2 d3 d4 d5 h0 n0 (by omega) S_f hfm O0 P0 q1 q2) hZ (wq hw 55 rfl) (wq hw 49 rfl) (by decide) (by decide)) e0 (argsL := [(.ref b), (.int f), (.int (6 : Int32))]) (rest := [(.int (6 : Int32)), (.int f), (.ref b), (.ref a)]) rfl rfl pd_10 rfl (by rw [hml]; rfl) (hb hby d_jdk_42_method_4_code_7) (Nat.le_of_eq rfl) (by decide) (by decide) k1
  have k2 : To p.tables e below S0 (T2.setTop (mkF m 10 #[.val (.ref a), .val (.ref b), .val (.int f), .val (.int (6 : Int32))] [.null, (.int (6 : Int32)), (.int f), (.ref b), (.ref a)])) := k2a
  have N2 := N0.app Nq2
  have e2 : T2.heap = h0 := eq2
  obtain ⟨_, T3, L3, X3, ⟨rfl, Nq3, Kq3, t3, kt3, gt3, P30, P31, P32, P33⟩, k3a⟩ := callC' X2 hx hZ (y := (⟨"java/lang/String", "<init>", "([CIILjava/lang/Void;)V"⟩ : MethodName)) rfl hown (wq hw 64 rfl) (wq hw 65 rfl) (wq hw 67 rfl) (by decide) (backC (W := 0) (rm_n4_6 l Z a0 hw zc a b kb u1 u2 f d0 d1 d2 d3 d4 d5 h0 n0 (by omega) S_c hzc O0 E0 F1 F2 P0 (by omega) (by omega) (by omega) (by omega) hf hm) hZ (wq hw 67 rfl) (wq hw 49 rfl) (by decide) (by decide)) e2 (argsL := [(.ref b), (.int f), (.int (6 : Int32)), .null]) (rest := []) rfl rfl pd_11 rfl (by rw [hml]; rfl) (hb hby d_jdk_42_method_4_code_10) (Nat.le_of_eq rfl) (by decide) (by decide) k2
  have k3 : To p.tables e below S0 (T3.setTop (mkF m 13 #[.val (.ref a), .val (.ref b), .val (.int f), .val (.int (6 : Int32))] [])) := k3a
  have N3 := N2.app Nq3
  obtain ⟨h3, e3⟩ : ∃ z, T3.heap = z := ⟨_, rfl⟩
  rw [e3] at Kq3 gt3 P30 P31 P32 P33
  have z3 : h0.size ≤ h3.size := Kq3.1
  have hE := e3
  refine retVoid X3 hx hret hlk (hb hby d_jdk_42_method_4_code_13) k3 ?_ (by decide) (by decide)
  try rw [hE]
  exact ⟨rfl, N3, ((Keep.refl h0 [a]).trans Kq3 (allS (Or.inl (by simp)) all0)), t3, kt3, P33.lt, P30, P31, P32, P33⟩
set_option maxRecDepth 65536 in
set_option maxHeartbeats 40000000 in
theorem rm_ts_6 (l : Launch) (Z : State) (a0 : Array Value) (hw : ∀ d ∈ tables_1, d.before a0 Z = true) (zc : Int32) (fm : Value) (r : Addr) (b : Addr) (kb : ClassId) (f : Int32) (d0 : Int32) (d1 : Int32) (d2 : Int32) (d3 : Int32) (d4 : Int32) (d5 : Int32) (h0 : Heap) (n0 : Nat) (hn0 : n0 ≤ h0.size) (S_c : Sta Z Z.heap "java/lang/String" "COMPACT_STRINGS" "Z" (.int zc)) (hzc : ¬ zc = (0 : Int32)) (S_f : Sta Z Z.heap "jdk/internal/util/Preconditions" "SIOOBE_FORMATTER" "Ljava/util/function/BiFunction;" fm) (hfm : fm.isRef = true) (O0 : Old Z n0 h0) (R0 : Exa Z h0 r "strikebound/cli/InPlaceText") (R1 : Fld Z h0 r "strikebound/cli/InPlaceText" "chars" "[C" (.ref b)) (R2 : Fld Z h0 r "strikebound/cli/InPlaceText" "start" "I" (.int f)) (R3 : Fld Z h0 r "strikebound/cli/InPlaceText" "length" "I" (.int (6 : Int32))) (P0 : Arv Z h0 b kb .char (6 : Int32) [(.int d0), (.int d1), (.int d2), (.int d3), (.int d4), (.int d5)] (.int (0 : Int32))) (yb : @LT.lt Nat instLTNat b h0.size) (hf : f = (0 : Int32)) (hm : ∀ i : Int32, ¬ own_at [d0, d1, d2, d3, d4, d5] i < (0 : Int32) ∧ ¬ (255 : Int32) < own_at [d0, d1, d2, d3, d4, d5] i) (q1 : ¬ (((6 : Int32) ||| f) ||| (6 : Int32)) < (0 : Int32)) (q2 : ¬ ((6 : Int32) - f) < (6 : Int32)) :
    Con l Z (⟨"strikebound/cli/InPlaceText", "toString", "()Ljava/lang/String;"⟩ : MethodName) prog_26_method_8_code 1 (some (.object "java/lang/String")) [] ({ frames := 4, cells := 2, slots := 10, locals := 68 } : Room) #[(.ref r)] h0 (fun v h L => ∃ (c t : Addr) (k : ClassId), v = some (.ref c) ∧ Fr n0 L ∧ (@LT.lt Nat instLTNat c h.size) ∧ (@LT.lt Nat instLTNat t h.size) ∧ Keep h0 h [] ∧ Exa Z h c "java/lang/String" ∧ Fld Z h c "java/lang/String" "value" "[B" (.ref t) ∧ Fld Z h c "java/lang/String" "coder" "B" (.int (0 : Int32)) ∧ Arv Z h t k .byte (6 : Int32) [(.int (nar .byte ((own_at [d0, d1, d2, d3, d4, d5] f).toInt8.toInt32))), (.int (nar .byte ((own_at [d0, d1, d2, d3, d4, d5] (f + (1 : Int32))).toInt8.toInt32))), (.int (nar .byte ((own_at [d0, d1, d2, d3, d4, d5] ((f + (1 : Int32)) + (1 : Int32))).toInt8.toInt32))), (.int (nar .byte ((own_at [d0, d1, d2, d3, d4, d5] (((f + (1 : Int32)) + (1 : Int32)) + (1 : Int32))).toInt8.toInt32))), (.int (nar .byte ((own_at [d0, d1, d2, d3, d4, d5] ((((f + (1 : Int32)) + (1 : Int32)) + (1 : Int32)) + (1 : Int32))).toInt8.toInt32))), (.int (nar .byte ((own_at [d0, d1, d2, d3, d4, d5] (((((f + (1 : Int32)) + (1 : Int32)) + (1 : Int32)) + (1 : Int32)) + (1 : Int32))).toInt8.toInt32)))] (.int 0)) := by
  refine enter (Ls := #[.val (.ref r)]) (plainFor_of_name pn_1) (fun m => by exact entry_eq rfl) ?_
  intro p e s m below meth cd_ s₁ S0 hx hby hml hret hlk hnm hown hZ X0 e0 k0
  have N0 := Fr.nil n0
  obtain ⟨T1, h1, X1, e1, E1, A1, D1, -, st1⟩ := newO X0 hx hZ hown (wq hw 47 rfl) (wq hw 48 rfl) (wq hw 49 rfl) e0 (g := (mkF m 0 #[.val (.ref r)] [])) rfl (hb hby d_prog_26_method_8_code_0) (by decide) (by decide)
  obtain ⟨b1, g1⟩ : ∃ z, z = h0.size := ⟨_, rfl⟩
  rw [← g1] at A1 D1 st1
  have k1 : To p.tables e below S0 (T1.setTop (mkF m 3 #[.val (.ref r)] [(.ref b1)])) := fun tt hq => k0 tt (st1 tt hq)
  have z1 : h0.size ≤ h1.size := E1.1
  have y1 : @LT.lt Nat instLTNat b1 h1.size := A1.lt
  have F1_coder : Fld Z h1 b1 "java/lang/String" "coder" "B" (.int (0 : Int32)) := D1 (Or.inr (wq hw 82 rfl)) (ty := .byte) (by decide)
  have F1_value : Fld Z h1 b1 "java/lang/String" "value" "[B" .null := D1 (Or.inr (wq hw 84 rfl)) (ty := (.array .byte)) (by decide)
  have f2 : Fld Z h1 r "strikebound/cli/InPlaceText" "chars" "[C" (.ref b) := (R1.ext E1)
  have k3 : To p.tables e below S0 (T1.setTop (mkF m 5 #[.val (.ref r)] [(.ref r), (.ref b1), (.ref b1)])) := fun tt hq => k1 tt (by
    refine XS.dup X1.here hx rfl (hb hby d_prog_26_method_8_code_3) rfl rfl ?_
    refine XS.aloadN X1.here hx rfl (hb hby d_prog_26_method_8_code_4) rfl rfl ?_
    exact hq)
  obtain ⟨T4, X4, e4, st4⟩ := getF X1 hx hZ hown (host := "") (Or.inl (wq hw 16 rfl)) Via.refl e1 f2 (g := (mkF m 5 #[.val (.ref r)] [(.ref r), (.ref b1), (.ref b1)])) rfl rfl (hb hby d_prog_26_method_8_code_5)
  have k4 : To p.tables e below S0 (T4.setTop (mkF m 8 #[.val (.ref r)] [(.ref b), (.ref b1), (.ref b1)])) := fun tt hq => k3 tt (st4 tt hq)
  have f5 : Fld Z h1 r "strikebound/cli/InPlaceText" "start" "I" (.int f) := (R2.ext E1)
  have k6 : To p.tables e below S0 (T4.setTop (mkF m 9 #[.val (.ref r)] [(.ref r), (.ref b), (.ref b1), (.ref b1)])) := fun tt hq => k4 tt (by
    refine XS.aloadN X4.here hx rfl (hb hby d_prog_26_method_8_code_8) rfl rfl ?_
    exact hq)
  obtain ⟨T7, X7, e7, st7⟩ := getF X4 hx hZ hown (host := "") (Or.inl (wq hw 23 rfl)) Via.refl e4 f5 (g := (mkF m 9 #[.val (.ref r)] [(.ref r), (.ref b), (.ref b1), (.ref b1)])) rfl rfl (hb hby d_prog_26_method_8_code_9)
  have k7 : To p.tables e below S0 (T7.setTop (mkF m 12 #[.val (.ref r)] [(.int f), (.ref b), (.ref b1), (.ref b1)])) := fun tt hq => k6 tt (st7 tt hq)
  have f8 : Fld Z h1 r "strikebound/cli/InPlaceText" "length" "I" (.int (6 : Int32)) := (R3.ext E1)
  have k9 : To p.tables e below S0 (T7.setTop (mkF m 13 #[.val (.ref r)] [(.ref r), (.int f), (.ref b), (.ref b1), (.ref b1)])) := fun tt hq => k7 tt (by
    refine XS.aloadN X7.here hx rfl (hb hby d_prog_26_method_8_code_12) rfl rfl ?_
    exact hq)
  obtain ⟨T10, X10, e10, st10⟩ := getF X7 hx hZ hown (host := "") (Or.inl (wq hw 25 rfl)) Via.refl e7 f8 (g := (mkF m 13 #[.val (.ref r)] [(.ref r), (.int f), (.ref b), (.ref b1), (.ref b1)])) rfl rfl (hb hby d_prog_26_method_8_code_13)
  have k10 : To p.tables e below S0 (T10.setTop (mkF m 16 #[.val (.ref r)] [(.int (6 : Int32)), (.int f), (.ref b), (.ref b1), (.ref b1)])) := fun tt hq => k9 tt (st10 tt hq)
  have f11 : Old Z n0 h1 := (O0.ext E1)
  have f12 : Arv Z h1 b kb .char (6 : Int32) [(.int d0), (.int d1), (.int d2), (.int d3), (.int d4), (.int d5)] (.int (0 : Int32)) := (P0.ext E1)
  obtain ⟨_, T13, L13, X13, ⟨rfl, Nq13, Kq13, t13, kt13, gt13, P130, P131, P132, P133⟩, k13a⟩ := callC' X10 hx hZ (y := (⟨"java/lang/String", "<init>", "([CII)V"⟩ : MethodName)) rfl hown (wq hw 50 rfl) (wq hw 51 rfl) (wq hw 52 rfl) (by decide) (backC (W := 1) (rm_n3_6 l Z a0 hw zc fm b1 b kb .null (.int (0 : Int32)) f d0 d1 d2 d3 d4 d5 h1 n0 (by omega) S_c hzc S_f hfm f11 A1 F1_value F1_coder f12 (by omega) (by omega) (by omega) (by omega) hf hm q1 q2) hZ (wq hw 52 rfl) (wq hw 49 rfl) (by decide) (by decide)) e10 (argsL := [(.ref b), (.int f), (.int (6 : Int32))]) (rest := [(.ref b1)]) rfl rfl pd_7 rfl (by rw [hml]; rfl) (hb hby d_prog_26_method_8_code_16) (Nat.le_of_eq rfl) (by decide) (by decide) k10
  have k13 : To p.tables e below S0 (T13.setTop (mkF m 19 #[.val (.ref r)] [(.ref b1)])) := k13a
  have N13 := N0.app Nq13
  obtain ⟨h13, e13⟩ : ∃ z, T13.heap = z := ⟨_, rfl⟩
  rw [e13] at Kq13 gt13 P130 P131 P132 P133
  have z13 : h1.size ≤ h13.size := Kq13.1
  have hE := e13
  refine retRef X13 hx hret hlk rfl rfl (hb hby d_prog_26_method_8_code_19) k13 ?_ (by decide) (by decide)
  try rw [hE]
  exact ⟨_, _, _, rfl, N13, P130.lt, P133.lt, (((Keep.refl h0 []).ext E1).trans Kq13 (allS (Or.inr (by omega)) all0)), P130, P131, P132, P133⟩
set_option maxRecDepth 65536 in
set_option maxHeartbeats 40000000 in
theorem rm_lcs6 (l : Launch) (Z : State) (a0 : Array Value) (hw : ∀ d ∈ tables_1, d.before a0 Z = true) (fm : Value) (t : Addr) (kt : ClassId) (c0 : Int32) (c1 : Int32) (c2 : Int32) (c3 : Int32) (c4 : Int32) (c5 : Int32) (i : Int32) (h0 : Heap) (n0 : Nat) (hn0 : n0 ≤ h0.size) (S_f : Sta Z Z.heap "jdk/internal/util/Preconditions" "SIOOBE_FORMATTER" "Ljava/util/function/BiFunction;" fm) (hfm : fm.isRef = true) (O0 : Old Z n0 h0) (P0 : Arv Z h0 t kt .byte (6 : Int32) [(.int c0), (.int c1), (.int c2), (.int c3), (.int c4), (.int c5)] (.int (0 : Int32))) (hi0 : ¬ i < (0 : Int32)) (hi1 : i < (6 : Int32)) :
    Con l Z (⟨"java/lang/StringLatin1", "charAt", "([BI)C"⟩ : MethodName) jdk_43_method_2_code 2 (some .char) [] ({ frames := 2, cells := 0, slots := 0, locals := 27 } : Room) #[(.ref t), (.int i)] h0 (fun v h L => v = some (.int ((own_at [c0, c1, c2, c3, c4, c5] i) &&& (255 : Int32))) ∧ Fr n0 L ∧ h = h0) := by
  refine enter (Ls := #[.val (.ref t), .val (.int i)]) (plainFor_of_name pn_6) (fun m => by exact entry_eq rfl) ?_
  intro p e s m below meth cd_ s₁ S0 hx hby hml hret hlk hnm hown hZ X0 e0 k0
  have N0 := Fr.nil n0
  have k1 : To p.tables e below S0 (s₁.setTop (mkF m 2 #[.val (.ref t), .val (.int i)] [(.ref t), (.int i)])) := fun tt hq => k0 tt (by
    refine XS.iloadN X0.here hx rfl (hb hby d_jdk_43_method_2_code_0) rfl ?_
    refine XS.aloadN X0.here hx rfl (hb hby d_jdk_43_method_2_code_1) rfl rfl ?_
    exact hq)
  obtain ⟨cl2, Ar2, -, S2, M2, -, -⟩ := id P0
  have st2 := fun tt => X0.arraylength hx (by rw [e0]; exact Ar2.1) (State.isArrayOf_alike hZ.alike Ar2.2.1) (g := (mkF m 2 #[.val (.ref t), .val (.int i)] [(.ref t), (.int i)])) rfl rfl (hb hby d_jdk_43_method_2_code_2) tt
  rw [len_of S2 M2] at st2
  have k2 : To p.tables e below S0 (s₁.setTop (mkF m 3 #[.val (.ref t), .val (.int i)] [(.int (6 : Int32)), (.int i)])) := fun tt hq => k1 tt (st2 tt hq)
  obtain ⟨_, T3, L3, X3, ⟨rfl, Nq3, eq3⟩, k3a⟩ := callS' X0 hx hZ (y := (⟨"java/lang/String", "checkIndex", "(II)V"⟩ : MethodName)) hown (wq hw 121 rfl) (wq hw 122 rfl) (wq hw 49 rfl) (wq hw 123 rfl) (by decide) (backC (W := 0) (rm_chk l Z a0 hw fm i (6 : Int32) h0 n0 (by omega) S_f hfm O0 hi0 hi1) hZ (wq hw 123 rfl) (wq hw 49 rfl) (by decide) (by decide)) e0 (argsL := [(.int i), (.int (6 : Int32))]) (rest := []) rfl rfl pd_18 rfl (by rw [hml]; rfl) (hb hby d_jdk_43_method_2_code_3) (Nat.le_of_eq rfl) (by decide) (by decide) k2
  have k3 : To p.tables e below S0 (T3.setTop (mkF m 6 #[.val (.ref t), .val (.int i)] [])) := k3a
  have N3 := N0.app Nq3
  have e3 : T3.heap = h0 := eq3
  have k4 : To p.tables e below S0 (T3.setTop (mkF m 8 #[.val (.ref t), .val (.int i)] [(.int i), (.ref t)])) := fun tt hq => k3 tt (by
    refine XS.aloadN X3.here hx rfl (hb hby d_jdk_43_method_2_code_6) rfl rfl ?_
    refine XS.iloadN X3.here hx rfl (hb hby d_jdk_43_method_2_code_7) rfl ?_
    exact hq)
  obtain ⟨cl5, Ar5, -, S5, -, G5, -⟩ := id P0
  have hi5 := inb_of (j := i) S5 (⟨hi0, hi1⟩)
  have st5 := fun tt => X3.baloadBytes hx (j := i) (v := (.int (own_at [c0, c1, c2, c3, c4, c5] i))) (by rw [e3]; exact Ar5.1) (State.isArrayOf_alike hZ.alike Ar5.2.1) Ar5.2.2 hi5 (G5.at hi5 (own_atv [c0, c1, c2, c3, c4, c5] i)) (g := (mkF m 8 #[.val (.ref t), .val (.int i)] [(.int i), (.ref t)])) rfl rfl (hb hby d_jdk_43_method_2_code_8) tt
  have k5 : To p.tables e below S0 (T3.setTop (mkF m 9 #[.val (.ref t), .val (.int i)] [(.int (own_at [c0, c1, c2, c3, c4, c5] i))])) := fun tt hq => k4 tt (st5 tt hq)
  have k6 : To p.tables e below S0 (T3.setTop (mkF m 14 #[.val (.ref t), .val (.int i)] [(.int (((own_at [c0, c1, c2, c3, c4, c5] i) &&& (255 : Int32)).toUInt32.toUInt16.toUInt32.toInt32))])) := fun tt hq => k5 tt (by
    refine XS.sipush X3.here hx rfl (hb hby d_jdk_43_method_2_code_9) ?_
    refine XS.iand X3.here hx rfl (hb hby d_jdk_43_method_2_code_12) rfl ?_
    refine XS.i2c X3.here hx rfl (hb hby d_jdk_43_method_2_code_13) rfl ?_
    exact hq)
  have k7 : To p.tables e below S0 (T3.setTop (mkF m 14 #[.val (.ref t), .val (.int i)] [(.int ((own_at [c0, c1, c2, c3, c4, c5] i) &&& (255 : Int32)))])) := by have hq := k6; rw [i2c_mask] at hq; exact hq
  obtain ⟨v8, hv8⟩ : ∃ z : Int32, z = ((own_at [c0, c1, c2, c3, c4, c5] i) &&& (255 : Int32)) := ⟨_, rfl⟩
  have k8 : To p.tables e below S0 (T3.setTop (mkF m 14 #[.val (.ref t), .val (.int i)] [(.int v8)])) := by rw [hv8]; exact k7
  have mv8 : ¬ v8 < (0 : Int32) ∧ ¬ (255 : Int32) < v8 := by rw [hv8]; exact own_m255 _
  have hE := e3
  refine retInt X3 hx hret hlk (by simp) (congrArg Value.int (own_narc mv8)) (hb hby d_jdk_43_method_2_code_14) k8 ?_ (by decide) (by decide)
  try rw [hE]
  exact ⟨by rw [hv8], N3, rfl⟩
set_option maxRecDepth 65536 in
set_option maxHeartbeats 40000000 in
theorem rm_cs6 (l : Launch) (Z : State) (a0 : Array Value) (hw : ∀ d ∈ tables_1, d.before a0 Z = true) (zc : Int32) (fm : Value) (a : Addr) (t : Addr) (kt : ClassId) (c0 : Int32) (c1 : Int32) (c2 : Int32) (c3 : Int32) (c4 : Int32) (c5 : Int32) (i : Int32) (r : Int32) (h0 : Heap) (n0 : Nat) (hn0 : n0 ≤ h0.size) (S_c : Sta Z Z.heap "java/lang/String" "COMPACT_STRINGS" "Z" (.int zc)) (hzc : ¬ zc = (0 : Int32)) (S_f : Sta Z Z.heap "jdk/internal/util/Preconditions" "SIOOBE_FORMATTER" "Ljava/util/function/BiFunction;" fm) (hfm : fm.isRef = true) (O0 : Old Z n0 h0) (P0 : Exa Z h0 a "java/lang/String") (P1 : Fld Z h0 a "java/lang/String" "value" "[B" (.ref t)) (P2 : Fld Z h0 a "java/lang/String" "coder" "B" (.int (0 : Int32))) (P3 : Arv Z h0 t kt .byte (6 : Int32) [(.int c0), (.int c1), (.int c2), (.int c3), (.int c4), (.int c5)] (.int 0)) (hi0 : ¬ i < (0 : Int32)) (hi1 : i < (6 : Int32)) (hr : ((own_at [c0, c1, c2, c3, c4, c5] i) &&& (255 : Int32)) = r) :
    Con l Z (⟨"java/lang/String", "charAt", "(I)C"⟩ : MethodName) jdk_42_method_56_code 2 (some .char) [] ({ frames := 3, cells := 0, slots := 0, locals := 40 } : Room) #[(.ref a), (.int i)] h0 (fun v h L => v = some (.int r) ∧ Fr n0 L ∧ h = h0) := by
  refine enter (Ls := #[.val (.ref a), .val (.int i)]) (plainFor_of_name pn_3) (fun m => by exact entry_eq rfl) ?_
  intro p e s m below meth cd_ s₁ S0 hx hby hml hret hlk hnm hown hZ X0 e0 k0
  have N0 := Fr.nil n0
  have k1 : To p.tables e below S0 (s₁.setTop (mkF m 1 #[.val (.ref a), .val (.int i)] [(.ref a)])) := fun tt hq => k0 tt (by
    refine XS.aloadN X0.here hx rfl (hb hby d_jdk_42_method_56_code_0) rfl rfl ?_
    exact hq)
  obtain ⟨_, T2, L2, X2, ⟨rfl, Nq2, eq2⟩, k2a⟩ := callV' X0 hx hZ (y := (⟨"java/lang/String", "isLatin1", "()Z"⟩ : MethodName)) (z := (⟨"java/lang/String", "isLatin1", "()Z"⟩ : MethodName)) hown (wq hw 112 rfl) (wq hw 113 rfl) (notFace_of_selects (args := #[]) (mvT hZ (wq hw 115 rfl))) (wq hw 115 rfl) (wq hw 114 rfl) (by decide) P0 (backC (W := 0) (rm_latin l Z a0 hw zc a h0 n0 (by omega) S_c hzc O0 P2) hZ (wq hw 116 rfl) (wq hw 49 rfl) (by decide) (by decide)) e0 (argsL := []) (rest := []) rfl rfl pd_17 rfl (by rw [hml]; rfl) (hb hby d_jdk_42_method_56_code_1) (Nat.le_of_eq rfl) (by decide) (by decide) k1
  have k2 : To p.tables e below S0 (T2.setTop (mkF m 4 #[.val (.ref a), .val (.int i)] [(.int (1 : Int32))])) := k2a
  have N2 := N0.app Nq2
  have e2 : T2.heap = h0 := eq2
  have k3 : To p.tables e below S0 (T2.setTop (mkF m 8 #[.val (.ref a), .val (.int i)] [(.ref a)])) := fun tt hq => k2 tt (by
    refine XS.ifNo X2.here hx rfl (hb hby d_jdk_42_method_56_code_4) rfl ((if0 _ _).trans (feq (by decide)).1) ?_
    refine XS.aloadN X2.here hx rfl (hb hby d_jdk_42_method_56_code_7) rfl rfl ?_
    exact hq)
  obtain ⟨T4, X4, e4, st4⟩ := getF X2 hx hZ hown (host := "") (Or.inl (wq hw 83 rfl)) Via.refl e2 P1 (g := (mkF m 8 #[.val (.ref a), .val (.int i)] [(.ref a)])) rfl rfl (hb hby d_jdk_42_method_56_code_8)
  have k4 : To p.tables e below S0 (T4.setTop (mkF m 11 #[.val (.ref a), .val (.int i)] [(.ref t)])) := fun tt hq => k3 tt (st4 tt hq)
  have k5 : To p.tables e below S0 (T4.setTop (mkF m 12 #[.val (.ref a), .val (.int i)] [(.int i), (.ref t)])) := fun tt hq => k4 tt (by
    refine XS.iloadN X4.here hx rfl (hb hby d_jdk_42_method_56_code_11) rfl ?_
    exact hq)
  obtain ⟨_, T6, L6, X6, ⟨rfl, Nq6, eq6⟩, k6a⟩ := callS' X4 hx hZ (y := (⟨"java/lang/StringLatin1", "charAt", "([BI)C"⟩ : MethodName)) hown (wq hw 117 rfl) (wq hw 118 rfl) (wq hw 119 rfl) (wq hw 120 rfl) (by decide) (backC (W := 0) (rm_lcs6 l Z a0 hw fm t kt c0 c1 c2 c3 c4 c5 i h0 n0 (by omega) S_f hfm O0 P3 hi0 hi1) hZ (wq hw 120 rfl) (wq hw 119 rfl) (by decide) (by decide)) e4 (argsL := [(.ref t), (.int i)]) (rest := []) rfl rfl pd_19 rfl (by rw [hml]; rfl) (hb hby d_jdk_42_method_56_code_12) (Nat.le_of_eq rfl) (by decide) (by decide) k5
  have k6 : To p.tables e below S0 (T6.setTop (mkF m 15 #[.val (.ref a), .val (.int i)] [(.int ((own_at [c0, c1, c2, c3, c4, c5] i) &&& (255 : Int32)))])) := k6a
  have N6 := N2.app Nq6
  have e6 : T6.heap = h0 := eq6
  have hE := e6
  refine retInt X6 hx hret hlk (by simp) (own_narrowc _) (hb hby d_jdk_42_method_56_code_15) k6 ?_ (by decide) (by decide)
  try rw [hE]
  exact ⟨by rw [hr], N6, rfl⟩
set_option maxRecDepth 65536 in
set_option maxHeartbeats 40000000 in
theorem rm0 (l : Launch) (Z : State) (a0 : Array Value) (hw : ∀ d ∈ tables_1, d.before a0 Z = true) (zc : Int32) (fm : Value) (p0 : Int64) (p2 : Int32) (p3 : Int32) (p4 : Int32) (h0 : Heap) (n0 : Nat) (hn0 : n0 ≤ h0.size) (S_c : Sta Z Z.heap "java/lang/String" "COMPACT_STRINGS" "Z" (.int zc)) (hzc : ¬ zc = (0 : Int32)) (S_f : Sta Z Z.heap "jdk/internal/util/Preconditions" "SIOOBE_FORMATTER" "Ljava/util/function/BiFunction;" fm) (hfm : fm.isRef = true) (O0 : Old Z n0 h0) :
    ConW l Z own_EL x code maxLocals ret tables_1 room_1 #[(.long p0), (.int p2), (.int p3), (.int p4)] h0 [] (fun v h L => v = some (.int 1) ∧ Fr n0 L) := by
  refine enterW (Ls := #[.val (.long p0), .second, .val (.int p2), .val (.int p3), .val (.int p4), .unset, .unset, .unset, .unset, .unset, .unset, .unset, .unset]) (plainFor_of_name pn_0) (fun m => by exact entry_eq rfl) ?_
  intro p e s m below meth cd_ s₁ S0 vm0 hx hby hml hret hlk hnm hown hZ X0 e0 k0 C0 hsf hS0
  have N0 := Fr.nil n0
  let l1 : Array Slot := #[.val (.long p0), .second, .val (.int p2), .val (.int p3), .val (.int p4), .unset, .unset, .unset, .unset, .unset, .unset, .unset, .unset]
  have k2 : To p.tables e below S0 (s₁.setTop (mkF m 2 l1 [(.int (6 : Int32))])) := fun tt hq => k0 tt (by
    refine XS.bipush X0.here hx rfl (hb hby at_0) ?_
    exact hq)
  obtain ⟨T3, h3, c3, X3, e3, E3, A3, st3⟩ := newP X0 hx hZ (wq hw 0 rfl) e0 (g := (mkF m 2 l1 [(.int (6 : Int32))])) rfl (hb hby at_2) rfl (by decide) (cap := 6) (by decide) (by decide) (by decide) (by decide)
  obtain ⟨b3, g3⟩ : ∃ z, z = h0.size := ⟨_, rfl⟩
  rw [← g3] at A3 st3
  have k3 : To p.tables e below S0 (T3.setTop (mkF m 4 l1 [(.ref b3)])) := fun tt hq => k2 tt (st3 tt hq)
  have z3 : h0.size ≤ h3.size := E3.1
  have C3 := C0.trans (CHr.ext E3 C0.1)
  have V3 : Arv Z h3 b3 c3 .char (6 : Int32) [(.int (0 : Int32)), (.int (0 : Int32)), (.int (0 : Int32)), (.int (0 : Int32)), (.int (0 : Int32)), (.int (0 : Int32))] (.int (0 : Int32)) := (Arv.new A3 (by decide)).pad (pad_rep [] (.int (0 : Int32)) 6)
  have y3 : @LT.lt Nat instLTNat b3 h3.size := V3.lt
  let l4 : Array Slot := #[.val (.long p0), .second, .val (.int p2), .val (.int p3), .val (.int p4), .val (.ref b3), .unset, .unset, .unset, .unset, .unset, .unset, .unset]
  have k5 : To p.tables e below S0 (T3.setTop (mkF m 11 l4 [(.int (0 : Int32)), (.long p0), (.int (0 : Int32)), (.ref b3)])) := fun tt hq => k3 tt (by
    refine XS.astore X3.here hx rfl (hb hby at_4) rfl rfl (l' := l4) rfl ?_
    refine XS.aload X3.here hx rfl (hb hby at_6) rfl rfl ?_
    refine XS.iconst X3.here hx rfl (hb hby at_8) ?_
    refine XS.lloadN X3.here hx rfl (hb hby at_9) rfl ?_
    refine XS.iconst X3.here hx rfl (hb hby at_10) ?_
    exact hq)
  obtain ⟨_, T6, L6, X6, ⟨r6, rfl, Nq6, eq6, hm6⟩, k6a⟩ := callS' X3 hx hZ (y := (⟨"strikebound/cli/InPlaceTextSetPinLaw", "ch", "(JI)C"⟩ : MethodName)) hown (wq hw 1 rfl) (wq hw 2 rfl) (wq hw 3 rfl) (wq hw 4 rfl) (by decide) (backC (W := 2) (rm_ch l Z a0 hw p0 (0 : Int32) h3 n0 (by omega)) hZ (wq hw 4 rfl) (wq hw 3 rfl) (by decide) (by decide)) e3 (argsL := [(.long p0), (.int (0 : Int32))]) (rest := [(.int (0 : Int32)), (.ref b3)]) rfl rfl pd_5 rfl (by rw [hml]; rfl) (hb hby at_11) (Nat.le_of_eq rfl) (by decide) (by decide) k5
  have k6 : To p.tables e below S0 (T6.setTop (mkF m 14 l4 [(.int r6), (.int (0 : Int32)), (.ref b3)])) := k6a
  have N6 := N0.app Nq6
  have e6 : T6.heap = h3 := eq6
  obtain ⟨cl7, Ar7, q7, S7, M7, G7, J7⟩ := id V3
  obtain ⟨T7, h7, X7, e7, W7, st7⟩ := stC X6 hx hZ e6 Ar7 (j := (0 : Int32)) (inb_of S7 ⟨by decide, by decide⟩) (g := (mkF m 14 l4 [(.int r6), (.int (0 : Int32)), (.ref b3)])) rfl rfl (hb hby at_14)
  have k7 : To p.tables e below S0 (T7.setTop (mkF m 15 l4 [])) := fun tt hq => k6 tt (st7 tt hq)
  have z7 : h7.size = h3.size := W7.size
  have C7 := C3.trans (CHr.wr W7 (Safe.arv hZ.alike V3 (by decide)) C3.1)
  rw [own_narc hm6] at W7
  have V7 : Arv Z h7 b3 c3 .char (6 : Int32) [(.int r6), (.int (0 : Int32)), (.int (0 : Int32)), (.int (0 : Int32)), (.int (0 : Int32)), (.int (0 : Int32))] (.int (0 : Int32)) := Arv.set Ar7 q7 S7 M7 G7 J7 (own_fitc hm6) W7 0 rfl (Nat.le_of_ble_eq_true rfl)
  have N7 := Fr.snoc X7 N6 (by omega : n0 ≤ b3)
  have k8 : To p.tables e below S0 (T7.setTop (mkF m 20 l4 [(.int (1 : Int32)), (.long p0), (.int (1 : Int32)), (.ref b3)])) := fun tt hq => k7 tt (by
    refine XS.aload X7.here hx rfl (hb hby at_15) rfl rfl ?_
    refine XS.iconst X7.here hx rfl (hb hby at_17) ?_
    refine XS.lloadN X7.here hx rfl (hb hby at_18) rfl ?_
    refine XS.iconst X7.here hx rfl (hb hby at_19) ?_
    exact hq)
  obtain ⟨_, T9, L9, X9, ⟨r9, rfl, Nq9, eq9, hm9⟩, k9a⟩ := callS' X7 hx hZ (y := (⟨"strikebound/cli/InPlaceTextSetPinLaw", "ch", "(JI)C"⟩ : MethodName)) hown (wq hw 1 rfl) (wq hw 2 rfl) (wq hw 3 rfl) (wq hw 4 rfl) (by decide) (backC (W := 2) (rm_ch l Z a0 hw p0 (1 : Int32) h7 n0 (by omega)) hZ (wq hw 4 rfl) (wq hw 3 rfl) (by decide) (by decide)) e7 (argsL := [(.long p0), (.int (1 : Int32))]) (rest := [(.int (1 : Int32)), (.ref b3)]) rfl rfl pd_5 rfl (by rw [hml]; rfl) (hb hby at_20) (Nat.le_of_eq rfl) (by decide) (by decide) k8
  have k9 : To p.tables e below S0 (T9.setTop (mkF m 23 l4 [(.int r9), (.int (1 : Int32)), (.ref b3)])) := k9a
  have N9 := N7.app Nq9
  have e9 : T9.heap = h7 := eq9
  obtain ⟨cl10, Ar10, q10, S10, M10, G10, J10⟩ := id V7
  obtain ⟨T10, h10, X10, e10, W10, st10⟩ := stC X9 hx hZ e9 Ar10 (j := (1 : Int32)) (inb_of S10 ⟨by decide, by decide⟩) (g := (mkF m 23 l4 [(.int r9), (.int (1 : Int32)), (.ref b3)])) rfl rfl (hb hby at_23)
  have k10 : To p.tables e below S0 (T10.setTop (mkF m 24 l4 [])) := fun tt hq => k9 tt (st10 tt hq)
  have z10 : h10.size = h7.size := W10.size
  have C10 := C7.trans (CHr.wr W10 (Safe.arv hZ.alike V7 (by decide)) C7.1)
  rw [own_narc hm9] at W10
  have V10 : Arv Z h10 b3 c3 .char (6 : Int32) [(.int r6), (.int r9), (.int (0 : Int32)), (.int (0 : Int32)), (.int (0 : Int32)), (.int (0 : Int32))] (.int (0 : Int32)) := Arv.set Ar10 q10 S10 M10 G10 J10 (own_fitc hm9) W10 1 rfl (Nat.le_of_ble_eq_true rfl)
  have N10 := Fr.snoc X10 N9 (by omega : n0 ≤ b3)
  have k11 : To p.tables e below S0 (T10.setTop (mkF m 29 l4 [(.int (2 : Int32)), (.long p0), (.int (2 : Int32)), (.ref b3)])) := fun tt hq => k10 tt (by
    refine XS.aload X10.here hx rfl (hb hby at_24) rfl rfl ?_
    refine XS.iconst X10.here hx rfl (hb hby at_26) ?_
    refine XS.lloadN X10.here hx rfl (hb hby at_27) rfl ?_
    refine XS.iconst X10.here hx rfl (hb hby at_28) ?_
    exact hq)
  obtain ⟨_, T12, L12, X12, ⟨r12, rfl, Nq12, eq12, hm12⟩, k12a⟩ := callS' X10 hx hZ (y := (⟨"strikebound/cli/InPlaceTextSetPinLaw", "ch", "(JI)C"⟩ : MethodName)) hown (wq hw 1 rfl) (wq hw 2 rfl) (wq hw 3 rfl) (wq hw 4 rfl) (by decide) (backC (W := 2) (rm_ch l Z a0 hw p0 (2 : Int32) h10 n0 (by omega)) hZ (wq hw 4 rfl) (wq hw 3 rfl) (by decide) (by decide)) e10 (argsL := [(.long p0), (.int (2 : Int32))]) (rest := [(.int (2 : Int32)), (.ref b3)]) rfl rfl pd_5 rfl (by rw [hml]; rfl) (hb hby at_29) (Nat.le_of_eq rfl) (by decide) (by decide) k11
  have k12 : To p.tables e below S0 (T12.setTop (mkF m 32 l4 [(.int r12), (.int (2 : Int32)), (.ref b3)])) := k12a
  have N12 := N10.app Nq12
  have e12 : T12.heap = h10 := eq12
  obtain ⟨cl13, Ar13, q13, S13, M13, G13, J13⟩ := id V10
  obtain ⟨T13, h13, X13, e13, W13, st13⟩ := stC X12 hx hZ e12 Ar13 (j := (2 : Int32)) (inb_of S13 ⟨by decide, by decide⟩) (g := (mkF m 32 l4 [(.int r12), (.int (2 : Int32)), (.ref b3)])) rfl rfl (hb hby at_32)
  have k13 : To p.tables e below S0 (T13.setTop (mkF m 33 l4 [])) := fun tt hq => k12 tt (st13 tt hq)
  have z13 : h13.size = h10.size := W13.size
  have C13 := C10.trans (CHr.wr W13 (Safe.arv hZ.alike V10 (by decide)) C10.1)
  rw [own_narc hm12] at W13
  have V13 : Arv Z h13 b3 c3 .char (6 : Int32) [(.int r6), (.int r9), (.int r12), (.int (0 : Int32)), (.int (0 : Int32)), (.int (0 : Int32))] (.int (0 : Int32)) := Arv.set Ar13 q13 S13 M13 G13 J13 (own_fitc hm12) W13 2 rfl (Nat.le_of_ble_eq_true rfl)
  have N13 := Fr.snoc X13 N12 (by omega : n0 ≤ b3)
  have k14 : To p.tables e below S0 (T13.setTop (mkF m 38 l4 [(.int (3 : Int32)), (.long p0), (.int (3 : Int32)), (.ref b3)])) := fun tt hq => k13 tt (by
    refine XS.aload X13.here hx rfl (hb hby at_33) rfl rfl ?_
    refine XS.iconst X13.here hx rfl (hb hby at_35) ?_
    refine XS.lloadN X13.here hx rfl (hb hby at_36) rfl ?_
    refine XS.iconst X13.here hx rfl (hb hby at_37) ?_
    exact hq)
  obtain ⟨_, T15, L15, X15, ⟨r15, rfl, Nq15, eq15, hm15⟩, k15a⟩ := callS' X13 hx hZ (y := (⟨"strikebound/cli/InPlaceTextSetPinLaw", "ch", "(JI)C"⟩ : MethodName)) hown (wq hw 1 rfl) (wq hw 2 rfl) (wq hw 3 rfl) (wq hw 4 rfl) (by decide) (backC (W := 2) (rm_ch l Z a0 hw p0 (3 : Int32) h13 n0 (by omega)) hZ (wq hw 4 rfl) (wq hw 3 rfl) (by decide) (by decide)) e13 (argsL := [(.long p0), (.int (3 : Int32))]) (rest := [(.int (3 : Int32)), (.ref b3)]) rfl rfl pd_5 rfl (by rw [hml]; rfl) (hb hby at_38) (Nat.le_of_eq rfl) (by decide) (by decide) k14
  have k15 : To p.tables e below S0 (T15.setTop (mkF m 41 l4 [(.int r15), (.int (3 : Int32)), (.ref b3)])) := k15a
  have N15 := N13.app Nq15
  have e15 : T15.heap = h13 := eq15
  obtain ⟨cl16, Ar16, q16, S16, M16, G16, J16⟩ := id V13
  obtain ⟨T16, h16, X16, e16, W16, st16⟩ := stC X15 hx hZ e15 Ar16 (j := (3 : Int32)) (inb_of S16 ⟨by decide, by decide⟩) (g := (mkF m 41 l4 [(.int r15), (.int (3 : Int32)), (.ref b3)])) rfl rfl (hb hby at_41)
  have k16 : To p.tables e below S0 (T16.setTop (mkF m 42 l4 [])) := fun tt hq => k15 tt (st16 tt hq)
  have z16 : h16.size = h13.size := W16.size
  have C16 := C13.trans (CHr.wr W16 (Safe.arv hZ.alike V13 (by decide)) C13.1)
  rw [own_narc hm15] at W16
  have V16 : Arv Z h16 b3 c3 .char (6 : Int32) [(.int r6), (.int r9), (.int r12), (.int r15), (.int (0 : Int32)), (.int (0 : Int32))] (.int (0 : Int32)) := Arv.set Ar16 q16 S16 M16 G16 J16 (own_fitc hm15) W16 3 rfl (Nat.le_of_ble_eq_true rfl)
  have N16 := Fr.snoc X16 N15 (by omega : n0 ≤ b3)
  have k17 : To p.tables e below S0 (T16.setTop (mkF m 47 l4 [(.int (4 : Int32)), (.long p0), (.int (4 : Int32)), (.ref b3)])) := fun tt hq => k16 tt (by
    refine XS.aload X16.here hx rfl (hb hby at_42) rfl rfl ?_
    refine XS.iconst X16.here hx rfl (hb hby at_44) ?_
    refine XS.lloadN X16.here hx rfl (hb hby at_45) rfl ?_
    refine XS.iconst X16.here hx rfl (hb hby at_46) ?_
    exact hq)
  obtain ⟨_, T18, L18, X18, ⟨r18, rfl, Nq18, eq18, hm18⟩, k18a⟩ := callS' X16 hx hZ (y := (⟨"strikebound/cli/InPlaceTextSetPinLaw", "ch", "(JI)C"⟩ : MethodName)) hown (wq hw 1 rfl) (wq hw 2 rfl) (wq hw 3 rfl) (wq hw 4 rfl) (by decide) (backC (W := 2) (rm_ch l Z a0 hw p0 (4 : Int32) h16 n0 (by omega)) hZ (wq hw 4 rfl) (wq hw 3 rfl) (by decide) (by decide)) e16 (argsL := [(.long p0), (.int (4 : Int32))]) (rest := [(.int (4 : Int32)), (.ref b3)]) rfl rfl pd_5 rfl (by rw [hml]; rfl) (hb hby at_47) (Nat.le_of_eq rfl) (by decide) (by decide) k17
  have k18 : To p.tables e below S0 (T18.setTop (mkF m 50 l4 [(.int r18), (.int (4 : Int32)), (.ref b3)])) := k18a
  have N18 := N16.app Nq18
  have e18 : T18.heap = h16 := eq18
  obtain ⟨cl19, Ar19, q19, S19, M19, G19, J19⟩ := id V16
  obtain ⟨T19, h19, X19, e19, W19, st19⟩ := stC X18 hx hZ e18 Ar19 (j := (4 : Int32)) (inb_of S19 ⟨by decide, by decide⟩) (g := (mkF m 50 l4 [(.int r18), (.int (4 : Int32)), (.ref b3)])) rfl rfl (hb hby at_50)
  have k19 : To p.tables e below S0 (T19.setTop (mkF m 51 l4 [])) := fun tt hq => k18 tt (st19 tt hq)
  have z19 : h19.size = h16.size := W19.size
  have C19 := C16.trans (CHr.wr W19 (Safe.arv hZ.alike V16 (by decide)) C16.1)
  rw [own_narc hm18] at W19
  have V19 : Arv Z h19 b3 c3 .char (6 : Int32) [(.int r6), (.int r9), (.int r12), (.int r15), (.int r18), (.int (0 : Int32))] (.int (0 : Int32)) := Arv.set Ar19 q19 S19 M19 G19 J19 (own_fitc hm18) W19 4 rfl (Nat.le_of_ble_eq_true rfl)
  have N19 := Fr.snoc X19 N18 (by omega : n0 ≤ b3)
  have k20 : To p.tables e below S0 (T19.setTop (mkF m 56 l4 [(.int (5 : Int32)), (.long p0), (.int (5 : Int32)), (.ref b3)])) := fun tt hq => k19 tt (by
    refine XS.aload X19.here hx rfl (hb hby at_51) rfl rfl ?_
    refine XS.iconst X19.here hx rfl (hb hby at_53) ?_
    refine XS.lloadN X19.here hx rfl (hb hby at_54) rfl ?_
    refine XS.iconst X19.here hx rfl (hb hby at_55) ?_
    exact hq)
  obtain ⟨_, T21, L21, X21, ⟨r21, rfl, Nq21, eq21, hm21⟩, k21a⟩ := callS' X19 hx hZ (y := (⟨"strikebound/cli/InPlaceTextSetPinLaw", "ch", "(JI)C"⟩ : MethodName)) hown (wq hw 1 rfl) (wq hw 2 rfl) (wq hw 3 rfl) (wq hw 4 rfl) (by decide) (backC (W := 2) (rm_ch l Z a0 hw p0 (5 : Int32) h19 n0 (by omega)) hZ (wq hw 4 rfl) (wq hw 3 rfl) (by decide) (by decide)) e19 (argsL := [(.long p0), (.int (5 : Int32))]) (rest := [(.int (5 : Int32)), (.ref b3)]) rfl rfl pd_5 rfl (by rw [hml]; rfl) (hb hby at_56) (Nat.le_of_eq rfl) (by decide) (by decide) k20
  have k21 : To p.tables e below S0 (T21.setTop (mkF m 59 l4 [(.int r21), (.int (5 : Int32)), (.ref b3)])) := k21a
  have N21 := N19.app Nq21
  have e21 : T21.heap = h19 := eq21
  obtain ⟨cl22, Ar22, q22, S22, M22, G22, J22⟩ := id V19
  obtain ⟨T22, h22, X22, e22, W22, st22⟩ := stC X21 hx hZ e21 Ar22 (j := (5 : Int32)) (inb_of S22 ⟨by decide, by decide⟩) (g := (mkF m 59 l4 [(.int r21), (.int (5 : Int32)), (.ref b3)])) rfl rfl (hb hby at_59)
  have k22 : To p.tables e below S0 (T22.setTop (mkF m 60 l4 [])) := fun tt hq => k21 tt (st22 tt hq)
  have z22 : h22.size = h19.size := W22.size
  have C22 := C19.trans (CHr.wr W22 (Safe.arv hZ.alike V19 (by decide)) C19.1)
  rw [own_narc hm21] at W22
  have V22 : Arv Z h22 b3 c3 .char (6 : Int32) [(.int r6), (.int r9), (.int r12), (.int r15), (.int r18), (.int r21)] (.int (0 : Int32)) := Arv.set Ar22 q22 S22 M22 G22 J22 (own_fitc hm21) W22 5 rfl (Nat.le_of_ble_eq_true rfl)
  have N22 := Fr.snoc X22 N21 (by omega : n0 ≤ b3)
  have HM : ∀ i : Int32, ¬ own_at [r6, r9, r12, r15, r18, r21] i < (0 : Int32) ∧ ¬ (255 : Int32) < own_at [r6, r9, r12, r15, r18, r21] i := fun i => own_atm (by intro d hd; simp only [List.mem_cons, List.not_mem_nil, or_false] at hd; rcases hd with rfl | rfl | rfl | rfl | rfl | rfl <;> assumption) i
  have k23 : To p.tables e below S0 (T22.setTop (mkF m 61 l4 [(.int (3 : Int32))])) := fun tt hq => k22 tt (by
    refine XS.iconst X22.here hx rfl (hb hby at_60) ?_
    exact hq)
  obtain ⟨T24, h24, c24, X24, e24, E24, A24, st24⟩ := newP X22 hx hZ (wq hw 0 rfl) e22 (g := (mkF m 61 l4 [(.int (3 : Int32))])) rfl (hb hby at_61) rfl (by decide) (cap := 3) (by decide) (by decide) (by decide) (by decide)
  obtain ⟨b24, g24⟩ : ∃ z, z = h22.size := ⟨_, rfl⟩
  rw [← g24] at A24 st24
  have k24 : To p.tables e below S0 (T24.setTop (mkF m 63 l4 [(.ref b24)])) := fun tt hq => k23 tt (st24 tt hq)
  have z24 : h22.size ≤ h24.size := E24.1
  have C24 := C22.trans (CHr.ext E24 C22.1)
  have V24 : Arv Z h24 b24 c24 .char (3 : Int32) [(.int (0 : Int32)), (.int (0 : Int32)), (.int (0 : Int32))] (.int (0 : Int32)) := (Arv.new A24 (by decide)).pad (pad_rep [] (.int (0 : Int32)) 3)
  have y24 : @LT.lt Nat instLTNat b24 h24.size := V24.lt
  let l25 : Array Slot := #[.val (.long p0), .second, .val (.int p2), .val (.int p3), .val (.int p4), .val (.ref b3), .val (.ref b24), .unset, .unset, .unset, .unset, .unset, .unset]
  have k26 : To p.tables e below S0 (T24.setTop (mkF m 70 l25 [(.int (120 : Int32)), (.int (0 : Int32)), (.ref b24)])) := fun tt hq => k24 tt (by
    refine XS.astore X24.here hx rfl (hb hby at_63) rfl rfl (l' := l25) rfl ?_
    refine XS.aload X24.here hx rfl (hb hby at_65) rfl rfl ?_
    refine XS.iconst X24.here hx rfl (hb hby at_67) ?_
    refine XS.bipush X24.here hx rfl (hb hby at_68) ?_
    exact hq)
  obtain ⟨cl27, Ar27, q27, S27, M27, G27, J27⟩ := id V24
  obtain ⟨T27, h27, X27, e27, W27, st27⟩ := stC X24 hx hZ e24 Ar27 (j := (0 : Int32)) (inb_of S27 ⟨by decide, by decide⟩) (g := (mkF m 70 l25 [(.int (120 : Int32)), (.int (0 : Int32)), (.ref b24)])) rfl rfl (hb hby at_70)
  have k27 : To p.tables e below S0 (T27.setTop (mkF m 71 l25 [])) := fun tt hq => k26 tt (st27 tt hq)
  have z27 : h27.size = h24.size := W27.size
  have C27 := C24.trans (CHr.wr W27 (Safe.arv hZ.alike V24 (by decide)) C24.1)
  have V27 : Arv Z h27 b24 c24 .char (3 : Int32) [(.int (120 : Int32)), (.int (0 : Int32)), (.int (0 : Int32))] (.int (0 : Int32)) := Arv.set Ar27 q27 S27 M27 G27 J27 (fits_nar_char _) W27 0 rfl (Nat.le_of_ble_eq_true rfl)
  have N27 := Fr.snoc X27 N22 (by omega : n0 ≤ b24)
  have k28 : To p.tables e below S0 (T27.setTop (mkF m 76 l25 [(.int (121 : Int32)), (.int (1 : Int32)), (.ref b24)])) := fun tt hq => k27 tt (by
    refine XS.aload X27.here hx rfl (hb hby at_71) rfl rfl ?_
    refine XS.iconst X27.here hx rfl (hb hby at_73) ?_
    refine XS.bipush X27.here hx rfl (hb hby at_74) ?_
    exact hq)
  obtain ⟨cl29, Ar29, q29, S29, M29, G29, J29⟩ := id V27
  obtain ⟨T29, h29, X29, e29, W29, st29⟩ := stC X27 hx hZ e27 Ar29 (j := (1 : Int32)) (inb_of S29 ⟨by decide, by decide⟩) (g := (mkF m 76 l25 [(.int (121 : Int32)), (.int (1 : Int32)), (.ref b24)])) rfl rfl (hb hby at_76)
  have k29 : To p.tables e below S0 (T29.setTop (mkF m 77 l25 [])) := fun tt hq => k28 tt (st29 tt hq)
  have z29 : h29.size = h27.size := W29.size
  have C29 := C27.trans (CHr.wr W29 (Safe.arv hZ.alike V27 (by decide)) C27.1)
  have V29 : Arv Z h29 b24 c24 .char (3 : Int32) [(.int (120 : Int32)), (.int (121 : Int32)), (.int (0 : Int32))] (.int (0 : Int32)) := Arv.set Ar29 q29 S29 M29 G29 J29 (fits_nar_char _) W29 1 rfl (Nat.le_of_ble_eq_true rfl)
  have N29 := Fr.snoc X29 N27 (by omega : n0 ≤ b24)
  have k30 : To p.tables e below S0 (T29.setTop (mkF m 82 l25 [(.int (122 : Int32)), (.int (2 : Int32)), (.ref b24)])) := fun tt hq => k29 tt (by
    refine XS.aload X29.here hx rfl (hb hby at_77) rfl rfl ?_
    refine XS.iconst X29.here hx rfl (hb hby at_79) ?_
    refine XS.bipush X29.here hx rfl (hb hby at_80) ?_
    exact hq)
  obtain ⟨cl31, Ar31, q31, S31, M31, G31, J31⟩ := id V29
  obtain ⟨T31, h31, X31, e31, W31, st31⟩ := stC X29 hx hZ e29 Ar31 (j := (2 : Int32)) (inb_of S31 ⟨by decide, by decide⟩) (g := (mkF m 82 l25 [(.int (122 : Int32)), (.int (2 : Int32)), (.ref b24)])) rfl rfl (hb hby at_82)
  have k31 : To p.tables e below S0 (T31.setTop (mkF m 83 l25 [])) := fun tt hq => k30 tt (st31 tt hq)
  have z31 : h31.size = h29.size := W31.size
  have C31 := C29.trans (CHr.wr W31 (Safe.arv hZ.alike V29 (by decide)) C29.1)
  have V31 : Arv Z h31 b24 c24 .char (3 : Int32) [(.int (120 : Int32)), (.int (121 : Int32)), (.int (122 : Int32))] (.int (0 : Int32)) := Arv.set Ar31 q31 S31 M31 G31 J31 (fits_nar_char _) W31 2 rfl (Nat.le_of_ble_eq_true rfl)
  have N31 := Fr.snoc X31 N29 (by omega : n0 ≤ b24)
  have k32 : To p.tables e below S0 (T31.setTop (mkF m 90 l25 [(.int ((p2 &&& (2147483647 : Int32)) % (7 : Int32)))])) := fun tt hq => k31 tt (by
    refine XS.iloadN X31.here hx rfl (hb hby at_83) rfl ?_
    refine X31.ldcInt hx hown (mvT hZ (wq hw 6 rfl)) (g := (mkF m 84 l25 [(.int p2)])) rfl (hb hby at_84) _ ?_
    refine XS.iand X31.here hx rfl (hb hby at_86) rfl ?_
    refine XS.bipush X31.here hx rfl (hb hby at_87) ?_
    refine iremM X31 hx rfl (hb hby at_89) rfl (by decide) ?_
    exact hq)
  obtain ⟨f, hf⟩ : ∃ z : Int32, z = ((p2 &&& (2147483647 : Int32)) % (7 : Int32)) := ⟨_, rfl⟩
  have k33 : To p.tables e below S0 (T31.setTop (mkF m 90 l25 [(.int f)])) := by rw [hf]; exact k32
  have hF := own_r7 p2
  rw [← hf] at hF
  let l34 : Array Slot := #[.val (.long p0), .second, .val (.int p2), .val (.int p3), .val (.int p4), .val (.ref b3), .val (.ref b24), .val (.int f), .unset, .unset, .unset, .unset, .unset]
  have k35 : To p.tables e below S0 (T31.setTop (mkF m 105 l34 [(.int (f + ((p3 &&& (2147483647 : Int32)) % ((7 : Int32) - f))))])) := fun tt hq => k33 tt (by
    refine XS.istore X31.here hx rfl (hb hby at_90) rfl (l' := l34) rfl ?_
    refine XS.iload X31.here hx rfl (hb hby at_92) rfl ?_
    refine XS.iloadN X31.here hx rfl (hb hby at_94) rfl ?_
    refine X31.ldcInt hx hown (mvT hZ (wq hw 6 rfl)) (g := (mkF m 95 l34 [(.int p3), (.int f)])) rfl (hb hby at_95) _ ?_
    refine XS.iand X31.here hx rfl (hb hby at_97) rfl ?_
    refine XS.bipush X31.here hx rfl (hb hby at_98) ?_
    refine XS.iload X31.here hx rfl (hb hby at_100) rfl ?_
    refine XS.isub X31.here hx rfl (hb hby at_102) rfl ?_
    refine iremM X31 hx rfl (hb hby at_103) rfl (by rcases hF with rfl | rfl | rfl | rfl | rfl | rfl | rfl <;> decide) ?_
    refine XS.iadd X31.here hx rfl (hb hby at_104) rfl ?_
    exact hq)
  obtain ⟨e_, he_⟩ : ∃ z : Int32, z = (f + ((p3 &&& (2147483647 : Int32)) % ((7 : Int32) - f))) := ⟨_, rfl⟩
  have k36 : To p.tables e below S0 (T31.setTop (mkF m 105 l34 [(.int e_)])) := by rw [he_]; exact k35
  have hL : (e_ - f = (0 : Int32) ∧ (f = (0 : Int32) ∨ f = (1 : Int32) ∨ f = (2 : Int32) ∨ f = (3 : Int32) ∨ f = (4 : Int32) ∨ f = (5 : Int32) ∨ f = (6 : Int32))) ∨ (e_ - f = (1 : Int32) ∧ (f = (0 : Int32) ∨ f = (1 : Int32) ∨ f = (2 : Int32) ∨ f = (3 : Int32) ∨ f = (4 : Int32) ∨ f = (5 : Int32))) ∨ (e_ - f = (2 : Int32) ∧ (f = (0 : Int32) ∨ f = (1 : Int32) ∨ f = (2 : Int32) ∨ f = (3 : Int32) ∨ f = (4 : Int32))) ∨ (e_ - f = (3 : Int32) ∧ (f = (0 : Int32) ∨ f = (1 : Int32) ∨ f = (2 : Int32) ∨ f = (3 : Int32))) ∨ (e_ - f = (4 : Int32) ∧ (f = (0 : Int32) ∨ f = (1 : Int32) ∨ f = (2 : Int32))) ∨ (e_ - f = (5 : Int32) ∧ (f = (0 : Int32) ∨ f = (1 : Int32))) ∨ (e_ - f = (6 : Int32) ∧ (f = (0 : Int32))) := by
    have h := own_len p2 p3
    rw [show own_f p2 = f from hf.symm, show own_e p2 p3 = e_ from by rw [he_, hf]; rfl] at h
    exact h
  let l37 : Array Slot := #[.val (.long p0), .second, .val (.int p2), .val (.int p3), .val (.int p4), .val (.ref b3), .val (.ref b24), .val (.int f), .val (.int e_), .unset, .unset, .unset, .unset]
  have k38 : To p.tables e below S0 (T31.setTop (mkF m 112 l37 [(.int (e_ - f))])) := fun tt hq => k36 tt (by
    refine XS.istore X31.here hx rfl (hb hby at_105) rfl (l' := l37) rfl ?_
    refine XS.iload X31.here hx rfl (hb hby at_107) rfl ?_
    refine XS.iload X31.here hx rfl (hb hby at_109) rfl ?_
    refine XS.isub X31.here hx rfl (hb hby at_111) rfl ?_
    exact hq)
  rcases hL with ⟨ht, hd⟩ | ⟨ht, hd⟩ | ⟨ht, hd⟩ | ⟨ht, hd⟩ | ⟨ht, hd⟩ | ⟨ht, hd⟩ | ⟨ht, hd⟩
  · -- the length 0
    have k39 : To p.tables e below S0 (T31.setTop (mkF m 112 l37 [(.int (0 : Int32))])) := by have hq := k38; rw [ht] at hq; exact hq
    let l40 : Array Slot := #[.val (.long p0), .second, .val (.int p2), .val (.int p3), .val (.int p4), .val (.ref b3), .val (.ref b24), .val (.int f), .val (.int e_), .val (.int (0 : Int32)), .unset, .unset, .unset]
    have k41 : To p.tables e below S0 (T31.setTop (mkF m 114 l40 [])) := fun tt hq => k39 tt (by
      refine XS.istore X31.here hx rfl (hb hby at_112) rfl (l' := l40) rfl ?_
      exact hq)
    obtain ⟨T42, h42, X42, e42, E42, A42, D42, -, st42⟩ := newO X31 hx hZ hown (wq hw 7 rfl) (wq hw 8 rfl) (wq hw 9 rfl) e31 (g := (mkF m 114 l40 [])) rfl (hb hby at_114) (by decide) (by decide)
    obtain ⟨b42, g42⟩ : ∃ z, z = h31.size := ⟨_, rfl⟩
    rw [← g42] at A42 D42 st42
    have k42 : To p.tables e below S0 (T42.setTop (mkF m 117 l40 [(.ref b42)])) := fun tt hq => k41 tt (st42 tt hq)
    have z42 : h31.size ≤ h42.size := E42.1
    have y42 : @LT.lt Nat instLTNat b42 h42.size := A42.lt
    have C42 := C31.trans (CHr.ext E42 C31.1)
    have F42_chars : Fld Z h42 b42 "strikebound/cli/InPlaceText" "chars" "[C" .null := D42 (Or.inl (wq hw 17 rfl)) (ty := (.array .char)) (by decide)
    have F42_start : Fld Z h42 b42 "strikebound/cli/InPlaceText" "start" "I" (.int (0 : Int32)) := D42 (Or.inl (wq hw 24 rfl)) (ty := .int) (by decide)
    have F42_length : Fld Z h42 b42 "strikebound/cli/InPlaceText" "length" "I" (.int (0 : Int32)) := D42 (Or.inl (wq hw 26 rfl)) (ty := .int) (by decide)
    have k43 : To p.tables e below S0 (T42.setTop (mkF m 118 l40 [(.ref b42), (.ref b42)])) := fun tt hq => k42 tt (by
      refine XS.dup X42.here hx rfl (hb hby at_117) rfl rfl ?_
      exact hq)
    obtain ⟨_, T44, L44, X44, ⟨u44, rfl, Nq44, Kq44, P440, P441, P442, P443⟩, k44a⟩ := callC' X42 hx hZ (y := (⟨"strikebound/cli/InPlaceText", "<init>", "()V"⟩ : MethodName)) rfl hown (wq hw 10 rfl) (wq hw 11 rfl) (wq hw 12 rfl) (by decide) (backC (W := 1) (rm_ii l Z a0 hw b42 h42 n0 (by omega) A42 F42_chars F42_start F42_length (by omega) (by omega)) hZ (wq hw 12 rfl) (wq hw 9 rfl) (by decide) (by decide)) e42 (argsL := []) (rest := [(.ref b42)]) rfl rfl pd_6 rfl (by rw [hml]; rfl) (hb hby at_118) (Nat.le_of_eq rfl) (by decide) (by decide) k43
    have k44 : To p.tables e below S0 (T44.setTop (mkF m 121 l40 [(.ref b42)])) := k44a
    have N44 := N31.app Nq44
    obtain ⟨h44, e44⟩ : ∃ z, T44.heap = z := ⟨_, rfl⟩
    rw [e44] at Kq44 P440 P441 P442 P443
    have z44 : h42.size ≤ h44.size := Kq44.1
    have C44 := C42.trans (CHr.keep Kq44 (sfS (Safe.exa hZ.alike A42 (by decide) (by decide)) sf0) C42.1)
    let l45 : Array Slot := #[.val (.long p0), .second, .val (.int p2), .val (.int p3), .val (.int p4), .val (.ref b3), .val (.ref b24), .val (.int f), .val (.int e_), .val (.int (0 : Int32)), .val (.ref b42), .unset, .unset]
    have k46 : To p.tables e below S0 (T44.setTop (mkF m 129 l45 [(.int (3 : Int32)), (.int (1 : Int32)), (.ref b24), (.ref b42)])) := fun tt hq => k44 tt (by
      refine XS.astore X44.here hx rfl (hb hby at_121) rfl rfl (l' := l45) rfl ?_
      refine XS.aload X44.here hx rfl (hb hby at_123) rfl rfl ?_
      refine XS.aload X44.here hx rfl (hb hby at_125) rfl rfl ?_
      refine XS.iconst X44.here hx rfl (hb hby at_127) ?_
      refine XS.iconst X44.here hx rfl (hb hby at_128) ?_
      exact hq)
    obtain ⟨_, T47, L47, X47, ⟨rfl, Nq47, Kq47, P470, P471, P472, P473⟩, k47a⟩ := callV' X44 hx hZ (y := (⟨"strikebound/cli/InPlaceText", "set", "([CII)V"⟩ : MethodName)) (z := (⟨"strikebound/cli/InPlaceText", "set", "([CII)V"⟩ : MethodName)) hown (wq hw 18 rfl) (wq hw 19 rfl) (notFace_of_selects (args := #[]) (mvT hZ (wq hw 21 rfl))) (wq hw 21 rfl) (wq hw 20 rfl) (by decide) P440 (backC (W := 0) (rm_set l Z a0 hw b42 b24 (1 : Int32) (3 : Int32) (2 : Int32) u44 (0 : Int32) (0 : Int32) h44 n0 (by omega) P440 P441 P442 P443 (by omega) (by decide)) hZ (wq hw 22 rfl) (wq hw 9 rfl) (by decide) (by decide)) e44 (argsL := [(.ref b24), (.int (1 : Int32)), (.int (3 : Int32))]) (rest := []) rfl rfl pd_7 rfl (by rw [hml]; rfl) (hb hby at_129) (Nat.le_of_eq rfl) (by decide) (by decide) k46
    have k47 : To p.tables e below S0 (T47.setTop (mkF m 132 l45 [])) := k47a
    have N47 := N44.app Nq47
    obtain ⟨h47, e47⟩ : ∃ z, T47.heap = z := ⟨_, rfl⟩
    rw [e47] at Kq47 P470 P471 P472 P473
    have z47 : h44.size ≤ h47.size := Kq47.1
    have C47 := C44.trans (CHr.keep Kq47 (sfS (Safe.exa hZ.alike P440 (by decide) (by decide)) sf0) C44.1)
    have k48 : To p.tables e below S0 (T47.setTop (mkF m 140 l45 [(.int e_), (.int f), (.ref b3), (.ref b42)])) := fun tt hq => k47 tt (by
      refine XS.aload X47.here hx rfl (hb hby at_132) rfl rfl ?_
      refine XS.aload X47.here hx rfl (hb hby at_134) rfl rfl ?_
      refine XS.iload X47.here hx rfl (hb hby at_136) rfl ?_
      refine XS.iload X47.here hx rfl (hb hby at_138) rfl ?_
      exact hq)
    obtain ⟨_, T49, L49, X49, ⟨rfl, Nq49, Kq49, P490, P491, P492, P493⟩, k49a⟩ := callV' X47 hx hZ (y := (⟨"strikebound/cli/InPlaceText", "set", "([CII)V"⟩ : MethodName)) (z := (⟨"strikebound/cli/InPlaceText", "set", "([CII)V"⟩ : MethodName)) hown (wq hw 18 rfl) (wq hw 19 rfl) (notFace_of_selects (args := #[]) (mvT hZ (wq hw 21 rfl))) (wq hw 21 rfl) (wq hw 20 rfl) (by decide) P470 (backC (W := 0) (rm_set l Z a0 hw b42 b3 f e_ (0 : Int32) b24 (1 : Int32) (2 : Int32) h47 n0 (by omega) P470 P471 P472 P473 (by omega) ht) hZ (wq hw 22 rfl) (wq hw 9 rfl) (by decide) (by decide)) e47 (argsL := [(.ref b3), (.int f), (.int e_)]) (rest := []) rfl rfl pd_7 rfl (by rw [hml]; rfl) (hb hby at_140) (Nat.le_of_eq rfl) (by decide) (by decide) k48
    have k49 : To p.tables e below S0 (T49.setTop (mkF m 143 l45 [])) := k49a
    have N49 := N47.app Nq49
    obtain ⟨h49, e49⟩ : ∃ z, T49.heap = z := ⟨_, rfl⟩
    rw [e49] at Kq49 P490 P491 P492 P493
    have z49 : h47.size ≤ h49.size := Kq49.1
    have C49 := C47.trans (CHr.keep Kq49 (sfS (Safe.exa hZ.alike P470 (by decide) (by decide)) sf0) C47.1)
    have k50 : To p.tables e below S0 (T49.setTop (mkF m 145 l45 [(.ref b42)])) := fun tt hq => k49 tt (by
      refine XS.aload X49.here hx rfl (hb hby at_143) rfl rfl ?_
      exact hq)
    obtain ⟨_, T51, L51, X51, ⟨rfl, Nq51, eq51⟩, k51a⟩ := callV' X49 hx hZ (y := (⟨"strikebound/cli/InPlaceText", "array", "()[C"⟩ : MethodName)) (z := (⟨"strikebound/cli/InPlaceText", "array", "()[C"⟩ : MethodName)) hown (wq hw 27 rfl) (wq hw 28 rfl) (notFace_of_selects (args := #[]) (mvT hZ (wq hw 30 rfl))) (wq hw 30 rfl) (wq hw 29 rfl) (by decide) P490 (backC (W := 0) (rm_garray l Z a0 hw b42 b3 h49 n0 (by omega) P491) hZ (wq hw 31 rfl) (wq hw 9 rfl) (by decide) (by decide)) e49 (argsL := []) (rest := []) rfl rfl pd_8 rfl (by rw [hml]; rfl) (hb hby at_145) (Nat.le_of_eq rfl) (by decide) (by decide) k50
    have k51 : To p.tables e below S0 (T51.setTop (mkF m 148 l45 [(.ref b3)])) := k51a
    have N51 := N49.app Nq51
    have e51 : T51.heap = h49 := eq51
    have k52 : To p.tables e below S0 (T51.setTop (mkF m 157 l45 [(.ref b42)])) := fun tt hq => k51 tt (by
      refine XS.aload X51.here hx rfl (hb hby at_148) rfl rfl ?_
      refine Jvm.RoadKit.acmp (g := (mkF m 150 l45 [(.ref b3), (.ref b3)])) X51 hx rfl rfl rfl (pc0 := 150) (pc' := 155) (same := true) rfl (hb hby at_150) rfl (decide_eq_true rfl) (by decide) (by decide) ?_
      refine XS.aload X51.here hx rfl (hb hby at_155) rfl rfl ?_
      exact hq)
    obtain ⟨_, T53, L53, X53, ⟨rfl, Nq53, eq53⟩, k53a⟩ := callV' X51 hx hZ (y := (⟨"strikebound/cli/InPlaceText", "start", "()I"⟩ : MethodName)) (z := (⟨"strikebound/cli/InPlaceText", "start", "()I"⟩ : MethodName)) hown (wq hw 32 rfl) (wq hw 33 rfl) (notFace_of_selects (args := #[]) (mvT hZ (wq hw 35 rfl))) (wq hw 35 rfl) (wq hw 34 rfl) (by decide) P490 (backC (W := 0) (rm_gstart l Z a0 hw b42 f h49 n0 (by omega) P492) hZ (wq hw 36 rfl) (wq hw 9 rfl) (by decide) (by decide)) e51 (argsL := []) (rest := []) rfl rfl pd_9 rfl (by rw [hml]; rfl) (hb hby at_157) (Nat.le_of_eq rfl) (by decide) (by decide) k52
    have k53 : To p.tables e below S0 (T53.setTop (mkF m 160 l45 [(.int f)])) := k53a
    have N53 := N51.app Nq53
    have e53 : T53.heap = h49 := eq53
    have k54 : To p.tables e below S0 (T53.setTop (mkF m 169 l45 [(.ref b42)])) := fun tt hq => k53 tt (by
      refine XS.iload X53.here hx rfl (hb hby at_160) rfl ?_
      refine XS.icmpYes X53.here hx rfl (pc0 := 162) (pc' := 167) rfl (hb hby at_162) rfl (teq rfl).1 (by decide) (by decide) ?_
      refine XS.aload X53.here hx rfl (hb hby at_167) rfl rfl ?_
      exact hq)
    obtain ⟨_, T55, L55, X55, ⟨rfl, Nq55, eq55⟩, k55a⟩ := callV' X53 hx hZ (y := (⟨"strikebound/cli/InPlaceText", "length", "()I"⟩ : MethodName)) (z := (⟨"strikebound/cli/InPlaceText", "length", "()I"⟩ : MethodName)) hown (wq hw 37 rfl) (wq hw 38 rfl) (notFace_of_selects (args := #[]) (mvT hZ (wq hw 40 rfl))) (wq hw 40 rfl) (wq hw 39 rfl) (by decide) P490 (backC (W := 0) (rm_glength l Z a0 hw b42 (0 : Int32) h49 n0 (by omega) P493) hZ (wq hw 41 rfl) (wq hw 9 rfl) (by decide) (by decide)) e53 (argsL := []) (rest := []) rfl rfl pd_9 rfl (by rw [hml]; rfl) (hb hby at_169) (Nat.le_of_eq rfl) (by decide) (by decide) k54
    have k55 : To p.tables e below S0 (T55.setTop (mkF m 172 l45 [(.int (0 : Int32))])) := k55a
    have N55 := N53.app Nq55
    have e55 : T55.heap = h49 := eq55
    have k56 : To p.tables e below S0 (T55.setTop (mkF m 181 l45 [(.ref b42)])) := fun tt hq => k55 tt (by
      refine XS.iload X55.here hx rfl (hb hby at_172) rfl ?_
      refine XS.icmpYes X55.here hx rfl (pc0 := 174) (pc' := 179) rfl (hb hby at_174) rfl (teq (by decide)).1 (by decide) (by decide) ?_
      refine XS.aload X55.here hx rfl (hb hby at_179) rfl rfl ?_
      exact hq)
    have f57 : Old Z n0 h49 := (((((((((((((((O0.ext E3).wr W7 (by omega)).wr W10 (by omega)).wr W13 (by omega)).wr W16 (by omega)).wr W19 (by omega)).wr W22 (by omega)).ext E24).wr W27 (by omega)).wr W29 (by omega)).wr W31 (by omega)).ext E42).keep Kq44 (allS (by omega) all0)).keep Kq47 (allS (by omega) all0)).keep Kq49 (allS (by omega) all0))
    have f58 : Arv Z h49 b3 c3 .char (6 : Int32) [(.int r6), (.int r9), (.int r12), (.int r15), (.int r18), (.int r21)] (.int (0 : Int32)) := ((((((((V22.ext E24).other W27 (adr_ne (by omega))).other W29 (adr_ne (by omega))).other W31 (adr_ne (by omega))).ext E42).keep Kq44 (nin1 (by omega))).keep Kq47 (nin1 (by omega))).keep Kq49 (nin1 (by omega)))
    obtain ⟨_, T59, L59, X59, ⟨a59, t59, k59x, rfl, Nq59, ya59, yt59, Kq59, P590, P591, P592, P593⟩, k59a, Cq59, hS59, hZ59, hown59⟩ := callVW X55 hx hZ (y := (⟨"strikebound/cli/InPlaceText", "toString", "()Ljava/lang/String;"⟩ : MethodName)) (z := (⟨"strikebound/cli/InPlaceText", "toString", "()Ljava/lang/String;"⟩ : MethodName)) hown hS0 (by omega) (wq hw 42 rfl) (wq hw 43 rfl) (notFace_of_selects (args := #[]) (mvT hZ (wq hw 45 rfl))) (wq hw 45 rfl) (wq hw 44 rfl) (by decide) P490 (backOfW (W := 0) (rm_ts_0 l Z a0 hw zc fm b42 b3 c3 f r6 r9 r12 r15 r18 r21 h49 n0 (by omega) S_c hzc S_f hfm f57 P490 P491 P492 P493 f58 (by omega) hd HM (by rcases hd with rfl | rfl | rfl | rfl | rfl | rfl | rfl <;> decide) (by rcases hd with rfl | rfl | rfl | rfl | rfl | rfl | rfl <;> decide)) hZ (wq hw 46 rfl) (wq hw 9 rfl) (by decide) (by decide) (own_EW hw) C49.1 all0) e55 (argsL := []) (rest := []) rfl rfl pd_12 rfl (by rw [hml]; rfl) (hb hby at_181) (Nat.le_of_eq rfl) (by decide) (by decide) k56
    have k59 : To p.tables e below S0 (T59.setTop (mkF m 184 l45 [(.ref a59)])) := k59a
    have N59 := N55.app Nq59
    obtain ⟨h59, e59⟩ : ∃ z, T59.heap = z := ⟨_, rfl⟩
    rw [e59] at Kq59 ya59 yt59 P590 P591 P592 P593 Cq59 hS59
    have z59 : h49.size ≤ h59.size := Kq59.1
    have C59 := C49.trans Cq59
    let l60 : Array Slot := #[.val (.long p0), .second, .val (.int p2), .val (.int p3), .val (.int p4), .val (.ref b3), .val (.ref b24), .val (.int f), .val (.int e_), .val (.int (0 : Int32)), .val (.ref b42), .val (.ref a59), .unset]
    have k61 : To p.tables e below S0 (T59.setTop (mkF m 188 l60 [(.ref a59)])) := fun tt hq => k59 tt (by
      refine XS.astore X59.here hx rfl (hb hby at_184) rfl rfl (l' := l60) rfl ?_
      refine XS.aload X59.here hx rfl (hb hby at_186) rfl rfl ?_
      exact hq)
    have f62 : Old Z n0 h59 := (f57.keep Kq59 all0)
    obtain ⟨_, T63, L63, X63, ⟨rfl, Nq63, eq63⟩, k63a⟩ := callV' X59 hx hZ59 (y := (⟨"java/lang/String", "length", "()I"⟩ : MethodName)) (z := (⟨"java/lang/String", "length", "()I"⟩ : MethodName)) hown59 (wq hw 85 rfl) (wq hw 86 rfl) (notFace_of_selects (args := #[]) (mvT hZ59 (wq hw 88 rfl))) (wq hw 88 rfl) (wq hw 87 rfl) (by decide) P590 (backC (W := 0) (rm_len0 l Z a0 hw zc a59 t59 k59x  h59 n0 (by omega) S_c hzc f62 P590 P591 P592 P593) hZ59 (wq hw 89 rfl) (wq hw 49 rfl) (by decide) (by decide)) e59 (argsL := []) (rest := []) rfl rfl pd_9 rfl (by rw [hml]; rfl) (hb hby at_188) (Nat.le_of_eq rfl) (by decide) (by decide) k61
    have k63 : To p.tables e below S0 (T63.setTop (mkF m 191 l60 [(.int (0 : Int32))])) := k63a
    have N63 := N59.app Nq63
    have e63 : T63.heap = h59 := eq63
    have k64 : To p.tables e below S0 (T63.setTop (mkF m 275 l60 [(.int (1 : Int32))])) := fun tt hq => k63 tt (by
      refine XS.iload X63.here hx rfl (hb hby at_191) rfl ?_
      refine XS.icmpYes X63.here hx rfl (pc0 := 193) (pc' := 198) rfl (hb hby at_193) rfl (teq (by decide)).1 (by decide) (by decide) ?_
      refine XS.iload X63.here hx rfl (hb hby at_198) rfl ?_
      refine XS.ifYes X63.here hx rfl (pc0 := 200) (pc' := 274) rfl (hb hby at_200) rfl ((if0 _ _).trans (flt (by decide)).2.2.2) (by decide) (by decide) ?_
      refine XS.iconst X63.here hx rfl (hb hby at_274) ?_
      exact hq)
    refine retIntW X63 hx hZ59 (own_EW hw) hS59 (by omega) C59 e63 hret hlk (by simp) rfl (hb hby at_275) k64 ?_ (by decide) (by decide)
    exact ⟨rfl, N63⟩
  · -- the length 1
    have k65 : To p.tables e below S0 (T31.setTop (mkF m 112 l37 [(.int (1 : Int32))])) := by have hq := k38; rw [ht] at hq; exact hq
    let l66 : Array Slot := #[.val (.long p0), .second, .val (.int p2), .val (.int p3), .val (.int p4), .val (.ref b3), .val (.ref b24), .val (.int f), .val (.int e_), .val (.int (1 : Int32)), .unset, .unset, .unset]
    have k67 : To p.tables e below S0 (T31.setTop (mkF m 114 l66 [])) := fun tt hq => k65 tt (by
      refine XS.istore X31.here hx rfl (hb hby at_112) rfl (l' := l66) rfl ?_
      exact hq)
    obtain ⟨T68, h68, X68, e68, E68, A68, D68, -, st68⟩ := newO X31 hx hZ hown (wq hw 7 rfl) (wq hw 8 rfl) (wq hw 9 rfl) e31 (g := (mkF m 114 l66 [])) rfl (hb hby at_114) (by decide) (by decide)
    obtain ⟨b68, g68⟩ : ∃ z, z = h31.size := ⟨_, rfl⟩
    rw [← g68] at A68 D68 st68
    have k68 : To p.tables e below S0 (T68.setTop (mkF m 117 l66 [(.ref b68)])) := fun tt hq => k67 tt (st68 tt hq)
    have z68 : h31.size ≤ h68.size := E68.1
    have y68 : @LT.lt Nat instLTNat b68 h68.size := A68.lt
    have C68 := C31.trans (CHr.ext E68 C31.1)
    have F68_chars : Fld Z h68 b68 "strikebound/cli/InPlaceText" "chars" "[C" .null := D68 (Or.inl (wq hw 17 rfl)) (ty := (.array .char)) (by decide)
    have F68_start : Fld Z h68 b68 "strikebound/cli/InPlaceText" "start" "I" (.int (0 : Int32)) := D68 (Or.inl (wq hw 24 rfl)) (ty := .int) (by decide)
    have F68_length : Fld Z h68 b68 "strikebound/cli/InPlaceText" "length" "I" (.int (0 : Int32)) := D68 (Or.inl (wq hw 26 rfl)) (ty := .int) (by decide)
    have k69 : To p.tables e below S0 (T68.setTop (mkF m 118 l66 [(.ref b68), (.ref b68)])) := fun tt hq => k68 tt (by
      refine XS.dup X68.here hx rfl (hb hby at_117) rfl rfl ?_
      exact hq)
    obtain ⟨_, T70, L70, X70, ⟨u70, rfl, Nq70, Kq70, P700, P701, P702, P703⟩, k70a⟩ := callC' X68 hx hZ (y := (⟨"strikebound/cli/InPlaceText", "<init>", "()V"⟩ : MethodName)) rfl hown (wq hw 10 rfl) (wq hw 11 rfl) (wq hw 12 rfl) (by decide) (backC (W := 1) (rm_ii l Z a0 hw b68 h68 n0 (by omega) A68 F68_chars F68_start F68_length (by omega) (by omega)) hZ (wq hw 12 rfl) (wq hw 9 rfl) (by decide) (by decide)) e68 (argsL := []) (rest := [(.ref b68)]) rfl rfl pd_6 rfl (by rw [hml]; rfl) (hb hby at_118) (Nat.le_of_eq rfl) (by decide) (by decide) k69
    have k70 : To p.tables e below S0 (T70.setTop (mkF m 121 l66 [(.ref b68)])) := k70a
    have N70 := N31.app Nq70
    obtain ⟨h70, e70⟩ : ∃ z, T70.heap = z := ⟨_, rfl⟩
    rw [e70] at Kq70 P700 P701 P702 P703
    have z70 : h68.size ≤ h70.size := Kq70.1
    have C70 := C68.trans (CHr.keep Kq70 (sfS (Safe.exa hZ.alike A68 (by decide) (by decide)) sf0) C68.1)
    let l71 : Array Slot := #[.val (.long p0), .second, .val (.int p2), .val (.int p3), .val (.int p4), .val (.ref b3), .val (.ref b24), .val (.int f), .val (.int e_), .val (.int (1 : Int32)), .val (.ref b68), .unset, .unset]
    have k72 : To p.tables e below S0 (T70.setTop (mkF m 129 l71 [(.int (3 : Int32)), (.int (1 : Int32)), (.ref b24), (.ref b68)])) := fun tt hq => k70 tt (by
      refine XS.astore X70.here hx rfl (hb hby at_121) rfl rfl (l' := l71) rfl ?_
      refine XS.aload X70.here hx rfl (hb hby at_123) rfl rfl ?_
      refine XS.aload X70.here hx rfl (hb hby at_125) rfl rfl ?_
      refine XS.iconst X70.here hx rfl (hb hby at_127) ?_
      refine XS.iconst X70.here hx rfl (hb hby at_128) ?_
      exact hq)
    obtain ⟨_, T73, L73, X73, ⟨rfl, Nq73, Kq73, P730, P731, P732, P733⟩, k73a⟩ := callV' X70 hx hZ (y := (⟨"strikebound/cli/InPlaceText", "set", "([CII)V"⟩ : MethodName)) (z := (⟨"strikebound/cli/InPlaceText", "set", "([CII)V"⟩ : MethodName)) hown (wq hw 18 rfl) (wq hw 19 rfl) (notFace_of_selects (args := #[]) (mvT hZ (wq hw 21 rfl))) (wq hw 21 rfl) (wq hw 20 rfl) (by decide) P700 (backC (W := 0) (rm_set l Z a0 hw b68 b24 (1 : Int32) (3 : Int32) (2 : Int32) u70 (0 : Int32) (0 : Int32) h70 n0 (by omega) P700 P701 P702 P703 (by omega) (by decide)) hZ (wq hw 22 rfl) (wq hw 9 rfl) (by decide) (by decide)) e70 (argsL := [(.ref b24), (.int (1 : Int32)), (.int (3 : Int32))]) (rest := []) rfl rfl pd_7 rfl (by rw [hml]; rfl) (hb hby at_129) (Nat.le_of_eq rfl) (by decide) (by decide) k72
    have k73 : To p.tables e below S0 (T73.setTop (mkF m 132 l71 [])) := k73a
    have N73 := N70.app Nq73
    obtain ⟨h73, e73⟩ : ∃ z, T73.heap = z := ⟨_, rfl⟩
    rw [e73] at Kq73 P730 P731 P732 P733
    have z73 : h70.size ≤ h73.size := Kq73.1
    have C73 := C70.trans (CHr.keep Kq73 (sfS (Safe.exa hZ.alike P700 (by decide) (by decide)) sf0) C70.1)
    have k74 : To p.tables e below S0 (T73.setTop (mkF m 140 l71 [(.int e_), (.int f), (.ref b3), (.ref b68)])) := fun tt hq => k73 tt (by
      refine XS.aload X73.here hx rfl (hb hby at_132) rfl rfl ?_
      refine XS.aload X73.here hx rfl (hb hby at_134) rfl rfl ?_
      refine XS.iload X73.here hx rfl (hb hby at_136) rfl ?_
      refine XS.iload X73.here hx rfl (hb hby at_138) rfl ?_
      exact hq)
    obtain ⟨_, T75, L75, X75, ⟨rfl, Nq75, Kq75, P750, P751, P752, P753⟩, k75a⟩ := callV' X73 hx hZ (y := (⟨"strikebound/cli/InPlaceText", "set", "([CII)V"⟩ : MethodName)) (z := (⟨"strikebound/cli/InPlaceText", "set", "([CII)V"⟩ : MethodName)) hown (wq hw 18 rfl) (wq hw 19 rfl) (notFace_of_selects (args := #[]) (mvT hZ (wq hw 21 rfl))) (wq hw 21 rfl) (wq hw 20 rfl) (by decide) P730 (backC (W := 0) (rm_set l Z a0 hw b68 b3 f e_ (1 : Int32) b24 (1 : Int32) (2 : Int32) h73 n0 (by omega) P730 P731 P732 P733 (by omega) ht) hZ (wq hw 22 rfl) (wq hw 9 rfl) (by decide) (by decide)) e73 (argsL := [(.ref b3), (.int f), (.int e_)]) (rest := []) rfl rfl pd_7 rfl (by rw [hml]; rfl) (hb hby at_140) (Nat.le_of_eq rfl) (by decide) (by decide) k74
    have k75 : To p.tables e below S0 (T75.setTop (mkF m 143 l71 [])) := k75a
    have N75 := N73.app Nq75
    obtain ⟨h75, e75⟩ : ∃ z, T75.heap = z := ⟨_, rfl⟩
    rw [e75] at Kq75 P750 P751 P752 P753
    have z75 : h73.size ≤ h75.size := Kq75.1
    have C75 := C73.trans (CHr.keep Kq75 (sfS (Safe.exa hZ.alike P730 (by decide) (by decide)) sf0) C73.1)
    have k76 : To p.tables e below S0 (T75.setTop (mkF m 145 l71 [(.ref b68)])) := fun tt hq => k75 tt (by
      refine XS.aload X75.here hx rfl (hb hby at_143) rfl rfl ?_
      exact hq)
    obtain ⟨_, T77, L77, X77, ⟨rfl, Nq77, eq77⟩, k77a⟩ := callV' X75 hx hZ (y := (⟨"strikebound/cli/InPlaceText", "array", "()[C"⟩ : MethodName)) (z := (⟨"strikebound/cli/InPlaceText", "array", "()[C"⟩ : MethodName)) hown (wq hw 27 rfl) (wq hw 28 rfl) (notFace_of_selects (args := #[]) (mvT hZ (wq hw 30 rfl))) (wq hw 30 rfl) (wq hw 29 rfl) (by decide) P750 (backC (W := 0) (rm_garray l Z a0 hw b68 b3 h75 n0 (by omega) P751) hZ (wq hw 31 rfl) (wq hw 9 rfl) (by decide) (by decide)) e75 (argsL := []) (rest := []) rfl rfl pd_8 rfl (by rw [hml]; rfl) (hb hby at_145) (Nat.le_of_eq rfl) (by decide) (by decide) k76
    have k77 : To p.tables e below S0 (T77.setTop (mkF m 148 l71 [(.ref b3)])) := k77a
    have N77 := N75.app Nq77
    have e77 : T77.heap = h75 := eq77
    have k78 : To p.tables e below S0 (T77.setTop (mkF m 157 l71 [(.ref b68)])) := fun tt hq => k77 tt (by
      refine XS.aload X77.here hx rfl (hb hby at_148) rfl rfl ?_
      refine Jvm.RoadKit.acmp (g := (mkF m 150 l71 [(.ref b3), (.ref b3)])) X77 hx rfl rfl rfl (pc0 := 150) (pc' := 155) (same := true) rfl (hb hby at_150) rfl (decide_eq_true rfl) (by decide) (by decide) ?_
      refine XS.aload X77.here hx rfl (hb hby at_155) rfl rfl ?_
      exact hq)
    obtain ⟨_, T79, L79, X79, ⟨rfl, Nq79, eq79⟩, k79a⟩ := callV' X77 hx hZ (y := (⟨"strikebound/cli/InPlaceText", "start", "()I"⟩ : MethodName)) (z := (⟨"strikebound/cli/InPlaceText", "start", "()I"⟩ : MethodName)) hown (wq hw 32 rfl) (wq hw 33 rfl) (notFace_of_selects (args := #[]) (mvT hZ (wq hw 35 rfl))) (wq hw 35 rfl) (wq hw 34 rfl) (by decide) P750 (backC (W := 0) (rm_gstart l Z a0 hw b68 f h75 n0 (by omega) P752) hZ (wq hw 36 rfl) (wq hw 9 rfl) (by decide) (by decide)) e77 (argsL := []) (rest := []) rfl rfl pd_9 rfl (by rw [hml]; rfl) (hb hby at_157) (Nat.le_of_eq rfl) (by decide) (by decide) k78
    have k79 : To p.tables e below S0 (T79.setTop (mkF m 160 l71 [(.int f)])) := k79a
    have N79 := N77.app Nq79
    have e79 : T79.heap = h75 := eq79
    have k80 : To p.tables e below S0 (T79.setTop (mkF m 169 l71 [(.ref b68)])) := fun tt hq => k79 tt (by
      refine XS.iload X79.here hx rfl (hb hby at_160) rfl ?_
      refine XS.icmpYes X79.here hx rfl (pc0 := 162) (pc' := 167) rfl (hb hby at_162) rfl (teq rfl).1 (by decide) (by decide) ?_
      refine XS.aload X79.here hx rfl (hb hby at_167) rfl rfl ?_
      exact hq)
    obtain ⟨_, T81, L81, X81, ⟨rfl, Nq81, eq81⟩, k81a⟩ := callV' X79 hx hZ (y := (⟨"strikebound/cli/InPlaceText", "length", "()I"⟩ : MethodName)) (z := (⟨"strikebound/cli/InPlaceText", "length", "()I"⟩ : MethodName)) hown (wq hw 37 rfl) (wq hw 38 rfl) (notFace_of_selects (args := #[]) (mvT hZ (wq hw 40 rfl))) (wq hw 40 rfl) (wq hw 39 rfl) (by decide) P750 (backC (W := 0) (rm_glength l Z a0 hw b68 (1 : Int32) h75 n0 (by omega) P753) hZ (wq hw 41 rfl) (wq hw 9 rfl) (by decide) (by decide)) e79 (argsL := []) (rest := []) rfl rfl pd_9 rfl (by rw [hml]; rfl) (hb hby at_169) (Nat.le_of_eq rfl) (by decide) (by decide) k80
    have k81 : To p.tables e below S0 (T81.setTop (mkF m 172 l71 [(.int (1 : Int32))])) := k81a
    have N81 := N79.app Nq81
    have e81 : T81.heap = h75 := eq81
    have k82 : To p.tables e below S0 (T81.setTop (mkF m 181 l71 [(.ref b68)])) := fun tt hq => k81 tt (by
      refine XS.iload X81.here hx rfl (hb hby at_172) rfl ?_
      refine XS.icmpYes X81.here hx rfl (pc0 := 174) (pc' := 179) rfl (hb hby at_174) rfl (teq (by decide)).1 (by decide) (by decide) ?_
      refine XS.aload X81.here hx rfl (hb hby at_179) rfl rfl ?_
      exact hq)
    have f83 : Old Z n0 h75 := (((((((((((((((O0.ext E3).wr W7 (by omega)).wr W10 (by omega)).wr W13 (by omega)).wr W16 (by omega)).wr W19 (by omega)).wr W22 (by omega)).ext E24).wr W27 (by omega)).wr W29 (by omega)).wr W31 (by omega)).ext E68).keep Kq70 (allS (by omega) all0)).keep Kq73 (allS (by omega) all0)).keep Kq75 (allS (by omega) all0))
    have f84 : Arv Z h75 b3 c3 .char (6 : Int32) [(.int r6), (.int r9), (.int r12), (.int r15), (.int r18), (.int r21)] (.int (0 : Int32)) := ((((((((V22.ext E24).other W27 (adr_ne (by omega))).other W29 (adr_ne (by omega))).other W31 (adr_ne (by omega))).ext E68).keep Kq70 (nin1 (by omega))).keep Kq73 (nin1 (by omega))).keep Kq75 (nin1 (by omega)))
    obtain ⟨_, T85, L85, X85, ⟨a85, t85, k85x, rfl, Nq85, ya85, yt85, Kq85, P850, P851, P852, P853⟩, k85a⟩ := callV' X81 hx hZ (y := (⟨"strikebound/cli/InPlaceText", "toString", "()Ljava/lang/String;"⟩ : MethodName)) (z := (⟨"strikebound/cli/InPlaceText", "toString", "()Ljava/lang/String;"⟩ : MethodName)) hown (wq hw 42 rfl) (wq hw 43 rfl) (notFace_of_selects (args := #[]) (mvT hZ (wq hw 45 rfl))) (wq hw 45 rfl) (wq hw 44 rfl) (by decide) P750 (backC (W := 0) (rm_ts_1 l Z a0 hw zc fm b68 b3 c3 f r6 r9 r12 r15 r18 r21 h75 n0 (by omega) S_c hzc S_f hfm f83 P750 P751 P752 P753 f84 (by omega) hd HM (by rcases hd with rfl | rfl | rfl | rfl | rfl | rfl <;> decide) (by rcases hd with rfl | rfl | rfl | rfl | rfl | rfl <;> decide)) hZ (wq hw 46 rfl) (wq hw 9 rfl) (by decide) (by decide)) e81 (argsL := []) (rest := []) rfl rfl pd_12 rfl (by rw [hml]; rfl) (hb hby at_181) (Nat.le_of_eq rfl) (by decide) (by decide) k82
    have k85 : To p.tables e below S0 (T85.setTop (mkF m 184 l71 [(.ref a85)])) := k85a
    have N85 := N81.app Nq85
    obtain ⟨h85, e85⟩ : ∃ z, T85.heap = z := ⟨_, rfl⟩
    rw [e85] at Kq85 ya85 yt85 P850 P851 P852 P853
    have z85 : h75.size ≤ h85.size := Kq85.1
    have C85 := C75.trans (CHr.keep Kq85 sf0 C75.1)
    let l86 : Array Slot := #[.val (.long p0), .second, .val (.int p2), .val (.int p3), .val (.int p4), .val (.ref b3), .val (.ref b24), .val (.int f), .val (.int e_), .val (.int (1 : Int32)), .val (.ref b68), .val (.ref a85), .unset]
    have k87 : To p.tables e below S0 (T85.setTop (mkF m 188 l86 [(.ref a85)])) := fun tt hq => k85 tt (by
      refine XS.astore X85.here hx rfl (hb hby at_184) rfl rfl (l' := l86) rfl ?_
      refine XS.aload X85.here hx rfl (hb hby at_186) rfl rfl ?_
      exact hq)
    have f88 : Old Z n0 h85 := (f83.keep Kq85 all0)
    obtain ⟨_, T89, L89, X89, ⟨rfl, Nq89, eq89⟩, k89a⟩ := callV' X85 hx hZ (y := (⟨"java/lang/String", "length", "()I"⟩ : MethodName)) (z := (⟨"java/lang/String", "length", "()I"⟩ : MethodName)) hown (wq hw 85 rfl) (wq hw 86 rfl) (notFace_of_selects (args := #[]) (mvT hZ (wq hw 88 rfl))) (wq hw 88 rfl) (wq hw 87 rfl) (by decide) P850 (backC (W := 0) (rm_len1 l Z a0 hw zc a85 t85 k85x (nar .byte ((own_at [r6, r9, r12, r15, r18, r21] f).toInt8.toInt32)) h85 n0 (by omega) S_c hzc f88 P850 P851 P852 P853) hZ (wq hw 89 rfl) (wq hw 49 rfl) (by decide) (by decide)) e85 (argsL := []) (rest := []) rfl rfl pd_9 rfl (by rw [hml]; rfl) (hb hby at_188) (Nat.le_of_eq rfl) (by decide) (by decide) k87
    have k89 : To p.tables e below S0 (T89.setTop (mkF m 191 l86 [(.int (1 : Int32))])) := k89a
    have N89 := N85.app Nq89
    have e89 : T89.heap = h85 := eq89
    have k90 : To p.tables e below S0 (T89.setTop (mkF m 211 l86 [(.int ((p4 &&& (2147483647 : Int32)) % (1 : Int32)))])) := fun tt hq => k89 tt (by
      refine XS.iload X89.here hx rfl (hb hby at_191) rfl ?_
      refine XS.icmpYes X89.here hx rfl (pc0 := 193) (pc' := 198) rfl (hb hby at_193) rfl (teq (by decide)).1 (by decide) (by decide) ?_
      refine XS.iload X89.here hx rfl (hb hby at_198) rfl ?_
      refine XS.ifNo X89.here hx rfl (hb hby at_200) rfl ((if0 _ _).trans (tlt (by decide)).2.2.2) ?_
      refine XS.iload X89.here hx rfl (hb hby at_203) rfl ?_
      refine X89.ldcInt hx hown (mvT hZ (wq hw 6 rfl)) (g := (mkF m 205 l86 [(.int p4)])) rfl (hb hby at_205) _ ?_
      refine XS.iand X89.here hx rfl (hb hby at_207) rfl ?_
      refine XS.iload X89.here hx rfl (hb hby at_208) rfl ?_
      refine iremM X89 hx rfl (hb hby at_210) rfl (by decide) ?_
      exact hq)
    obtain ⟨ii, hii⟩ : ∃ z : Int32, z = ((p4 &&& (2147483647 : Int32)) % (1 : Int32)) := ⟨_, rfl⟩
    have k91 : To p.tables e below S0 (T89.setTop (mkF m 211 l86 [(.int ii)])) := by rw [hii]; exact k90
    have hI := own_r1 p4
    rw [← hii] at hI
    let l92 : Array Slot := #[.val (.long p0), .second, .val (.int p2), .val (.int p3), .val (.int p4), .val (.ref b3), .val (.ref b24), .val (.int f), .val (.int e_), .val (.int (1 : Int32)), .val (.ref b68), .val (.ref a85), .val (.int ii)]
    have k93 : To p.tables e below S0 (T89.setTop (mkF m 217 l92 [(.int ii), (.ref b68)])) := fun tt hq => k91 tt (by
      refine XS.istore X89.here hx rfl (hb hby at_211) rfl (l' := l92) rfl ?_
      refine XS.aload X89.here hx rfl (hb hby at_213) rfl rfl ?_
      refine XS.iload X89.here hx rfl (hb hby at_215) rfl ?_
      exact hq)
    have f94 : Exa Z h85 b68 "strikebound/cli/InPlaceText" := (P750.keep Kq85)
    have f95 : Fld Z h85 b68 "strikebound/cli/InPlaceText" "chars" "[C" (.ref b3) := (P751.keep Kq85 nin0)
    have f96 : Fld Z h85 b68 "strikebound/cli/InPlaceText" "start" "I" (.int f) := (P752.keep Kq85 nin0)
    have f97 : Fld Z h85 b68 "strikebound/cli/InPlaceText" "length" "I" (.int (1 : Int32)) := (P753.keep Kq85 nin0)
    have f98 : Arv Z h85 b3 c3 .char (6 : Int32) [(.int r6), (.int r9), (.int r12), (.int r15), (.int r18), (.int r21)] (.int (0 : Int32)) := (f84.keep Kq85 nin0)
    obtain ⟨_, T99, L99, X99, ⟨rfl, Nq99, eq99⟩, k99a⟩ := callV' X89 hx hZ (y := (⟨"strikebound/cli/InPlaceText", "charAt", "(I)C"⟩ : MethodName)) (z := (⟨"strikebound/cli/InPlaceText", "charAt", "(I)C"⟩ : MethodName)) hown (wq hw 95 rfl) (wq hw 96 rfl) (notFace_of_selects (args := #[]) (mvT hZ (wq hw 98 rfl))) (wq hw 98 rfl) (wq hw 97 rfl) (by decide) f94 (backC (W := 0) (rm_ica l Z a0 hw b68 b3 c3 f r6 r9 r12 r15 r18 r21 (1 : Int32) ii h85 n0 (by omega) f94 f95 f96 f97 f98 HM (by rcases hd with rfl | rfl | rfl | rfl | rfl | rfl <;> rcases hI with rfl <;> decide) (by rcases hI with rfl <;> decide) (by rcases hI with rfl <;> decide)) hZ (wq hw 99 rfl) (wq hw 9 rfl) (by decide) (by decide)) e89 (argsL := [(.int ii)]) (rest := []) rfl rfl pd_16 rfl (by rw [hml]; rfl) (hb hby at_217) (Nat.le_of_eq rfl) (by decide) (by decide) k93
    have k99 : To p.tables e below S0 (T99.setTop (mkF m 220 l92 [(.int (own_at [r6, r9, r12, r15, r18, r21] (f + ii)))])) := k99a
    have N99 := N89.app Nq99
    have e99 : T99.heap = h85 := eq99
    have k100 : To p.tables e below S0 (T99.setTop (mkF m 227 l92 [(.int (f + ii)), (.ref b3), (.int (own_at [r6, r9, r12, r15, r18, r21] (f + ii)))])) := fun tt hq => k99 tt (by
      refine XS.aload X99.here hx rfl (hb hby at_220) rfl rfl ?_
      refine XS.iload X99.here hx rfl (hb hby at_222) rfl ?_
      refine XS.iload X99.here hx rfl (hb hby at_224) rfl ?_
      refine XS.iadd X99.here hx rfl (hb hby at_226) rfl ?_
      exact hq)
    obtain ⟨cl101, Ar101, -, S101, -, G101, -⟩ := id f98
    have hi101 := inb_of (j := (f + ii)) S101 (by rcases hd with rfl | rfl | rfl | rfl | rfl | rfl <;> rcases hI with rfl <;> decide)
    have st101 := fun tt => X99.caload hx (j := (f + ii)) (v := (.int (own_at [r6, r9, r12, r15, r18, r21] (f + ii)))) (by rw [e99]; exact Ar101.1) (State.isArrayOf_alike hZ.alike Ar101.2.1) Ar101.2.2 hi101 (G101.at hi101 (own_atv [r6, r9, r12, r15, r18, r21] (f + ii))) (g := (mkF m 227 l92 [(.int (f + ii)), (.ref b3), (.int (own_at [r6, r9, r12, r15, r18, r21] (f + ii)))])) rfl rfl (hb hby at_227) tt
    have k101 : To p.tables e below S0 (T99.setTop (mkF m 228 l92 [(.int (own_at [r6, r9, r12, r15, r18, r21] (f + ii))), (.int (own_at [r6, r9, r12, r15, r18, r21] (f + ii)))])) := fun tt hq => k100 tt (st101 tt hq)
    have k102 : To p.tables e below S0 (T99.setTop (mkF m 237 l92 [(.int ii), (.ref a85)])) := fun tt hq => k101 tt (by
      refine XS.icmpYes X99.here hx rfl (pc0 := 228) (pc' := 233) rfl (hb hby at_228) rfl (teq rfl).1 (by decide) (by decide) ?_
      refine XS.aload X99.here hx rfl (hb hby at_233) rfl rfl ?_
      refine XS.iload X99.here hx rfl (hb hby at_235) rfl ?_
      exact hq)
    obtain ⟨_, T103, L103, X103, ⟨rfl, Nq103, eq103⟩, k103a⟩ := callV' X99 hx hZ (y := (⟨"java/lang/String", "charAt", "(I)C"⟩ : MethodName)) (z := (⟨"java/lang/String", "charAt", "(I)C"⟩ : MethodName)) hown (wq hw 107 rfl) (wq hw 108 rfl) (notFace_of_selects (args := #[]) (mvT hZ (wq hw 110 rfl))) (wq hw 110 rfl) (wq hw 109 rfl) (by decide) P850 (backC (W := 0) (rm_cs1 l Z a0 hw zc fm a85 t85 k85x (nar .byte ((own_at [r6, r9, r12, r15, r18, r21] f).toInt8.toInt32)) ii (own_at [r6, r9, r12, r15, r18, r21] (f + ii)) h85 n0 (by omega) S_c hzc S_f hfm f88 P850 P851 P852 P853 (by rcases hI with rfl <;> decide) (by rcases hI with rfl <;> decide) (by rcases hd with rfl | rfl | rfl | rfl | rfl | rfl <;> rcases hI with rfl <;> exact own_b255 (HM _))) hZ (wq hw 111 rfl) (wq hw 49 rfl) (by decide) (by decide)) e99 (argsL := [(.int ii)]) (rest := []) rfl rfl pd_16 rfl (by rw [hml]; rfl) (hb hby at_237) (Nat.le_of_eq rfl) (by decide) (by decide) k102
    have k103 : To p.tables e below S0 (T103.setTop (mkF m 240 l92 [(.int (own_at [r6, r9, r12, r15, r18, r21] (f + ii)))])) := k103a
    have N103 := N99.app Nq103
    have e103 : T103.heap = h85 := eq103
    have k104 : To p.tables e below S0 (T103.setTop (mkF m 247 l92 [(.int (f + ii)), (.ref b3), (.int (own_at [r6, r9, r12, r15, r18, r21] (f + ii)))])) := fun tt hq => k103 tt (by
      refine XS.aload X103.here hx rfl (hb hby at_240) rfl rfl ?_
      refine XS.iload X103.here hx rfl (hb hby at_242) rfl ?_
      refine XS.iload X103.here hx rfl (hb hby at_244) rfl ?_
      refine XS.iadd X103.here hx rfl (hb hby at_246) rfl ?_
      exact hq)
    obtain ⟨cl105, Ar105, -, S105, -, G105, -⟩ := id f98
    have hi105 := inb_of (j := (f + ii)) S105 (by rcases hd with rfl | rfl | rfl | rfl | rfl | rfl <;> rcases hI with rfl <;> decide)
    have st105 := fun tt => X103.caload hx (j := (f + ii)) (v := (.int (own_at [r6, r9, r12, r15, r18, r21] (f + ii)))) (by rw [e103]; exact Ar105.1) (State.isArrayOf_alike hZ.alike Ar105.2.1) Ar105.2.2 hi105 (G105.at hi105 (own_atv [r6, r9, r12, r15, r18, r21] (f + ii))) (g := (mkF m 247 l92 [(.int (f + ii)), (.ref b3), (.int (own_at [r6, r9, r12, r15, r18, r21] (f + ii)))])) rfl rfl (hb hby at_247) tt
    have k105 : To p.tables e below S0 (T103.setTop (mkF m 248 l92 [(.int (own_at [r6, r9, r12, r15, r18, r21] (f + ii))), (.int (own_at [r6, r9, r12, r15, r18, r21] (f + ii)))])) := fun tt hq => k104 tt (st105 tt hq)
    have k106 : To p.tables e below S0 (T103.setTop (mkF m 259 l92 [(.int (0 : Int32)), (.ref a85)])) := fun tt hq => k105 tt (by
      refine XS.icmpYes X103.here hx rfl (pc0 := 248) (pc' := 253) rfl (hb hby at_248) rfl (teq rfl).1 (by decide) (by decide) ?_
      refine XS.aload X103.here hx rfl (hb hby at_253) rfl rfl ?_
      refine XS.iload X103.here hx rfl (hb hby at_255) rfl ?_
      refine XS.iconst X103.here hx rfl (hb hby at_257) ?_
      refine XS.isub X103.here hx rfl (hb hby at_258) rfl ?_
      exact hq)
    obtain ⟨_, T107, L107, X107, ⟨rfl, Nq107, eq107⟩, k107a⟩ := callV' X103 hx hZ (y := (⟨"java/lang/String", "charAt", "(I)C"⟩ : MethodName)) (z := (⟨"java/lang/String", "charAt", "(I)C"⟩ : MethodName)) hown (wq hw 107 rfl) (wq hw 108 rfl) (notFace_of_selects (args := #[]) (mvT hZ (wq hw 110 rfl))) (wq hw 110 rfl) (wq hw 109 rfl) (by decide) P850 (backC (W := 0) (rm_cs1 l Z a0 hw zc fm a85 t85 k85x (nar .byte ((own_at [r6, r9, r12, r15, r18, r21] f).toInt8.toInt32)) (0 : Int32) (own_at [r6, r9, r12, r15, r18, r21] f) h85 n0 (by omega) S_c hzc S_f hfm f88 P850 P851 P852 P853 (by decide) (by decide) (own_b255 (HM _))) hZ (wq hw 111 rfl) (wq hw 49 rfl) (by decide) (by decide)) e103 (argsL := [(.int (0 : Int32))]) (rest := []) rfl rfl pd_16 rfl (by rw [hml]; rfl) (hb hby at_259) (Nat.le_of_eq rfl) (by decide) (by decide) k106
    have k107 : To p.tables e below S0 (T107.setTop (mkF m 262 l92 [(.int (own_at [r6, r9, r12, r15, r18, r21] f))])) := k107a
    have N107 := N103.app Nq107
    have e107 : T107.heap = h85 := eq107
    have k108 : To p.tables e below S0 (T107.setTop (mkF m 268 l92 [(.int (e_ - (1 : Int32))), (.ref b3), (.int (own_at [r6, r9, r12, r15, r18, r21] f))])) := fun tt hq => k107 tt (by
      refine XS.aload X107.here hx rfl (hb hby at_262) rfl rfl ?_
      refine XS.iload X107.here hx rfl (hb hby at_264) rfl ?_
      refine XS.iconst X107.here hx rfl (hb hby at_266) ?_
      refine XS.isub X107.here hx rfl (hb hby at_267) rfl ?_
      exact hq)
    obtain ⟨cl109, Ar109, -, S109, -, G109, -⟩ := id f98
    have hi109 := inb_of (j := (e_ - (1 : Int32))) S109 (by rw [own_sub ht]; rcases hd with rfl | rfl | rfl | rfl | rfl | rfl <;> decide)
    have st109 := fun tt => X107.caload hx (j := (e_ - (1 : Int32))) (v := (.int (own_at [r6, r9, r12, r15, r18, r21] (e_ - (1 : Int32))))) (by rw [e107]; exact Ar109.1) (State.isArrayOf_alike hZ.alike Ar109.2.1) Ar109.2.2 hi109 (G109.at hi109 (own_atv [r6, r9, r12, r15, r18, r21] (e_ - (1 : Int32)))) (g := (mkF m 268 l92 [(.int (e_ - (1 : Int32))), (.ref b3), (.int (own_at [r6, r9, r12, r15, r18, r21] f))])) rfl rfl (hb hby at_268) tt
    have k109 : To p.tables e below S0 (T107.setTop (mkF m 269 l92 [(.int (own_at [r6, r9, r12, r15, r18, r21] (e_ - (1 : Int32)))), (.int (own_at [r6, r9, r12, r15, r18, r21] f))])) := fun tt hq => k108 tt (st109 tt hq)
    by_cases hc269_110 : (own_at [r6, r9, r12, r15, r18, r21] f) = (own_at [r6, r9, r12, r15, r18, r21] (e_ - (1 : Int32)))
    · -- pc 269, holds
      have k111 : To p.tables e below S0 (T107.setTop (mkF m 275 l92 [(.int (1 : Int32))])) := fun tt hq => k109 tt (by
        refine XS.icmpYes X107.here hx rfl (pc0 := 269) (pc' := 274) rfl (hb hby at_269) rfl (teq hc269_110).1 (by decide) (by decide) ?_
        refine XS.iconst X107.here hx rfl (hb hby at_274) ?_
        exact hq)
      refine retIntW X107 hx hZ (own_EW hw) hS0 (by omega) C85 e107 hret hlk (by simp) rfl (hb hby at_275) k111 ?_ (by decide) (by decide)
      exact ⟨rfl, N107⟩
    · -- pc 269, holds not
      exact absurd (by rw [own_sub ht]; rcases hd with rfl | rfl | rfl | rfl | rfl | rfl <;> rfl) hc269_110
  · -- the length 2
    have k112 : To p.tables e below S0 (T31.setTop (mkF m 112 l37 [(.int (2 : Int32))])) := by have hq := k38; rw [ht] at hq; exact hq
    let l113 : Array Slot := #[.val (.long p0), .second, .val (.int p2), .val (.int p3), .val (.int p4), .val (.ref b3), .val (.ref b24), .val (.int f), .val (.int e_), .val (.int (2 : Int32)), .unset, .unset, .unset]
    have k114 : To p.tables e below S0 (T31.setTop (mkF m 114 l113 [])) := fun tt hq => k112 tt (by
      refine XS.istore X31.here hx rfl (hb hby at_112) rfl (l' := l113) rfl ?_
      exact hq)
    obtain ⟨T115, h115, X115, e115, E115, A115, D115, -, st115⟩ := newO X31 hx hZ hown (wq hw 7 rfl) (wq hw 8 rfl) (wq hw 9 rfl) e31 (g := (mkF m 114 l113 [])) rfl (hb hby at_114) (by decide) (by decide)
    obtain ⟨b115, g115⟩ : ∃ z, z = h31.size := ⟨_, rfl⟩
    rw [← g115] at A115 D115 st115
    have k115 : To p.tables e below S0 (T115.setTop (mkF m 117 l113 [(.ref b115)])) := fun tt hq => k114 tt (st115 tt hq)
    have z115 : h31.size ≤ h115.size := E115.1
    have y115 : @LT.lt Nat instLTNat b115 h115.size := A115.lt
    have C115 := C31.trans (CHr.ext E115 C31.1)
    have F115_chars : Fld Z h115 b115 "strikebound/cli/InPlaceText" "chars" "[C" .null := D115 (Or.inl (wq hw 17 rfl)) (ty := (.array .char)) (by decide)
    have F115_start : Fld Z h115 b115 "strikebound/cli/InPlaceText" "start" "I" (.int (0 : Int32)) := D115 (Or.inl (wq hw 24 rfl)) (ty := .int) (by decide)
    have F115_length : Fld Z h115 b115 "strikebound/cli/InPlaceText" "length" "I" (.int (0 : Int32)) := D115 (Or.inl (wq hw 26 rfl)) (ty := .int) (by decide)
    have k116 : To p.tables e below S0 (T115.setTop (mkF m 118 l113 [(.ref b115), (.ref b115)])) := fun tt hq => k115 tt (by
      refine XS.dup X115.here hx rfl (hb hby at_117) rfl rfl ?_
      exact hq)
    obtain ⟨_, T117, L117, X117, ⟨u117, rfl, Nq117, Kq117, P1170, P1171, P1172, P1173⟩, k117a⟩ := callC' X115 hx hZ (y := (⟨"strikebound/cli/InPlaceText", "<init>", "()V"⟩ : MethodName)) rfl hown (wq hw 10 rfl) (wq hw 11 rfl) (wq hw 12 rfl) (by decide) (backC (W := 1) (rm_ii l Z a0 hw b115 h115 n0 (by omega) A115 F115_chars F115_start F115_length (by omega) (by omega)) hZ (wq hw 12 rfl) (wq hw 9 rfl) (by decide) (by decide)) e115 (argsL := []) (rest := [(.ref b115)]) rfl rfl pd_6 rfl (by rw [hml]; rfl) (hb hby at_118) (Nat.le_of_eq rfl) (by decide) (by decide) k116
    have k117 : To p.tables e below S0 (T117.setTop (mkF m 121 l113 [(.ref b115)])) := k117a
    have N117 := N31.app Nq117
    obtain ⟨h117, e117⟩ : ∃ z, T117.heap = z := ⟨_, rfl⟩
    rw [e117] at Kq117 P1170 P1171 P1172 P1173
    have z117 : h115.size ≤ h117.size := Kq117.1
    have C117 := C115.trans (CHr.keep Kq117 (sfS (Safe.exa hZ.alike A115 (by decide) (by decide)) sf0) C115.1)
    let l118 : Array Slot := #[.val (.long p0), .second, .val (.int p2), .val (.int p3), .val (.int p4), .val (.ref b3), .val (.ref b24), .val (.int f), .val (.int e_), .val (.int (2 : Int32)), .val (.ref b115), .unset, .unset]
    have k119 : To p.tables e below S0 (T117.setTop (mkF m 129 l118 [(.int (3 : Int32)), (.int (1 : Int32)), (.ref b24), (.ref b115)])) := fun tt hq => k117 tt (by
      refine XS.astore X117.here hx rfl (hb hby at_121) rfl rfl (l' := l118) rfl ?_
      refine XS.aload X117.here hx rfl (hb hby at_123) rfl rfl ?_
      refine XS.aload X117.here hx rfl (hb hby at_125) rfl rfl ?_
      refine XS.iconst X117.here hx rfl (hb hby at_127) ?_
      refine XS.iconst X117.here hx rfl (hb hby at_128) ?_
      exact hq)
    obtain ⟨_, T120, L120, X120, ⟨rfl, Nq120, Kq120, P1200, P1201, P1202, P1203⟩, k120a⟩ := callV' X117 hx hZ (y := (⟨"strikebound/cli/InPlaceText", "set", "([CII)V"⟩ : MethodName)) (z := (⟨"strikebound/cli/InPlaceText", "set", "([CII)V"⟩ : MethodName)) hown (wq hw 18 rfl) (wq hw 19 rfl) (notFace_of_selects (args := #[]) (mvT hZ (wq hw 21 rfl))) (wq hw 21 rfl) (wq hw 20 rfl) (by decide) P1170 (backC (W := 0) (rm_set l Z a0 hw b115 b24 (1 : Int32) (3 : Int32) (2 : Int32) u117 (0 : Int32) (0 : Int32) h117 n0 (by omega) P1170 P1171 P1172 P1173 (by omega) (by decide)) hZ (wq hw 22 rfl) (wq hw 9 rfl) (by decide) (by decide)) e117 (argsL := [(.ref b24), (.int (1 : Int32)), (.int (3 : Int32))]) (rest := []) rfl rfl pd_7 rfl (by rw [hml]; rfl) (hb hby at_129) (Nat.le_of_eq rfl) (by decide) (by decide) k119
    have k120 : To p.tables e below S0 (T120.setTop (mkF m 132 l118 [])) := k120a
    have N120 := N117.app Nq120
    obtain ⟨h120, e120⟩ : ∃ z, T120.heap = z := ⟨_, rfl⟩
    rw [e120] at Kq120 P1200 P1201 P1202 P1203
    have z120 : h117.size ≤ h120.size := Kq120.1
    have C120 := C117.trans (CHr.keep Kq120 (sfS (Safe.exa hZ.alike P1170 (by decide) (by decide)) sf0) C117.1)
    have k121 : To p.tables e below S0 (T120.setTop (mkF m 140 l118 [(.int e_), (.int f), (.ref b3), (.ref b115)])) := fun tt hq => k120 tt (by
      refine XS.aload X120.here hx rfl (hb hby at_132) rfl rfl ?_
      refine XS.aload X120.here hx rfl (hb hby at_134) rfl rfl ?_
      refine XS.iload X120.here hx rfl (hb hby at_136) rfl ?_
      refine XS.iload X120.here hx rfl (hb hby at_138) rfl ?_
      exact hq)
    obtain ⟨_, T122, L122, X122, ⟨rfl, Nq122, Kq122, P1220, P1221, P1222, P1223⟩, k122a⟩ := callV' X120 hx hZ (y := (⟨"strikebound/cli/InPlaceText", "set", "([CII)V"⟩ : MethodName)) (z := (⟨"strikebound/cli/InPlaceText", "set", "([CII)V"⟩ : MethodName)) hown (wq hw 18 rfl) (wq hw 19 rfl) (notFace_of_selects (args := #[]) (mvT hZ (wq hw 21 rfl))) (wq hw 21 rfl) (wq hw 20 rfl) (by decide) P1200 (backC (W := 0) (rm_set l Z a0 hw b115 b3 f e_ (2 : Int32) b24 (1 : Int32) (2 : Int32) h120 n0 (by omega) P1200 P1201 P1202 P1203 (by omega) ht) hZ (wq hw 22 rfl) (wq hw 9 rfl) (by decide) (by decide)) e120 (argsL := [(.ref b3), (.int f), (.int e_)]) (rest := []) rfl rfl pd_7 rfl (by rw [hml]; rfl) (hb hby at_140) (Nat.le_of_eq rfl) (by decide) (by decide) k121
    have k122 : To p.tables e below S0 (T122.setTop (mkF m 143 l118 [])) := k122a
    have N122 := N120.app Nq122
    obtain ⟨h122, e122⟩ : ∃ z, T122.heap = z := ⟨_, rfl⟩
    rw [e122] at Kq122 P1220 P1221 P1222 P1223
    have z122 : h120.size ≤ h122.size := Kq122.1
    have C122 := C120.trans (CHr.keep Kq122 (sfS (Safe.exa hZ.alike P1200 (by decide) (by decide)) sf0) C120.1)
    have k123 : To p.tables e below S0 (T122.setTop (mkF m 145 l118 [(.ref b115)])) := fun tt hq => k122 tt (by
      refine XS.aload X122.here hx rfl (hb hby at_143) rfl rfl ?_
      exact hq)
    obtain ⟨_, T124, L124, X124, ⟨rfl, Nq124, eq124⟩, k124a⟩ := callV' X122 hx hZ (y := (⟨"strikebound/cli/InPlaceText", "array", "()[C"⟩ : MethodName)) (z := (⟨"strikebound/cli/InPlaceText", "array", "()[C"⟩ : MethodName)) hown (wq hw 27 rfl) (wq hw 28 rfl) (notFace_of_selects (args := #[]) (mvT hZ (wq hw 30 rfl))) (wq hw 30 rfl) (wq hw 29 rfl) (by decide) P1220 (backC (W := 0) (rm_garray l Z a0 hw b115 b3 h122 n0 (by omega) P1221) hZ (wq hw 31 rfl) (wq hw 9 rfl) (by decide) (by decide)) e122 (argsL := []) (rest := []) rfl rfl pd_8 rfl (by rw [hml]; rfl) (hb hby at_145) (Nat.le_of_eq rfl) (by decide) (by decide) k123
    have k124 : To p.tables e below S0 (T124.setTop (mkF m 148 l118 [(.ref b3)])) := k124a
    have N124 := N122.app Nq124
    have e124 : T124.heap = h122 := eq124
    have k125 : To p.tables e below S0 (T124.setTop (mkF m 157 l118 [(.ref b115)])) := fun tt hq => k124 tt (by
      refine XS.aload X124.here hx rfl (hb hby at_148) rfl rfl ?_
      refine Jvm.RoadKit.acmp (g := (mkF m 150 l118 [(.ref b3), (.ref b3)])) X124 hx rfl rfl rfl (pc0 := 150) (pc' := 155) (same := true) rfl (hb hby at_150) rfl (decide_eq_true rfl) (by decide) (by decide) ?_
      refine XS.aload X124.here hx rfl (hb hby at_155) rfl rfl ?_
      exact hq)
    obtain ⟨_, T126, L126, X126, ⟨rfl, Nq126, eq126⟩, k126a⟩ := callV' X124 hx hZ (y := (⟨"strikebound/cli/InPlaceText", "start", "()I"⟩ : MethodName)) (z := (⟨"strikebound/cli/InPlaceText", "start", "()I"⟩ : MethodName)) hown (wq hw 32 rfl) (wq hw 33 rfl) (notFace_of_selects (args := #[]) (mvT hZ (wq hw 35 rfl))) (wq hw 35 rfl) (wq hw 34 rfl) (by decide) P1220 (backC (W := 0) (rm_gstart l Z a0 hw b115 f h122 n0 (by omega) P1222) hZ (wq hw 36 rfl) (wq hw 9 rfl) (by decide) (by decide)) e124 (argsL := []) (rest := []) rfl rfl pd_9 rfl (by rw [hml]; rfl) (hb hby at_157) (Nat.le_of_eq rfl) (by decide) (by decide) k125
    have k126 : To p.tables e below S0 (T126.setTop (mkF m 160 l118 [(.int f)])) := k126a
    have N126 := N124.app Nq126
    have e126 : T126.heap = h122 := eq126
    have k127 : To p.tables e below S0 (T126.setTop (mkF m 169 l118 [(.ref b115)])) := fun tt hq => k126 tt (by
      refine XS.iload X126.here hx rfl (hb hby at_160) rfl ?_
      refine XS.icmpYes X126.here hx rfl (pc0 := 162) (pc' := 167) rfl (hb hby at_162) rfl (teq rfl).1 (by decide) (by decide) ?_
      refine XS.aload X126.here hx rfl (hb hby at_167) rfl rfl ?_
      exact hq)
    obtain ⟨_, T128, L128, X128, ⟨rfl, Nq128, eq128⟩, k128a⟩ := callV' X126 hx hZ (y := (⟨"strikebound/cli/InPlaceText", "length", "()I"⟩ : MethodName)) (z := (⟨"strikebound/cli/InPlaceText", "length", "()I"⟩ : MethodName)) hown (wq hw 37 rfl) (wq hw 38 rfl) (notFace_of_selects (args := #[]) (mvT hZ (wq hw 40 rfl))) (wq hw 40 rfl) (wq hw 39 rfl) (by decide) P1220 (backC (W := 0) (rm_glength l Z a0 hw b115 (2 : Int32) h122 n0 (by omega) P1223) hZ (wq hw 41 rfl) (wq hw 9 rfl) (by decide) (by decide)) e126 (argsL := []) (rest := []) rfl rfl pd_9 rfl (by rw [hml]; rfl) (hb hby at_169) (Nat.le_of_eq rfl) (by decide) (by decide) k127
    have k128 : To p.tables e below S0 (T128.setTop (mkF m 172 l118 [(.int (2 : Int32))])) := k128a
    have N128 := N126.app Nq128
    have e128 : T128.heap = h122 := eq128
    have k129 : To p.tables e below S0 (T128.setTop (mkF m 181 l118 [(.ref b115)])) := fun tt hq => k128 tt (by
      refine XS.iload X128.here hx rfl (hb hby at_172) rfl ?_
      refine XS.icmpYes X128.here hx rfl (pc0 := 174) (pc' := 179) rfl (hb hby at_174) rfl (teq (by decide)).1 (by decide) (by decide) ?_
      refine XS.aload X128.here hx rfl (hb hby at_179) rfl rfl ?_
      exact hq)
    have f130 : Old Z n0 h122 := (((((((((((((((O0.ext E3).wr W7 (by omega)).wr W10 (by omega)).wr W13 (by omega)).wr W16 (by omega)).wr W19 (by omega)).wr W22 (by omega)).ext E24).wr W27 (by omega)).wr W29 (by omega)).wr W31 (by omega)).ext E115).keep Kq117 (allS (by omega) all0)).keep Kq120 (allS (by omega) all0)).keep Kq122 (allS (by omega) all0))
    have f131 : Arv Z h122 b3 c3 .char (6 : Int32) [(.int r6), (.int r9), (.int r12), (.int r15), (.int r18), (.int r21)] (.int (0 : Int32)) := ((((((((V22.ext E24).other W27 (adr_ne (by omega))).other W29 (adr_ne (by omega))).other W31 (adr_ne (by omega))).ext E115).keep Kq117 (nin1 (by omega))).keep Kq120 (nin1 (by omega))).keep Kq122 (nin1 (by omega)))
    obtain ⟨_, T132, L132, X132, ⟨a132, t132, k132x, rfl, Nq132, ya132, yt132, Kq132, P1320, P1321, P1322, P1323⟩, k132a⟩ := callV' X128 hx hZ (y := (⟨"strikebound/cli/InPlaceText", "toString", "()Ljava/lang/String;"⟩ : MethodName)) (z := (⟨"strikebound/cli/InPlaceText", "toString", "()Ljava/lang/String;"⟩ : MethodName)) hown (wq hw 42 rfl) (wq hw 43 rfl) (notFace_of_selects (args := #[]) (mvT hZ (wq hw 45 rfl))) (wq hw 45 rfl) (wq hw 44 rfl) (by decide) P1220 (backC (W := 0) (rm_ts_2 l Z a0 hw zc fm b115 b3 c3 f r6 r9 r12 r15 r18 r21 h122 n0 (by omega) S_c hzc S_f hfm f130 P1220 P1221 P1222 P1223 f131 (by omega) hd HM (by rcases hd with rfl | rfl | rfl | rfl | rfl <;> decide) (by rcases hd with rfl | rfl | rfl | rfl | rfl <;> decide)) hZ (wq hw 46 rfl) (wq hw 9 rfl) (by decide) (by decide)) e128 (argsL := []) (rest := []) rfl rfl pd_12 rfl (by rw [hml]; rfl) (hb hby at_181) (Nat.le_of_eq rfl) (by decide) (by decide) k129
    have k132 : To p.tables e below S0 (T132.setTop (mkF m 184 l118 [(.ref a132)])) := k132a
    have N132 := N128.app Nq132
    obtain ⟨h132, e132⟩ : ∃ z, T132.heap = z := ⟨_, rfl⟩
    rw [e132] at Kq132 ya132 yt132 P1320 P1321 P1322 P1323
    have z132 : h122.size ≤ h132.size := Kq132.1
    have C132 := C122.trans (CHr.keep Kq132 sf0 C122.1)
    let l133 : Array Slot := #[.val (.long p0), .second, .val (.int p2), .val (.int p3), .val (.int p4), .val (.ref b3), .val (.ref b24), .val (.int f), .val (.int e_), .val (.int (2 : Int32)), .val (.ref b115), .val (.ref a132), .unset]
    have k134 : To p.tables e below S0 (T132.setTop (mkF m 188 l133 [(.ref a132)])) := fun tt hq => k132 tt (by
      refine XS.astore X132.here hx rfl (hb hby at_184) rfl rfl (l' := l133) rfl ?_
      refine XS.aload X132.here hx rfl (hb hby at_186) rfl rfl ?_
      exact hq)
    have f135 : Old Z n0 h132 := (f130.keep Kq132 all0)
    obtain ⟨_, T136, L136, X136, ⟨rfl, Nq136, eq136⟩, k136a⟩ := callV' X132 hx hZ (y := (⟨"java/lang/String", "length", "()I"⟩ : MethodName)) (z := (⟨"java/lang/String", "length", "()I"⟩ : MethodName)) hown (wq hw 85 rfl) (wq hw 86 rfl) (notFace_of_selects (args := #[]) (mvT hZ (wq hw 88 rfl))) (wq hw 88 rfl) (wq hw 87 rfl) (by decide) P1320 (backC (W := 0) (rm_len2 l Z a0 hw zc a132 t132 k132x (nar .byte ((own_at [r6, r9, r12, r15, r18, r21] f).toInt8.toInt32)) (nar .byte ((own_at [r6, r9, r12, r15, r18, r21] (f + (1 : Int32))).toInt8.toInt32)) h132 n0 (by omega) S_c hzc f135 P1320 P1321 P1322 P1323) hZ (wq hw 89 rfl) (wq hw 49 rfl) (by decide) (by decide)) e132 (argsL := []) (rest := []) rfl rfl pd_9 rfl (by rw [hml]; rfl) (hb hby at_188) (Nat.le_of_eq rfl) (by decide) (by decide) k134
    have k136 : To p.tables e below S0 (T136.setTop (mkF m 191 l133 [(.int (2 : Int32))])) := k136a
    have N136 := N132.app Nq136
    have e136 : T136.heap = h132 := eq136
    have k137 : To p.tables e below S0 (T136.setTop (mkF m 211 l133 [(.int ((p4 &&& (2147483647 : Int32)) % (2 : Int32)))])) := fun tt hq => k136 tt (by
      refine XS.iload X136.here hx rfl (hb hby at_191) rfl ?_
      refine XS.icmpYes X136.here hx rfl (pc0 := 193) (pc' := 198) rfl (hb hby at_193) rfl (teq (by decide)).1 (by decide) (by decide) ?_
      refine XS.iload X136.here hx rfl (hb hby at_198) rfl ?_
      refine XS.ifNo X136.here hx rfl (hb hby at_200) rfl ((if0 _ _).trans (tlt (by decide)).2.2.2) ?_
      refine XS.iload X136.here hx rfl (hb hby at_203) rfl ?_
      refine X136.ldcInt hx hown (mvT hZ (wq hw 6 rfl)) (g := (mkF m 205 l133 [(.int p4)])) rfl (hb hby at_205) _ ?_
      refine XS.iand X136.here hx rfl (hb hby at_207) rfl ?_
      refine XS.iload X136.here hx rfl (hb hby at_208) rfl ?_
      refine iremM X136 hx rfl (hb hby at_210) rfl (by decide) ?_
      exact hq)
    obtain ⟨ii, hii⟩ : ∃ z : Int32, z = ((p4 &&& (2147483647 : Int32)) % (2 : Int32)) := ⟨_, rfl⟩
    have k138 : To p.tables e below S0 (T136.setTop (mkF m 211 l133 [(.int ii)])) := by rw [hii]; exact k137
    have hI := own_r2 p4
    rw [← hii] at hI
    let l139 : Array Slot := #[.val (.long p0), .second, .val (.int p2), .val (.int p3), .val (.int p4), .val (.ref b3), .val (.ref b24), .val (.int f), .val (.int e_), .val (.int (2 : Int32)), .val (.ref b115), .val (.ref a132), .val (.int ii)]
    have k140 : To p.tables e below S0 (T136.setTop (mkF m 217 l139 [(.int ii), (.ref b115)])) := fun tt hq => k138 tt (by
      refine XS.istore X136.here hx rfl (hb hby at_211) rfl (l' := l139) rfl ?_
      refine XS.aload X136.here hx rfl (hb hby at_213) rfl rfl ?_
      refine XS.iload X136.here hx rfl (hb hby at_215) rfl ?_
      exact hq)
    have f141 : Exa Z h132 b115 "strikebound/cli/InPlaceText" := (P1220.keep Kq132)
    have f142 : Fld Z h132 b115 "strikebound/cli/InPlaceText" "chars" "[C" (.ref b3) := (P1221.keep Kq132 nin0)
    have f143 : Fld Z h132 b115 "strikebound/cli/InPlaceText" "start" "I" (.int f) := (P1222.keep Kq132 nin0)
    have f144 : Fld Z h132 b115 "strikebound/cli/InPlaceText" "length" "I" (.int (2 : Int32)) := (P1223.keep Kq132 nin0)
    have f145 : Arv Z h132 b3 c3 .char (6 : Int32) [(.int r6), (.int r9), (.int r12), (.int r15), (.int r18), (.int r21)] (.int (0 : Int32)) := (f131.keep Kq132 nin0)
    obtain ⟨_, T146, L146, X146, ⟨rfl, Nq146, eq146⟩, k146a⟩ := callV' X136 hx hZ (y := (⟨"strikebound/cli/InPlaceText", "charAt", "(I)C"⟩ : MethodName)) (z := (⟨"strikebound/cli/InPlaceText", "charAt", "(I)C"⟩ : MethodName)) hown (wq hw 95 rfl) (wq hw 96 rfl) (notFace_of_selects (args := #[]) (mvT hZ (wq hw 98 rfl))) (wq hw 98 rfl) (wq hw 97 rfl) (by decide) f141 (backC (W := 0) (rm_ica l Z a0 hw b115 b3 c3 f r6 r9 r12 r15 r18 r21 (2 : Int32) ii h132 n0 (by omega) f141 f142 f143 f144 f145 HM (by rcases hd with rfl | rfl | rfl | rfl | rfl <;> rcases hI with rfl | rfl <;> decide) (by rcases hI with rfl | rfl <;> decide) (by rcases hI with rfl | rfl <;> decide)) hZ (wq hw 99 rfl) (wq hw 9 rfl) (by decide) (by decide)) e136 (argsL := [(.int ii)]) (rest := []) rfl rfl pd_16 rfl (by rw [hml]; rfl) (hb hby at_217) (Nat.le_of_eq rfl) (by decide) (by decide) k140
    have k146 : To p.tables e below S0 (T146.setTop (mkF m 220 l139 [(.int (own_at [r6, r9, r12, r15, r18, r21] (f + ii)))])) := k146a
    have N146 := N136.app Nq146
    have e146 : T146.heap = h132 := eq146
    have k147 : To p.tables e below S0 (T146.setTop (mkF m 227 l139 [(.int (f + ii)), (.ref b3), (.int (own_at [r6, r9, r12, r15, r18, r21] (f + ii)))])) := fun tt hq => k146 tt (by
      refine XS.aload X146.here hx rfl (hb hby at_220) rfl rfl ?_
      refine XS.iload X146.here hx rfl (hb hby at_222) rfl ?_
      refine XS.iload X146.here hx rfl (hb hby at_224) rfl ?_
      refine XS.iadd X146.here hx rfl (hb hby at_226) rfl ?_
      exact hq)
    obtain ⟨cl148, Ar148, -, S148, -, G148, -⟩ := id f145
    have hi148 := inb_of (j := (f + ii)) S148 (by rcases hd with rfl | rfl | rfl | rfl | rfl <;> rcases hI with rfl | rfl <;> decide)
    have st148 := fun tt => X146.caload hx (j := (f + ii)) (v := (.int (own_at [r6, r9, r12, r15, r18, r21] (f + ii)))) (by rw [e146]; exact Ar148.1) (State.isArrayOf_alike hZ.alike Ar148.2.1) Ar148.2.2 hi148 (G148.at hi148 (own_atv [r6, r9, r12, r15, r18, r21] (f + ii))) (g := (mkF m 227 l139 [(.int (f + ii)), (.ref b3), (.int (own_at [r6, r9, r12, r15, r18, r21] (f + ii)))])) rfl rfl (hb hby at_227) tt
    have k148 : To p.tables e below S0 (T146.setTop (mkF m 228 l139 [(.int (own_at [r6, r9, r12, r15, r18, r21] (f + ii))), (.int (own_at [r6, r9, r12, r15, r18, r21] (f + ii)))])) := fun tt hq => k147 tt (st148 tt hq)
    have k149 : To p.tables e below S0 (T146.setTop (mkF m 237 l139 [(.int ii), (.ref a132)])) := fun tt hq => k148 tt (by
      refine XS.icmpYes X146.here hx rfl (pc0 := 228) (pc' := 233) rfl (hb hby at_228) rfl (teq rfl).1 (by decide) (by decide) ?_
      refine XS.aload X146.here hx rfl (hb hby at_233) rfl rfl ?_
      refine XS.iload X146.here hx rfl (hb hby at_235) rfl ?_
      exact hq)
    obtain ⟨_, T150, L150, X150, ⟨rfl, Nq150, eq150⟩, k150a⟩ := callV' X146 hx hZ (y := (⟨"java/lang/String", "charAt", "(I)C"⟩ : MethodName)) (z := (⟨"java/lang/String", "charAt", "(I)C"⟩ : MethodName)) hown (wq hw 107 rfl) (wq hw 108 rfl) (notFace_of_selects (args := #[]) (mvT hZ (wq hw 110 rfl))) (wq hw 110 rfl) (wq hw 109 rfl) (by decide) P1320 (backC (W := 0) (rm_cs2 l Z a0 hw zc fm a132 t132 k132x (nar .byte ((own_at [r6, r9, r12, r15, r18, r21] f).toInt8.toInt32)) (nar .byte ((own_at [r6, r9, r12, r15, r18, r21] (f + (1 : Int32))).toInt8.toInt32)) ii (own_at [r6, r9, r12, r15, r18, r21] (f + ii)) h132 n0 (by omega) S_c hzc S_f hfm f135 P1320 P1321 P1322 P1323 (by rcases hI with rfl | rfl <;> decide) (by rcases hI with rfl | rfl <;> decide) (by rcases hd with rfl | rfl | rfl | rfl | rfl <;> rcases hI with rfl | rfl <;> exact own_b255 (HM _))) hZ (wq hw 111 rfl) (wq hw 49 rfl) (by decide) (by decide)) e146 (argsL := [(.int ii)]) (rest := []) rfl rfl pd_16 rfl (by rw [hml]; rfl) (hb hby at_237) (Nat.le_of_eq rfl) (by decide) (by decide) k149
    have k150 : To p.tables e below S0 (T150.setTop (mkF m 240 l139 [(.int (own_at [r6, r9, r12, r15, r18, r21] (f + ii)))])) := k150a
    have N150 := N146.app Nq150
    have e150 : T150.heap = h132 := eq150
    have k151 : To p.tables e below S0 (T150.setTop (mkF m 247 l139 [(.int (f + ii)), (.ref b3), (.int (own_at [r6, r9, r12, r15, r18, r21] (f + ii)))])) := fun tt hq => k150 tt (by
      refine XS.aload X150.here hx rfl (hb hby at_240) rfl rfl ?_
      refine XS.iload X150.here hx rfl (hb hby at_242) rfl ?_
      refine XS.iload X150.here hx rfl (hb hby at_244) rfl ?_
      refine XS.iadd X150.here hx rfl (hb hby at_246) rfl ?_
      exact hq)
    obtain ⟨cl152, Ar152, -, S152, -, G152, -⟩ := id f145
    have hi152 := inb_of (j := (f + ii)) S152 (by rcases hd with rfl | rfl | rfl | rfl | rfl <;> rcases hI with rfl | rfl <;> decide)
    have st152 := fun tt => X150.caload hx (j := (f + ii)) (v := (.int (own_at [r6, r9, r12, r15, r18, r21] (f + ii)))) (by rw [e150]; exact Ar152.1) (State.isArrayOf_alike hZ.alike Ar152.2.1) Ar152.2.2 hi152 (G152.at hi152 (own_atv [r6, r9, r12, r15, r18, r21] (f + ii))) (g := (mkF m 247 l139 [(.int (f + ii)), (.ref b3), (.int (own_at [r6, r9, r12, r15, r18, r21] (f + ii)))])) rfl rfl (hb hby at_247) tt
    have k152 : To p.tables e below S0 (T150.setTop (mkF m 248 l139 [(.int (own_at [r6, r9, r12, r15, r18, r21] (f + ii))), (.int (own_at [r6, r9, r12, r15, r18, r21] (f + ii)))])) := fun tt hq => k151 tt (st152 tt hq)
    have k153 : To p.tables e below S0 (T150.setTop (mkF m 259 l139 [(.int (1 : Int32)), (.ref a132)])) := fun tt hq => k152 tt (by
      refine XS.icmpYes X150.here hx rfl (pc0 := 248) (pc' := 253) rfl (hb hby at_248) rfl (teq rfl).1 (by decide) (by decide) ?_
      refine XS.aload X150.here hx rfl (hb hby at_253) rfl rfl ?_
      refine XS.iload X150.here hx rfl (hb hby at_255) rfl ?_
      refine XS.iconst X150.here hx rfl (hb hby at_257) ?_
      refine XS.isub X150.here hx rfl (hb hby at_258) rfl ?_
      exact hq)
    obtain ⟨_, T154, L154, X154, ⟨rfl, Nq154, eq154⟩, k154a⟩ := callV' X150 hx hZ (y := (⟨"java/lang/String", "charAt", "(I)C"⟩ : MethodName)) (z := (⟨"java/lang/String", "charAt", "(I)C"⟩ : MethodName)) hown (wq hw 107 rfl) (wq hw 108 rfl) (notFace_of_selects (args := #[]) (mvT hZ (wq hw 110 rfl))) (wq hw 110 rfl) (wq hw 109 rfl) (by decide) P1320 (backC (W := 0) (rm_cs2 l Z a0 hw zc fm a132 t132 k132x (nar .byte ((own_at [r6, r9, r12, r15, r18, r21] f).toInt8.toInt32)) (nar .byte ((own_at [r6, r9, r12, r15, r18, r21] (f + (1 : Int32))).toInt8.toInt32)) (1 : Int32) (own_at [r6, r9, r12, r15, r18, r21] (f + (1 : Int32))) h132 n0 (by omega) S_c hzc S_f hfm f135 P1320 P1321 P1322 P1323 (by decide) (by decide) (own_b255 (HM _))) hZ (wq hw 111 rfl) (wq hw 49 rfl) (by decide) (by decide)) e150 (argsL := [(.int (1 : Int32))]) (rest := []) rfl rfl pd_16 rfl (by rw [hml]; rfl) (hb hby at_259) (Nat.le_of_eq rfl) (by decide) (by decide) k153
    have k154 : To p.tables e below S0 (T154.setTop (mkF m 262 l139 [(.int (own_at [r6, r9, r12, r15, r18, r21] (f + (1 : Int32))))])) := k154a
    have N154 := N150.app Nq154
    have e154 : T154.heap = h132 := eq154
    have k155 : To p.tables e below S0 (T154.setTop (mkF m 268 l139 [(.int (e_ - (1 : Int32))), (.ref b3), (.int (own_at [r6, r9, r12, r15, r18, r21] (f + (1 : Int32))))])) := fun tt hq => k154 tt (by
      refine XS.aload X154.here hx rfl (hb hby at_262) rfl rfl ?_
      refine XS.iload X154.here hx rfl (hb hby at_264) rfl ?_
      refine XS.iconst X154.here hx rfl (hb hby at_266) ?_
      refine XS.isub X154.here hx rfl (hb hby at_267) rfl ?_
      exact hq)
    obtain ⟨cl156, Ar156, -, S156, -, G156, -⟩ := id f145
    have hi156 := inb_of (j := (e_ - (1 : Int32))) S156 (by rw [own_sub ht]; rcases hd with rfl | rfl | rfl | rfl | rfl <;> decide)
    have st156 := fun tt => X154.caload hx (j := (e_ - (1 : Int32))) (v := (.int (own_at [r6, r9, r12, r15, r18, r21] (e_ - (1 : Int32))))) (by rw [e154]; exact Ar156.1) (State.isArrayOf_alike hZ.alike Ar156.2.1) Ar156.2.2 hi156 (G156.at hi156 (own_atv [r6, r9, r12, r15, r18, r21] (e_ - (1 : Int32)))) (g := (mkF m 268 l139 [(.int (e_ - (1 : Int32))), (.ref b3), (.int (own_at [r6, r9, r12, r15, r18, r21] (f + (1 : Int32))))])) rfl rfl (hb hby at_268) tt
    have k156 : To p.tables e below S0 (T154.setTop (mkF m 269 l139 [(.int (own_at [r6, r9, r12, r15, r18, r21] (e_ - (1 : Int32)))), (.int (own_at [r6, r9, r12, r15, r18, r21] (f + (1 : Int32))))])) := fun tt hq => k155 tt (st156 tt hq)
    by_cases hc269_157 : (own_at [r6, r9, r12, r15, r18, r21] (f + (1 : Int32))) = (own_at [r6, r9, r12, r15, r18, r21] (e_ - (1 : Int32)))
    · -- pc 269, holds
      have k158 : To p.tables e below S0 (T154.setTop (mkF m 275 l139 [(.int (1 : Int32))])) := fun tt hq => k156 tt (by
        refine XS.icmpYes X154.here hx rfl (pc0 := 269) (pc' := 274) rfl (hb hby at_269) rfl (teq hc269_157).1 (by decide) (by decide) ?_
        refine XS.iconst X154.here hx rfl (hb hby at_274) ?_
        exact hq)
      refine retIntW X154 hx hZ (own_EW hw) hS0 (by omega) C132 e154 hret hlk (by simp) rfl (hb hby at_275) k158 ?_ (by decide) (by decide)
      exact ⟨rfl, N154⟩
    · -- pc 269, holds not
      exact absurd (by rw [own_sub ht]; rcases hd with rfl | rfl | rfl | rfl | rfl <;> rfl) hc269_157
  · -- the length 3
    have k159 : To p.tables e below S0 (T31.setTop (mkF m 112 l37 [(.int (3 : Int32))])) := by have hq := k38; rw [ht] at hq; exact hq
    let l160 : Array Slot := #[.val (.long p0), .second, .val (.int p2), .val (.int p3), .val (.int p4), .val (.ref b3), .val (.ref b24), .val (.int f), .val (.int e_), .val (.int (3 : Int32)), .unset, .unset, .unset]
    have k161 : To p.tables e below S0 (T31.setTop (mkF m 114 l160 [])) := fun tt hq => k159 tt (by
      refine XS.istore X31.here hx rfl (hb hby at_112) rfl (l' := l160) rfl ?_
      exact hq)
    obtain ⟨T162, h162, X162, e162, E162, A162, D162, -, st162⟩ := newO X31 hx hZ hown (wq hw 7 rfl) (wq hw 8 rfl) (wq hw 9 rfl) e31 (g := (mkF m 114 l160 [])) rfl (hb hby at_114) (by decide) (by decide)
    obtain ⟨b162, g162⟩ : ∃ z, z = h31.size := ⟨_, rfl⟩
    rw [← g162] at A162 D162 st162
    have k162 : To p.tables e below S0 (T162.setTop (mkF m 117 l160 [(.ref b162)])) := fun tt hq => k161 tt (st162 tt hq)
    have z162 : h31.size ≤ h162.size := E162.1
    have y162 : @LT.lt Nat instLTNat b162 h162.size := A162.lt
    have C162 := C31.trans (CHr.ext E162 C31.1)
    have F162_chars : Fld Z h162 b162 "strikebound/cli/InPlaceText" "chars" "[C" .null := D162 (Or.inl (wq hw 17 rfl)) (ty := (.array .char)) (by decide)
    have F162_start : Fld Z h162 b162 "strikebound/cli/InPlaceText" "start" "I" (.int (0 : Int32)) := D162 (Or.inl (wq hw 24 rfl)) (ty := .int) (by decide)
    have F162_length : Fld Z h162 b162 "strikebound/cli/InPlaceText" "length" "I" (.int (0 : Int32)) := D162 (Or.inl (wq hw 26 rfl)) (ty := .int) (by decide)
    have k163 : To p.tables e below S0 (T162.setTop (mkF m 118 l160 [(.ref b162), (.ref b162)])) := fun tt hq => k162 tt (by
      refine XS.dup X162.here hx rfl (hb hby at_117) rfl rfl ?_
      exact hq)
    obtain ⟨_, T164, L164, X164, ⟨u164, rfl, Nq164, Kq164, P1640, P1641, P1642, P1643⟩, k164a⟩ := callC' X162 hx hZ (y := (⟨"strikebound/cli/InPlaceText", "<init>", "()V"⟩ : MethodName)) rfl hown (wq hw 10 rfl) (wq hw 11 rfl) (wq hw 12 rfl) (by decide) (backC (W := 1) (rm_ii l Z a0 hw b162 h162 n0 (by omega) A162 F162_chars F162_start F162_length (by omega) (by omega)) hZ (wq hw 12 rfl) (wq hw 9 rfl) (by decide) (by decide)) e162 (argsL := []) (rest := [(.ref b162)]) rfl rfl pd_6 rfl (by rw [hml]; rfl) (hb hby at_118) (Nat.le_of_eq rfl) (by decide) (by decide) k163
    have k164 : To p.tables e below S0 (T164.setTop (mkF m 121 l160 [(.ref b162)])) := k164a
    have N164 := N31.app Nq164
    obtain ⟨h164, e164⟩ : ∃ z, T164.heap = z := ⟨_, rfl⟩
    rw [e164] at Kq164 P1640 P1641 P1642 P1643
    have z164 : h162.size ≤ h164.size := Kq164.1
    have C164 := C162.trans (CHr.keep Kq164 (sfS (Safe.exa hZ.alike A162 (by decide) (by decide)) sf0) C162.1)
    let l165 : Array Slot := #[.val (.long p0), .second, .val (.int p2), .val (.int p3), .val (.int p4), .val (.ref b3), .val (.ref b24), .val (.int f), .val (.int e_), .val (.int (3 : Int32)), .val (.ref b162), .unset, .unset]
    have k166 : To p.tables e below S0 (T164.setTop (mkF m 129 l165 [(.int (3 : Int32)), (.int (1 : Int32)), (.ref b24), (.ref b162)])) := fun tt hq => k164 tt (by
      refine XS.astore X164.here hx rfl (hb hby at_121) rfl rfl (l' := l165) rfl ?_
      refine XS.aload X164.here hx rfl (hb hby at_123) rfl rfl ?_
      refine XS.aload X164.here hx rfl (hb hby at_125) rfl rfl ?_
      refine XS.iconst X164.here hx rfl (hb hby at_127) ?_
      refine XS.iconst X164.here hx rfl (hb hby at_128) ?_
      exact hq)
    obtain ⟨_, T167, L167, X167, ⟨rfl, Nq167, Kq167, P1670, P1671, P1672, P1673⟩, k167a⟩ := callV' X164 hx hZ (y := (⟨"strikebound/cli/InPlaceText", "set", "([CII)V"⟩ : MethodName)) (z := (⟨"strikebound/cli/InPlaceText", "set", "([CII)V"⟩ : MethodName)) hown (wq hw 18 rfl) (wq hw 19 rfl) (notFace_of_selects (args := #[]) (mvT hZ (wq hw 21 rfl))) (wq hw 21 rfl) (wq hw 20 rfl) (by decide) P1640 (backC (W := 0) (rm_set l Z a0 hw b162 b24 (1 : Int32) (3 : Int32) (2 : Int32) u164 (0 : Int32) (0 : Int32) h164 n0 (by omega) P1640 P1641 P1642 P1643 (by omega) (by decide)) hZ (wq hw 22 rfl) (wq hw 9 rfl) (by decide) (by decide)) e164 (argsL := [(.ref b24), (.int (1 : Int32)), (.int (3 : Int32))]) (rest := []) rfl rfl pd_7 rfl (by rw [hml]; rfl) (hb hby at_129) (Nat.le_of_eq rfl) (by decide) (by decide) k166
    have k167 : To p.tables e below S0 (T167.setTop (mkF m 132 l165 [])) := k167a
    have N167 := N164.app Nq167
    obtain ⟨h167, e167⟩ : ∃ z, T167.heap = z := ⟨_, rfl⟩
    rw [e167] at Kq167 P1670 P1671 P1672 P1673
    have z167 : h164.size ≤ h167.size := Kq167.1
    have C167 := C164.trans (CHr.keep Kq167 (sfS (Safe.exa hZ.alike P1640 (by decide) (by decide)) sf0) C164.1)
    have k168 : To p.tables e below S0 (T167.setTop (mkF m 140 l165 [(.int e_), (.int f), (.ref b3), (.ref b162)])) := fun tt hq => k167 tt (by
      refine XS.aload X167.here hx rfl (hb hby at_132) rfl rfl ?_
      refine XS.aload X167.here hx rfl (hb hby at_134) rfl rfl ?_
      refine XS.iload X167.here hx rfl (hb hby at_136) rfl ?_
      refine XS.iload X167.here hx rfl (hb hby at_138) rfl ?_
      exact hq)
    obtain ⟨_, T169, L169, X169, ⟨rfl, Nq169, Kq169, P1690, P1691, P1692, P1693⟩, k169a⟩ := callV' X167 hx hZ (y := (⟨"strikebound/cli/InPlaceText", "set", "([CII)V"⟩ : MethodName)) (z := (⟨"strikebound/cli/InPlaceText", "set", "([CII)V"⟩ : MethodName)) hown (wq hw 18 rfl) (wq hw 19 rfl) (notFace_of_selects (args := #[]) (mvT hZ (wq hw 21 rfl))) (wq hw 21 rfl) (wq hw 20 rfl) (by decide) P1670 (backC (W := 0) (rm_set l Z a0 hw b162 b3 f e_ (3 : Int32) b24 (1 : Int32) (2 : Int32) h167 n0 (by omega) P1670 P1671 P1672 P1673 (by omega) ht) hZ (wq hw 22 rfl) (wq hw 9 rfl) (by decide) (by decide)) e167 (argsL := [(.ref b3), (.int f), (.int e_)]) (rest := []) rfl rfl pd_7 rfl (by rw [hml]; rfl) (hb hby at_140) (Nat.le_of_eq rfl) (by decide) (by decide) k168
    have k169 : To p.tables e below S0 (T169.setTop (mkF m 143 l165 [])) := k169a
    have N169 := N167.app Nq169
    obtain ⟨h169, e169⟩ : ∃ z, T169.heap = z := ⟨_, rfl⟩
    rw [e169] at Kq169 P1690 P1691 P1692 P1693
    have z169 : h167.size ≤ h169.size := Kq169.1
    have C169 := C167.trans (CHr.keep Kq169 (sfS (Safe.exa hZ.alike P1670 (by decide) (by decide)) sf0) C167.1)
    have k170 : To p.tables e below S0 (T169.setTop (mkF m 145 l165 [(.ref b162)])) := fun tt hq => k169 tt (by
      refine XS.aload X169.here hx rfl (hb hby at_143) rfl rfl ?_
      exact hq)
    obtain ⟨_, T171, L171, X171, ⟨rfl, Nq171, eq171⟩, k171a⟩ := callV' X169 hx hZ (y := (⟨"strikebound/cli/InPlaceText", "array", "()[C"⟩ : MethodName)) (z := (⟨"strikebound/cli/InPlaceText", "array", "()[C"⟩ : MethodName)) hown (wq hw 27 rfl) (wq hw 28 rfl) (notFace_of_selects (args := #[]) (mvT hZ (wq hw 30 rfl))) (wq hw 30 rfl) (wq hw 29 rfl) (by decide) P1690 (backC (W := 0) (rm_garray l Z a0 hw b162 b3 h169 n0 (by omega) P1691) hZ (wq hw 31 rfl) (wq hw 9 rfl) (by decide) (by decide)) e169 (argsL := []) (rest := []) rfl rfl pd_8 rfl (by rw [hml]; rfl) (hb hby at_145) (Nat.le_of_eq rfl) (by decide) (by decide) k170
    have k171 : To p.tables e below S0 (T171.setTop (mkF m 148 l165 [(.ref b3)])) := k171a
    have N171 := N169.app Nq171
    have e171 : T171.heap = h169 := eq171
    have k172 : To p.tables e below S0 (T171.setTop (mkF m 157 l165 [(.ref b162)])) := fun tt hq => k171 tt (by
      refine XS.aload X171.here hx rfl (hb hby at_148) rfl rfl ?_
      refine Jvm.RoadKit.acmp (g := (mkF m 150 l165 [(.ref b3), (.ref b3)])) X171 hx rfl rfl rfl (pc0 := 150) (pc' := 155) (same := true) rfl (hb hby at_150) rfl (decide_eq_true rfl) (by decide) (by decide) ?_
      refine XS.aload X171.here hx rfl (hb hby at_155) rfl rfl ?_
      exact hq)
    obtain ⟨_, T173, L173, X173, ⟨rfl, Nq173, eq173⟩, k173a⟩ := callV' X171 hx hZ (y := (⟨"strikebound/cli/InPlaceText", "start", "()I"⟩ : MethodName)) (z := (⟨"strikebound/cli/InPlaceText", "start", "()I"⟩ : MethodName)) hown (wq hw 32 rfl) (wq hw 33 rfl) (notFace_of_selects (args := #[]) (mvT hZ (wq hw 35 rfl))) (wq hw 35 rfl) (wq hw 34 rfl) (by decide) P1690 (backC (W := 0) (rm_gstart l Z a0 hw b162 f h169 n0 (by omega) P1692) hZ (wq hw 36 rfl) (wq hw 9 rfl) (by decide) (by decide)) e171 (argsL := []) (rest := []) rfl rfl pd_9 rfl (by rw [hml]; rfl) (hb hby at_157) (Nat.le_of_eq rfl) (by decide) (by decide) k172
    have k173 : To p.tables e below S0 (T173.setTop (mkF m 160 l165 [(.int f)])) := k173a
    have N173 := N171.app Nq173
    have e173 : T173.heap = h169 := eq173
    have k174 : To p.tables e below S0 (T173.setTop (mkF m 169 l165 [(.ref b162)])) := fun tt hq => k173 tt (by
      refine XS.iload X173.here hx rfl (hb hby at_160) rfl ?_
      refine XS.icmpYes X173.here hx rfl (pc0 := 162) (pc' := 167) rfl (hb hby at_162) rfl (teq rfl).1 (by decide) (by decide) ?_
      refine XS.aload X173.here hx rfl (hb hby at_167) rfl rfl ?_
      exact hq)
    obtain ⟨_, T175, L175, X175, ⟨rfl, Nq175, eq175⟩, k175a⟩ := callV' X173 hx hZ (y := (⟨"strikebound/cli/InPlaceText", "length", "()I"⟩ : MethodName)) (z := (⟨"strikebound/cli/InPlaceText", "length", "()I"⟩ : MethodName)) hown (wq hw 37 rfl) (wq hw 38 rfl) (notFace_of_selects (args := #[]) (mvT hZ (wq hw 40 rfl))) (wq hw 40 rfl) (wq hw 39 rfl) (by decide) P1690 (backC (W := 0) (rm_glength l Z a0 hw b162 (3 : Int32) h169 n0 (by omega) P1693) hZ (wq hw 41 rfl) (wq hw 9 rfl) (by decide) (by decide)) e173 (argsL := []) (rest := []) rfl rfl pd_9 rfl (by rw [hml]; rfl) (hb hby at_169) (Nat.le_of_eq rfl) (by decide) (by decide) k174
    have k175 : To p.tables e below S0 (T175.setTop (mkF m 172 l165 [(.int (3 : Int32))])) := k175a
    have N175 := N173.app Nq175
    have e175 : T175.heap = h169 := eq175
    have k176 : To p.tables e below S0 (T175.setTop (mkF m 181 l165 [(.ref b162)])) := fun tt hq => k175 tt (by
      refine XS.iload X175.here hx rfl (hb hby at_172) rfl ?_
      refine XS.icmpYes X175.here hx rfl (pc0 := 174) (pc' := 179) rfl (hb hby at_174) rfl (teq (by decide)).1 (by decide) (by decide) ?_
      refine XS.aload X175.here hx rfl (hb hby at_179) rfl rfl ?_
      exact hq)
    have f177 : Old Z n0 h169 := (((((((((((((((O0.ext E3).wr W7 (by omega)).wr W10 (by omega)).wr W13 (by omega)).wr W16 (by omega)).wr W19 (by omega)).wr W22 (by omega)).ext E24).wr W27 (by omega)).wr W29 (by omega)).wr W31 (by omega)).ext E162).keep Kq164 (allS (by omega) all0)).keep Kq167 (allS (by omega) all0)).keep Kq169 (allS (by omega) all0))
    have f178 : Arv Z h169 b3 c3 .char (6 : Int32) [(.int r6), (.int r9), (.int r12), (.int r15), (.int r18), (.int r21)] (.int (0 : Int32)) := ((((((((V22.ext E24).other W27 (adr_ne (by omega))).other W29 (adr_ne (by omega))).other W31 (adr_ne (by omega))).ext E162).keep Kq164 (nin1 (by omega))).keep Kq167 (nin1 (by omega))).keep Kq169 (nin1 (by omega)))
    obtain ⟨_, T179, L179, X179, ⟨a179, t179, k179x, rfl, Nq179, ya179, yt179, Kq179, P1790, P1791, P1792, P1793⟩, k179a⟩ := callV' X175 hx hZ (y := (⟨"strikebound/cli/InPlaceText", "toString", "()Ljava/lang/String;"⟩ : MethodName)) (z := (⟨"strikebound/cli/InPlaceText", "toString", "()Ljava/lang/String;"⟩ : MethodName)) hown (wq hw 42 rfl) (wq hw 43 rfl) (notFace_of_selects (args := #[]) (mvT hZ (wq hw 45 rfl))) (wq hw 45 rfl) (wq hw 44 rfl) (by decide) P1690 (backC (W := 0) (rm_ts_3 l Z a0 hw zc fm b162 b3 c3 f r6 r9 r12 r15 r18 r21 h169 n0 (by omega) S_c hzc S_f hfm f177 P1690 P1691 P1692 P1693 f178 (by omega) hd HM (by rcases hd with rfl | rfl | rfl | rfl <;> decide) (by rcases hd with rfl | rfl | rfl | rfl <;> decide)) hZ (wq hw 46 rfl) (wq hw 9 rfl) (by decide) (by decide)) e175 (argsL := []) (rest := []) rfl rfl pd_12 rfl (by rw [hml]; rfl) (hb hby at_181) (Nat.le_of_eq rfl) (by decide) (by decide) k176
    have k179 : To p.tables e below S0 (T179.setTop (mkF m 184 l165 [(.ref a179)])) := k179a
    have N179 := N175.app Nq179
    obtain ⟨h179, e179⟩ : ∃ z, T179.heap = z := ⟨_, rfl⟩
    rw [e179] at Kq179 ya179 yt179 P1790 P1791 P1792 P1793
    have z179 : h169.size ≤ h179.size := Kq179.1
    have C179 := C169.trans (CHr.keep Kq179 sf0 C169.1)
    let l180 : Array Slot := #[.val (.long p0), .second, .val (.int p2), .val (.int p3), .val (.int p4), .val (.ref b3), .val (.ref b24), .val (.int f), .val (.int e_), .val (.int (3 : Int32)), .val (.ref b162), .val (.ref a179), .unset]
    have k181 : To p.tables e below S0 (T179.setTop (mkF m 188 l180 [(.ref a179)])) := fun tt hq => k179 tt (by
      refine XS.astore X179.here hx rfl (hb hby at_184) rfl rfl (l' := l180) rfl ?_
      refine XS.aload X179.here hx rfl (hb hby at_186) rfl rfl ?_
      exact hq)
    have f182 : Old Z n0 h179 := (f177.keep Kq179 all0)
    obtain ⟨_, T183, L183, X183, ⟨rfl, Nq183, eq183⟩, k183a⟩ := callV' X179 hx hZ (y := (⟨"java/lang/String", "length", "()I"⟩ : MethodName)) (z := (⟨"java/lang/String", "length", "()I"⟩ : MethodName)) hown (wq hw 85 rfl) (wq hw 86 rfl) (notFace_of_selects (args := #[]) (mvT hZ (wq hw 88 rfl))) (wq hw 88 rfl) (wq hw 87 rfl) (by decide) P1790 (backC (W := 0) (rm_len3 l Z a0 hw zc a179 t179 k179x (nar .byte ((own_at [r6, r9, r12, r15, r18, r21] f).toInt8.toInt32)) (nar .byte ((own_at [r6, r9, r12, r15, r18, r21] (f + (1 : Int32))).toInt8.toInt32)) (nar .byte ((own_at [r6, r9, r12, r15, r18, r21] ((f + (1 : Int32)) + (1 : Int32))).toInt8.toInt32)) h179 n0 (by omega) S_c hzc f182 P1790 P1791 P1792 P1793) hZ (wq hw 89 rfl) (wq hw 49 rfl) (by decide) (by decide)) e179 (argsL := []) (rest := []) rfl rfl pd_9 rfl (by rw [hml]; rfl) (hb hby at_188) (Nat.le_of_eq rfl) (by decide) (by decide) k181
    have k183 : To p.tables e below S0 (T183.setTop (mkF m 191 l180 [(.int (3 : Int32))])) := k183a
    have N183 := N179.app Nq183
    have e183 : T183.heap = h179 := eq183
    have k184 : To p.tables e below S0 (T183.setTop (mkF m 211 l180 [(.int ((p4 &&& (2147483647 : Int32)) % (3 : Int32)))])) := fun tt hq => k183 tt (by
      refine XS.iload X183.here hx rfl (hb hby at_191) rfl ?_
      refine XS.icmpYes X183.here hx rfl (pc0 := 193) (pc' := 198) rfl (hb hby at_193) rfl (teq (by decide)).1 (by decide) (by decide) ?_
      refine XS.iload X183.here hx rfl (hb hby at_198) rfl ?_
      refine XS.ifNo X183.here hx rfl (hb hby at_200) rfl ((if0 _ _).trans (tlt (by decide)).2.2.2) ?_
      refine XS.iload X183.here hx rfl (hb hby at_203) rfl ?_
      refine X183.ldcInt hx hown (mvT hZ (wq hw 6 rfl)) (g := (mkF m 205 l180 [(.int p4)])) rfl (hb hby at_205) _ ?_
      refine XS.iand X183.here hx rfl (hb hby at_207) rfl ?_
      refine XS.iload X183.here hx rfl (hb hby at_208) rfl ?_
      refine iremM X183 hx rfl (hb hby at_210) rfl (by decide) ?_
      exact hq)
    obtain ⟨ii, hii⟩ : ∃ z : Int32, z = ((p4 &&& (2147483647 : Int32)) % (3 : Int32)) := ⟨_, rfl⟩
    have k185 : To p.tables e below S0 (T183.setTop (mkF m 211 l180 [(.int ii)])) := by rw [hii]; exact k184
    have hI := own_r3 p4
    rw [← hii] at hI
    let l186 : Array Slot := #[.val (.long p0), .second, .val (.int p2), .val (.int p3), .val (.int p4), .val (.ref b3), .val (.ref b24), .val (.int f), .val (.int e_), .val (.int (3 : Int32)), .val (.ref b162), .val (.ref a179), .val (.int ii)]
    have k187 : To p.tables e below S0 (T183.setTop (mkF m 217 l186 [(.int ii), (.ref b162)])) := fun tt hq => k185 tt (by
      refine XS.istore X183.here hx rfl (hb hby at_211) rfl (l' := l186) rfl ?_
      refine XS.aload X183.here hx rfl (hb hby at_213) rfl rfl ?_
      refine XS.iload X183.here hx rfl (hb hby at_215) rfl ?_
      exact hq)
    have f188 : Exa Z h179 b162 "strikebound/cli/InPlaceText" := (P1690.keep Kq179)
    have f189 : Fld Z h179 b162 "strikebound/cli/InPlaceText" "chars" "[C" (.ref b3) := (P1691.keep Kq179 nin0)
    have f190 : Fld Z h179 b162 "strikebound/cli/InPlaceText" "start" "I" (.int f) := (P1692.keep Kq179 nin0)
    have f191 : Fld Z h179 b162 "strikebound/cli/InPlaceText" "length" "I" (.int (3 : Int32)) := (P1693.keep Kq179 nin0)
    have f192 : Arv Z h179 b3 c3 .char (6 : Int32) [(.int r6), (.int r9), (.int r12), (.int r15), (.int r18), (.int r21)] (.int (0 : Int32)) := (f178.keep Kq179 nin0)
    obtain ⟨_, T193, L193, X193, ⟨rfl, Nq193, eq193⟩, k193a⟩ := callV' X183 hx hZ (y := (⟨"strikebound/cli/InPlaceText", "charAt", "(I)C"⟩ : MethodName)) (z := (⟨"strikebound/cli/InPlaceText", "charAt", "(I)C"⟩ : MethodName)) hown (wq hw 95 rfl) (wq hw 96 rfl) (notFace_of_selects (args := #[]) (mvT hZ (wq hw 98 rfl))) (wq hw 98 rfl) (wq hw 97 rfl) (by decide) f188 (backC (W := 0) (rm_ica l Z a0 hw b162 b3 c3 f r6 r9 r12 r15 r18 r21 (3 : Int32) ii h179 n0 (by omega) f188 f189 f190 f191 f192 HM (by rcases hd with rfl | rfl | rfl | rfl <;> rcases hI with rfl | rfl | rfl <;> decide) (by rcases hI with rfl | rfl | rfl <;> decide) (by rcases hI with rfl | rfl | rfl <;> decide)) hZ (wq hw 99 rfl) (wq hw 9 rfl) (by decide) (by decide)) e183 (argsL := [(.int ii)]) (rest := []) rfl rfl pd_16 rfl (by rw [hml]; rfl) (hb hby at_217) (Nat.le_of_eq rfl) (by decide) (by decide) k187
    have k193 : To p.tables e below S0 (T193.setTop (mkF m 220 l186 [(.int (own_at [r6, r9, r12, r15, r18, r21] (f + ii)))])) := k193a
    have N193 := N183.app Nq193
    have e193 : T193.heap = h179 := eq193
    have k194 : To p.tables e below S0 (T193.setTop (mkF m 227 l186 [(.int (f + ii)), (.ref b3), (.int (own_at [r6, r9, r12, r15, r18, r21] (f + ii)))])) := fun tt hq => k193 tt (by
      refine XS.aload X193.here hx rfl (hb hby at_220) rfl rfl ?_
      refine XS.iload X193.here hx rfl (hb hby at_222) rfl ?_
      refine XS.iload X193.here hx rfl (hb hby at_224) rfl ?_
      refine XS.iadd X193.here hx rfl (hb hby at_226) rfl ?_
      exact hq)
    obtain ⟨cl195, Ar195, -, S195, -, G195, -⟩ := id f192
    have hi195 := inb_of (j := (f + ii)) S195 (by rcases hd with rfl | rfl | rfl | rfl <;> rcases hI with rfl | rfl | rfl <;> decide)
    have st195 := fun tt => X193.caload hx (j := (f + ii)) (v := (.int (own_at [r6, r9, r12, r15, r18, r21] (f + ii)))) (by rw [e193]; exact Ar195.1) (State.isArrayOf_alike hZ.alike Ar195.2.1) Ar195.2.2 hi195 (G195.at hi195 (own_atv [r6, r9, r12, r15, r18, r21] (f + ii))) (g := (mkF m 227 l186 [(.int (f + ii)), (.ref b3), (.int (own_at [r6, r9, r12, r15, r18, r21] (f + ii)))])) rfl rfl (hb hby at_227) tt
    have k195 : To p.tables e below S0 (T193.setTop (mkF m 228 l186 [(.int (own_at [r6, r9, r12, r15, r18, r21] (f + ii))), (.int (own_at [r6, r9, r12, r15, r18, r21] (f + ii)))])) := fun tt hq => k194 tt (st195 tt hq)
    have k196 : To p.tables e below S0 (T193.setTop (mkF m 237 l186 [(.int ii), (.ref a179)])) := fun tt hq => k195 tt (by
      refine XS.icmpYes X193.here hx rfl (pc0 := 228) (pc' := 233) rfl (hb hby at_228) rfl (teq rfl).1 (by decide) (by decide) ?_
      refine XS.aload X193.here hx rfl (hb hby at_233) rfl rfl ?_
      refine XS.iload X193.here hx rfl (hb hby at_235) rfl ?_
      exact hq)
    obtain ⟨_, T197, L197, X197, ⟨rfl, Nq197, eq197⟩, k197a⟩ := callV' X193 hx hZ (y := (⟨"java/lang/String", "charAt", "(I)C"⟩ : MethodName)) (z := (⟨"java/lang/String", "charAt", "(I)C"⟩ : MethodName)) hown (wq hw 107 rfl) (wq hw 108 rfl) (notFace_of_selects (args := #[]) (mvT hZ (wq hw 110 rfl))) (wq hw 110 rfl) (wq hw 109 rfl) (by decide) P1790 (backC (W := 0) (rm_cs3 l Z a0 hw zc fm a179 t179 k179x (nar .byte ((own_at [r6, r9, r12, r15, r18, r21] f).toInt8.toInt32)) (nar .byte ((own_at [r6, r9, r12, r15, r18, r21] (f + (1 : Int32))).toInt8.toInt32)) (nar .byte ((own_at [r6, r9, r12, r15, r18, r21] ((f + (1 : Int32)) + (1 : Int32))).toInt8.toInt32)) ii (own_at [r6, r9, r12, r15, r18, r21] (f + ii)) h179 n0 (by omega) S_c hzc S_f hfm f182 P1790 P1791 P1792 P1793 (by rcases hI with rfl | rfl | rfl <;> decide) (by rcases hI with rfl | rfl | rfl <;> decide) (by rcases hd with rfl | rfl | rfl | rfl <;> rcases hI with rfl | rfl | rfl <;> exact own_b255 (HM _))) hZ (wq hw 111 rfl) (wq hw 49 rfl) (by decide) (by decide)) e193 (argsL := [(.int ii)]) (rest := []) rfl rfl pd_16 rfl (by rw [hml]; rfl) (hb hby at_237) (Nat.le_of_eq rfl) (by decide) (by decide) k196
    have k197 : To p.tables e below S0 (T197.setTop (mkF m 240 l186 [(.int (own_at [r6, r9, r12, r15, r18, r21] (f + ii)))])) := k197a
    have N197 := N193.app Nq197
    have e197 : T197.heap = h179 := eq197
    have k198 : To p.tables e below S0 (T197.setTop (mkF m 247 l186 [(.int (f + ii)), (.ref b3), (.int (own_at [r6, r9, r12, r15, r18, r21] (f + ii)))])) := fun tt hq => k197 tt (by
      refine XS.aload X197.here hx rfl (hb hby at_240) rfl rfl ?_
      refine XS.iload X197.here hx rfl (hb hby at_242) rfl ?_
      refine XS.iload X197.here hx rfl (hb hby at_244) rfl ?_
      refine XS.iadd X197.here hx rfl (hb hby at_246) rfl ?_
      exact hq)
    obtain ⟨cl199, Ar199, -, S199, -, G199, -⟩ := id f192
    have hi199 := inb_of (j := (f + ii)) S199 (by rcases hd with rfl | rfl | rfl | rfl <;> rcases hI with rfl | rfl | rfl <;> decide)
    have st199 := fun tt => X197.caload hx (j := (f + ii)) (v := (.int (own_at [r6, r9, r12, r15, r18, r21] (f + ii)))) (by rw [e197]; exact Ar199.1) (State.isArrayOf_alike hZ.alike Ar199.2.1) Ar199.2.2 hi199 (G199.at hi199 (own_atv [r6, r9, r12, r15, r18, r21] (f + ii))) (g := (mkF m 247 l186 [(.int (f + ii)), (.ref b3), (.int (own_at [r6, r9, r12, r15, r18, r21] (f + ii)))])) rfl rfl (hb hby at_247) tt
    have k199 : To p.tables e below S0 (T197.setTop (mkF m 248 l186 [(.int (own_at [r6, r9, r12, r15, r18, r21] (f + ii))), (.int (own_at [r6, r9, r12, r15, r18, r21] (f + ii)))])) := fun tt hq => k198 tt (st199 tt hq)
    have k200 : To p.tables e below S0 (T197.setTop (mkF m 259 l186 [(.int (2 : Int32)), (.ref a179)])) := fun tt hq => k199 tt (by
      refine XS.icmpYes X197.here hx rfl (pc0 := 248) (pc' := 253) rfl (hb hby at_248) rfl (teq rfl).1 (by decide) (by decide) ?_
      refine XS.aload X197.here hx rfl (hb hby at_253) rfl rfl ?_
      refine XS.iload X197.here hx rfl (hb hby at_255) rfl ?_
      refine XS.iconst X197.here hx rfl (hb hby at_257) ?_
      refine XS.isub X197.here hx rfl (hb hby at_258) rfl ?_
      exact hq)
    obtain ⟨_, T201, L201, X201, ⟨rfl, Nq201, eq201⟩, k201a⟩ := callV' X197 hx hZ (y := (⟨"java/lang/String", "charAt", "(I)C"⟩ : MethodName)) (z := (⟨"java/lang/String", "charAt", "(I)C"⟩ : MethodName)) hown (wq hw 107 rfl) (wq hw 108 rfl) (notFace_of_selects (args := #[]) (mvT hZ (wq hw 110 rfl))) (wq hw 110 rfl) (wq hw 109 rfl) (by decide) P1790 (backC (W := 0) (rm_cs3 l Z a0 hw zc fm a179 t179 k179x (nar .byte ((own_at [r6, r9, r12, r15, r18, r21] f).toInt8.toInt32)) (nar .byte ((own_at [r6, r9, r12, r15, r18, r21] (f + (1 : Int32))).toInt8.toInt32)) (nar .byte ((own_at [r6, r9, r12, r15, r18, r21] ((f + (1 : Int32)) + (1 : Int32))).toInt8.toInt32)) (2 : Int32) (own_at [r6, r9, r12, r15, r18, r21] ((f + (1 : Int32)) + (1 : Int32))) h179 n0 (by omega) S_c hzc S_f hfm f182 P1790 P1791 P1792 P1793 (by decide) (by decide) (own_b255 (HM _))) hZ (wq hw 111 rfl) (wq hw 49 rfl) (by decide) (by decide)) e197 (argsL := [(.int (2 : Int32))]) (rest := []) rfl rfl pd_16 rfl (by rw [hml]; rfl) (hb hby at_259) (Nat.le_of_eq rfl) (by decide) (by decide) k200
    have k201 : To p.tables e below S0 (T201.setTop (mkF m 262 l186 [(.int (own_at [r6, r9, r12, r15, r18, r21] ((f + (1 : Int32)) + (1 : Int32))))])) := k201a
    have N201 := N197.app Nq201
    have e201 : T201.heap = h179 := eq201
    have k202 : To p.tables e below S0 (T201.setTop (mkF m 268 l186 [(.int (e_ - (1 : Int32))), (.ref b3), (.int (own_at [r6, r9, r12, r15, r18, r21] ((f + (1 : Int32)) + (1 : Int32))))])) := fun tt hq => k201 tt (by
      refine XS.aload X201.here hx rfl (hb hby at_262) rfl rfl ?_
      refine XS.iload X201.here hx rfl (hb hby at_264) rfl ?_
      refine XS.iconst X201.here hx rfl (hb hby at_266) ?_
      refine XS.isub X201.here hx rfl (hb hby at_267) rfl ?_
      exact hq)
    obtain ⟨cl203, Ar203, -, S203, -, G203, -⟩ := id f192
    have hi203 := inb_of (j := (e_ - (1 : Int32))) S203 (by rw [own_sub ht]; rcases hd with rfl | rfl | rfl | rfl <;> decide)
    have st203 := fun tt => X201.caload hx (j := (e_ - (1 : Int32))) (v := (.int (own_at [r6, r9, r12, r15, r18, r21] (e_ - (1 : Int32))))) (by rw [e201]; exact Ar203.1) (State.isArrayOf_alike hZ.alike Ar203.2.1) Ar203.2.2 hi203 (G203.at hi203 (own_atv [r6, r9, r12, r15, r18, r21] (e_ - (1 : Int32)))) (g := (mkF m 268 l186 [(.int (e_ - (1 : Int32))), (.ref b3), (.int (own_at [r6, r9, r12, r15, r18, r21] ((f + (1 : Int32)) + (1 : Int32))))])) rfl rfl (hb hby at_268) tt
    have k203 : To p.tables e below S0 (T201.setTop (mkF m 269 l186 [(.int (own_at [r6, r9, r12, r15, r18, r21] (e_ - (1 : Int32)))), (.int (own_at [r6, r9, r12, r15, r18, r21] ((f + (1 : Int32)) + (1 : Int32))))])) := fun tt hq => k202 tt (st203 tt hq)
    by_cases hc269_204 : (own_at [r6, r9, r12, r15, r18, r21] ((f + (1 : Int32)) + (1 : Int32))) = (own_at [r6, r9, r12, r15, r18, r21] (e_ - (1 : Int32)))
    · -- pc 269, holds
      have k205 : To p.tables e below S0 (T201.setTop (mkF m 275 l186 [(.int (1 : Int32))])) := fun tt hq => k203 tt (by
        refine XS.icmpYes X201.here hx rfl (pc0 := 269) (pc' := 274) rfl (hb hby at_269) rfl (teq hc269_204).1 (by decide) (by decide) ?_
        refine XS.iconst X201.here hx rfl (hb hby at_274) ?_
        exact hq)
      refine retIntW X201 hx hZ (own_EW hw) hS0 (by omega) C179 e201 hret hlk (by simp) rfl (hb hby at_275) k205 ?_ (by decide) (by decide)
      exact ⟨rfl, N201⟩
    · -- pc 269, holds not
      exact absurd (by rw [own_sub ht]; rcases hd with rfl | rfl | rfl | rfl <;> rfl) hc269_204
  · -- the length 4
    have k206 : To p.tables e below S0 (T31.setTop (mkF m 112 l37 [(.int (4 : Int32))])) := by have hq := k38; rw [ht] at hq; exact hq
    let l207 : Array Slot := #[.val (.long p0), .second, .val (.int p2), .val (.int p3), .val (.int p4), .val (.ref b3), .val (.ref b24), .val (.int f), .val (.int e_), .val (.int (4 : Int32)), .unset, .unset, .unset]
    have k208 : To p.tables e below S0 (T31.setTop (mkF m 114 l207 [])) := fun tt hq => k206 tt (by
      refine XS.istore X31.here hx rfl (hb hby at_112) rfl (l' := l207) rfl ?_
      exact hq)
    obtain ⟨T209, h209, X209, e209, E209, A209, D209, -, st209⟩ := newO X31 hx hZ hown (wq hw 7 rfl) (wq hw 8 rfl) (wq hw 9 rfl) e31 (g := (mkF m 114 l207 [])) rfl (hb hby at_114) (by decide) (by decide)
    obtain ⟨b209, g209⟩ : ∃ z, z = h31.size := ⟨_, rfl⟩
    rw [← g209] at A209 D209 st209
    have k209 : To p.tables e below S0 (T209.setTop (mkF m 117 l207 [(.ref b209)])) := fun tt hq => k208 tt (st209 tt hq)
    have z209 : h31.size ≤ h209.size := E209.1
    have y209 : @LT.lt Nat instLTNat b209 h209.size := A209.lt
    have C209 := C31.trans (CHr.ext E209 C31.1)
    have F209_chars : Fld Z h209 b209 "strikebound/cli/InPlaceText" "chars" "[C" .null := D209 (Or.inl (wq hw 17 rfl)) (ty := (.array .char)) (by decide)
    have F209_start : Fld Z h209 b209 "strikebound/cli/InPlaceText" "start" "I" (.int (0 : Int32)) := D209 (Or.inl (wq hw 24 rfl)) (ty := .int) (by decide)
    have F209_length : Fld Z h209 b209 "strikebound/cli/InPlaceText" "length" "I" (.int (0 : Int32)) := D209 (Or.inl (wq hw 26 rfl)) (ty := .int) (by decide)
    have k210 : To p.tables e below S0 (T209.setTop (mkF m 118 l207 [(.ref b209), (.ref b209)])) := fun tt hq => k209 tt (by
      refine XS.dup X209.here hx rfl (hb hby at_117) rfl rfl ?_
      exact hq)
    obtain ⟨_, T211, L211, X211, ⟨u211, rfl, Nq211, Kq211, P2110, P2111, P2112, P2113⟩, k211a⟩ := callC' X209 hx hZ (y := (⟨"strikebound/cli/InPlaceText", "<init>", "()V"⟩ : MethodName)) rfl hown (wq hw 10 rfl) (wq hw 11 rfl) (wq hw 12 rfl) (by decide) (backC (W := 1) (rm_ii l Z a0 hw b209 h209 n0 (by omega) A209 F209_chars F209_start F209_length (by omega) (by omega)) hZ (wq hw 12 rfl) (wq hw 9 rfl) (by decide) (by decide)) e209 (argsL := []) (rest := [(.ref b209)]) rfl rfl pd_6 rfl (by rw [hml]; rfl) (hb hby at_118) (Nat.le_of_eq rfl) (by decide) (by decide) k210
    have k211 : To p.tables e below S0 (T211.setTop (mkF m 121 l207 [(.ref b209)])) := k211a
    have N211 := N31.app Nq211
    obtain ⟨h211, e211⟩ : ∃ z, T211.heap = z := ⟨_, rfl⟩
    rw [e211] at Kq211 P2110 P2111 P2112 P2113
    have z211 : h209.size ≤ h211.size := Kq211.1
    have C211 := C209.trans (CHr.keep Kq211 (sfS (Safe.exa hZ.alike A209 (by decide) (by decide)) sf0) C209.1)
    let l212 : Array Slot := #[.val (.long p0), .second, .val (.int p2), .val (.int p3), .val (.int p4), .val (.ref b3), .val (.ref b24), .val (.int f), .val (.int e_), .val (.int (4 : Int32)), .val (.ref b209), .unset, .unset]
    have k213 : To p.tables e below S0 (T211.setTop (mkF m 129 l212 [(.int (3 : Int32)), (.int (1 : Int32)), (.ref b24), (.ref b209)])) := fun tt hq => k211 tt (by
      refine XS.astore X211.here hx rfl (hb hby at_121) rfl rfl (l' := l212) rfl ?_
      refine XS.aload X211.here hx rfl (hb hby at_123) rfl rfl ?_
      refine XS.aload X211.here hx rfl (hb hby at_125) rfl rfl ?_
      refine XS.iconst X211.here hx rfl (hb hby at_127) ?_
      refine XS.iconst X211.here hx rfl (hb hby at_128) ?_
      exact hq)
    obtain ⟨_, T214, L214, X214, ⟨rfl, Nq214, Kq214, P2140, P2141, P2142, P2143⟩, k214a⟩ := callV' X211 hx hZ (y := (⟨"strikebound/cli/InPlaceText", "set", "([CII)V"⟩ : MethodName)) (z := (⟨"strikebound/cli/InPlaceText", "set", "([CII)V"⟩ : MethodName)) hown (wq hw 18 rfl) (wq hw 19 rfl) (notFace_of_selects (args := #[]) (mvT hZ (wq hw 21 rfl))) (wq hw 21 rfl) (wq hw 20 rfl) (by decide) P2110 (backC (W := 0) (rm_set l Z a0 hw b209 b24 (1 : Int32) (3 : Int32) (2 : Int32) u211 (0 : Int32) (0 : Int32) h211 n0 (by omega) P2110 P2111 P2112 P2113 (by omega) (by decide)) hZ (wq hw 22 rfl) (wq hw 9 rfl) (by decide) (by decide)) e211 (argsL := [(.ref b24), (.int (1 : Int32)), (.int (3 : Int32))]) (rest := []) rfl rfl pd_7 rfl (by rw [hml]; rfl) (hb hby at_129) (Nat.le_of_eq rfl) (by decide) (by decide) k213
    have k214 : To p.tables e below S0 (T214.setTop (mkF m 132 l212 [])) := k214a
    have N214 := N211.app Nq214
    obtain ⟨h214, e214⟩ : ∃ z, T214.heap = z := ⟨_, rfl⟩
    rw [e214] at Kq214 P2140 P2141 P2142 P2143
    have z214 : h211.size ≤ h214.size := Kq214.1
    have C214 := C211.trans (CHr.keep Kq214 (sfS (Safe.exa hZ.alike P2110 (by decide) (by decide)) sf0) C211.1)
    have k215 : To p.tables e below S0 (T214.setTop (mkF m 140 l212 [(.int e_), (.int f), (.ref b3), (.ref b209)])) := fun tt hq => k214 tt (by
      refine XS.aload X214.here hx rfl (hb hby at_132) rfl rfl ?_
      refine XS.aload X214.here hx rfl (hb hby at_134) rfl rfl ?_
      refine XS.iload X214.here hx rfl (hb hby at_136) rfl ?_
      refine XS.iload X214.here hx rfl (hb hby at_138) rfl ?_
      exact hq)
    obtain ⟨_, T216, L216, X216, ⟨rfl, Nq216, Kq216, P2160, P2161, P2162, P2163⟩, k216a⟩ := callV' X214 hx hZ (y := (⟨"strikebound/cli/InPlaceText", "set", "([CII)V"⟩ : MethodName)) (z := (⟨"strikebound/cli/InPlaceText", "set", "([CII)V"⟩ : MethodName)) hown (wq hw 18 rfl) (wq hw 19 rfl) (notFace_of_selects (args := #[]) (mvT hZ (wq hw 21 rfl))) (wq hw 21 rfl) (wq hw 20 rfl) (by decide) P2140 (backC (W := 0) (rm_set l Z a0 hw b209 b3 f e_ (4 : Int32) b24 (1 : Int32) (2 : Int32) h214 n0 (by omega) P2140 P2141 P2142 P2143 (by omega) ht) hZ (wq hw 22 rfl) (wq hw 9 rfl) (by decide) (by decide)) e214 (argsL := [(.ref b3), (.int f), (.int e_)]) (rest := []) rfl rfl pd_7 rfl (by rw [hml]; rfl) (hb hby at_140) (Nat.le_of_eq rfl) (by decide) (by decide) k215
    have k216 : To p.tables e below S0 (T216.setTop (mkF m 143 l212 [])) := k216a
    have N216 := N214.app Nq216
    obtain ⟨h216, e216⟩ : ∃ z, T216.heap = z := ⟨_, rfl⟩
    rw [e216] at Kq216 P2160 P2161 P2162 P2163
    have z216 : h214.size ≤ h216.size := Kq216.1
    have C216 := C214.trans (CHr.keep Kq216 (sfS (Safe.exa hZ.alike P2140 (by decide) (by decide)) sf0) C214.1)
    have k217 : To p.tables e below S0 (T216.setTop (mkF m 145 l212 [(.ref b209)])) := fun tt hq => k216 tt (by
      refine XS.aload X216.here hx rfl (hb hby at_143) rfl rfl ?_
      exact hq)
    obtain ⟨_, T218, L218, X218, ⟨rfl, Nq218, eq218⟩, k218a⟩ := callV' X216 hx hZ (y := (⟨"strikebound/cli/InPlaceText", "array", "()[C"⟩ : MethodName)) (z := (⟨"strikebound/cli/InPlaceText", "array", "()[C"⟩ : MethodName)) hown (wq hw 27 rfl) (wq hw 28 rfl) (notFace_of_selects (args := #[]) (mvT hZ (wq hw 30 rfl))) (wq hw 30 rfl) (wq hw 29 rfl) (by decide) P2160 (backC (W := 0) (rm_garray l Z a0 hw b209 b3 h216 n0 (by omega) P2161) hZ (wq hw 31 rfl) (wq hw 9 rfl) (by decide) (by decide)) e216 (argsL := []) (rest := []) rfl rfl pd_8 rfl (by rw [hml]; rfl) (hb hby at_145) (Nat.le_of_eq rfl) (by decide) (by decide) k217
    have k218 : To p.tables e below S0 (T218.setTop (mkF m 148 l212 [(.ref b3)])) := k218a
    have N218 := N216.app Nq218
    have e218 : T218.heap = h216 := eq218
    have k219 : To p.tables e below S0 (T218.setTop (mkF m 157 l212 [(.ref b209)])) := fun tt hq => k218 tt (by
      refine XS.aload X218.here hx rfl (hb hby at_148) rfl rfl ?_
      refine Jvm.RoadKit.acmp (g := (mkF m 150 l212 [(.ref b3), (.ref b3)])) X218 hx rfl rfl rfl (pc0 := 150) (pc' := 155) (same := true) rfl (hb hby at_150) rfl (decide_eq_true rfl) (by decide) (by decide) ?_
      refine XS.aload X218.here hx rfl (hb hby at_155) rfl rfl ?_
      exact hq)
    obtain ⟨_, T220, L220, X220, ⟨rfl, Nq220, eq220⟩, k220a⟩ := callV' X218 hx hZ (y := (⟨"strikebound/cli/InPlaceText", "start", "()I"⟩ : MethodName)) (z := (⟨"strikebound/cli/InPlaceText", "start", "()I"⟩ : MethodName)) hown (wq hw 32 rfl) (wq hw 33 rfl) (notFace_of_selects (args := #[]) (mvT hZ (wq hw 35 rfl))) (wq hw 35 rfl) (wq hw 34 rfl) (by decide) P2160 (backC (W := 0) (rm_gstart l Z a0 hw b209 f h216 n0 (by omega) P2162) hZ (wq hw 36 rfl) (wq hw 9 rfl) (by decide) (by decide)) e218 (argsL := []) (rest := []) rfl rfl pd_9 rfl (by rw [hml]; rfl) (hb hby at_157) (Nat.le_of_eq rfl) (by decide) (by decide) k219
    have k220 : To p.tables e below S0 (T220.setTop (mkF m 160 l212 [(.int f)])) := k220a
    have N220 := N218.app Nq220
    have e220 : T220.heap = h216 := eq220
    have k221 : To p.tables e below S0 (T220.setTop (mkF m 169 l212 [(.ref b209)])) := fun tt hq => k220 tt (by
      refine XS.iload X220.here hx rfl (hb hby at_160) rfl ?_
      refine XS.icmpYes X220.here hx rfl (pc0 := 162) (pc' := 167) rfl (hb hby at_162) rfl (teq rfl).1 (by decide) (by decide) ?_
      refine XS.aload X220.here hx rfl (hb hby at_167) rfl rfl ?_
      exact hq)
    obtain ⟨_, T222, L222, X222, ⟨rfl, Nq222, eq222⟩, k222a⟩ := callV' X220 hx hZ (y := (⟨"strikebound/cli/InPlaceText", "length", "()I"⟩ : MethodName)) (z := (⟨"strikebound/cli/InPlaceText", "length", "()I"⟩ : MethodName)) hown (wq hw 37 rfl) (wq hw 38 rfl) (notFace_of_selects (args := #[]) (mvT hZ (wq hw 40 rfl))) (wq hw 40 rfl) (wq hw 39 rfl) (by decide) P2160 (backC (W := 0) (rm_glength l Z a0 hw b209 (4 : Int32) h216 n0 (by omega) P2163) hZ (wq hw 41 rfl) (wq hw 9 rfl) (by decide) (by decide)) e220 (argsL := []) (rest := []) rfl rfl pd_9 rfl (by rw [hml]; rfl) (hb hby at_169) (Nat.le_of_eq rfl) (by decide) (by decide) k221
    have k222 : To p.tables e below S0 (T222.setTop (mkF m 172 l212 [(.int (4 : Int32))])) := k222a
    have N222 := N220.app Nq222
    have e222 : T222.heap = h216 := eq222
    have k223 : To p.tables e below S0 (T222.setTop (mkF m 181 l212 [(.ref b209)])) := fun tt hq => k222 tt (by
      refine XS.iload X222.here hx rfl (hb hby at_172) rfl ?_
      refine XS.icmpYes X222.here hx rfl (pc0 := 174) (pc' := 179) rfl (hb hby at_174) rfl (teq (by decide)).1 (by decide) (by decide) ?_
      refine XS.aload X222.here hx rfl (hb hby at_179) rfl rfl ?_
      exact hq)
    have f224 : Old Z n0 h216 := (((((((((((((((O0.ext E3).wr W7 (by omega)).wr W10 (by omega)).wr W13 (by omega)).wr W16 (by omega)).wr W19 (by omega)).wr W22 (by omega)).ext E24).wr W27 (by omega)).wr W29 (by omega)).wr W31 (by omega)).ext E209).keep Kq211 (allS (by omega) all0)).keep Kq214 (allS (by omega) all0)).keep Kq216 (allS (by omega) all0))
    have f225 : Arv Z h216 b3 c3 .char (6 : Int32) [(.int r6), (.int r9), (.int r12), (.int r15), (.int r18), (.int r21)] (.int (0 : Int32)) := ((((((((V22.ext E24).other W27 (adr_ne (by omega))).other W29 (adr_ne (by omega))).other W31 (adr_ne (by omega))).ext E209).keep Kq211 (nin1 (by omega))).keep Kq214 (nin1 (by omega))).keep Kq216 (nin1 (by omega)))
    obtain ⟨_, T226, L226, X226, ⟨a226, t226, k226x, rfl, Nq226, ya226, yt226, Kq226, P2260, P2261, P2262, P2263⟩, k226a⟩ := callV' X222 hx hZ (y := (⟨"strikebound/cli/InPlaceText", "toString", "()Ljava/lang/String;"⟩ : MethodName)) (z := (⟨"strikebound/cli/InPlaceText", "toString", "()Ljava/lang/String;"⟩ : MethodName)) hown (wq hw 42 rfl) (wq hw 43 rfl) (notFace_of_selects (args := #[]) (mvT hZ (wq hw 45 rfl))) (wq hw 45 rfl) (wq hw 44 rfl) (by decide) P2160 (backC (W := 0) (rm_ts_4 l Z a0 hw zc fm b209 b3 c3 f r6 r9 r12 r15 r18 r21 h216 n0 (by omega) S_c hzc S_f hfm f224 P2160 P2161 P2162 P2163 f225 (by omega) hd HM (by rcases hd with rfl | rfl | rfl <;> decide) (by rcases hd with rfl | rfl | rfl <;> decide)) hZ (wq hw 46 rfl) (wq hw 9 rfl) (by decide) (by decide)) e222 (argsL := []) (rest := []) rfl rfl pd_12 rfl (by rw [hml]; rfl) (hb hby at_181) (Nat.le_of_eq rfl) (by decide) (by decide) k223
    have k226 : To p.tables e below S0 (T226.setTop (mkF m 184 l212 [(.ref a226)])) := k226a
    have N226 := N222.app Nq226
    obtain ⟨h226, e226⟩ : ∃ z, T226.heap = z := ⟨_, rfl⟩
    rw [e226] at Kq226 ya226 yt226 P2260 P2261 P2262 P2263
    have z226 : h216.size ≤ h226.size := Kq226.1
    have C226 := C216.trans (CHr.keep Kq226 sf0 C216.1)
    let l227 : Array Slot := #[.val (.long p0), .second, .val (.int p2), .val (.int p3), .val (.int p4), .val (.ref b3), .val (.ref b24), .val (.int f), .val (.int e_), .val (.int (4 : Int32)), .val (.ref b209), .val (.ref a226), .unset]
    have k228 : To p.tables e below S0 (T226.setTop (mkF m 188 l227 [(.ref a226)])) := fun tt hq => k226 tt (by
      refine XS.astore X226.here hx rfl (hb hby at_184) rfl rfl (l' := l227) rfl ?_
      refine XS.aload X226.here hx rfl (hb hby at_186) rfl rfl ?_
      exact hq)
    have f229 : Old Z n0 h226 := (f224.keep Kq226 all0)
    obtain ⟨_, T230, L230, X230, ⟨rfl, Nq230, eq230⟩, k230a⟩ := callV' X226 hx hZ (y := (⟨"java/lang/String", "length", "()I"⟩ : MethodName)) (z := (⟨"java/lang/String", "length", "()I"⟩ : MethodName)) hown (wq hw 85 rfl) (wq hw 86 rfl) (notFace_of_selects (args := #[]) (mvT hZ (wq hw 88 rfl))) (wq hw 88 rfl) (wq hw 87 rfl) (by decide) P2260 (backC (W := 0) (rm_len4 l Z a0 hw zc a226 t226 k226x (nar .byte ((own_at [r6, r9, r12, r15, r18, r21] f).toInt8.toInt32)) (nar .byte ((own_at [r6, r9, r12, r15, r18, r21] (f + (1 : Int32))).toInt8.toInt32)) (nar .byte ((own_at [r6, r9, r12, r15, r18, r21] ((f + (1 : Int32)) + (1 : Int32))).toInt8.toInt32)) (nar .byte ((own_at [r6, r9, r12, r15, r18, r21] (((f + (1 : Int32)) + (1 : Int32)) + (1 : Int32))).toInt8.toInt32)) h226 n0 (by omega) S_c hzc f229 P2260 P2261 P2262 P2263) hZ (wq hw 89 rfl) (wq hw 49 rfl) (by decide) (by decide)) e226 (argsL := []) (rest := []) rfl rfl pd_9 rfl (by rw [hml]; rfl) (hb hby at_188) (Nat.le_of_eq rfl) (by decide) (by decide) k228
    have k230 : To p.tables e below S0 (T230.setTop (mkF m 191 l227 [(.int (4 : Int32))])) := k230a
    have N230 := N226.app Nq230
    have e230 : T230.heap = h226 := eq230
    have k231 : To p.tables e below S0 (T230.setTop (mkF m 211 l227 [(.int ((p4 &&& (2147483647 : Int32)) % (4 : Int32)))])) := fun tt hq => k230 tt (by
      refine XS.iload X230.here hx rfl (hb hby at_191) rfl ?_
      refine XS.icmpYes X230.here hx rfl (pc0 := 193) (pc' := 198) rfl (hb hby at_193) rfl (teq (by decide)).1 (by decide) (by decide) ?_
      refine XS.iload X230.here hx rfl (hb hby at_198) rfl ?_
      refine XS.ifNo X230.here hx rfl (hb hby at_200) rfl ((if0 _ _).trans (tlt (by decide)).2.2.2) ?_
      refine XS.iload X230.here hx rfl (hb hby at_203) rfl ?_
      refine X230.ldcInt hx hown (mvT hZ (wq hw 6 rfl)) (g := (mkF m 205 l227 [(.int p4)])) rfl (hb hby at_205) _ ?_
      refine XS.iand X230.here hx rfl (hb hby at_207) rfl ?_
      refine XS.iload X230.here hx rfl (hb hby at_208) rfl ?_
      refine iremM X230 hx rfl (hb hby at_210) rfl (by decide) ?_
      exact hq)
    obtain ⟨ii, hii⟩ : ∃ z : Int32, z = ((p4 &&& (2147483647 : Int32)) % (4 : Int32)) := ⟨_, rfl⟩
    have k232 : To p.tables e below S0 (T230.setTop (mkF m 211 l227 [(.int ii)])) := by rw [hii]; exact k231
    have hI := own_r4 p4
    rw [← hii] at hI
    let l233 : Array Slot := #[.val (.long p0), .second, .val (.int p2), .val (.int p3), .val (.int p4), .val (.ref b3), .val (.ref b24), .val (.int f), .val (.int e_), .val (.int (4 : Int32)), .val (.ref b209), .val (.ref a226), .val (.int ii)]
    have k234 : To p.tables e below S0 (T230.setTop (mkF m 217 l233 [(.int ii), (.ref b209)])) := fun tt hq => k232 tt (by
      refine XS.istore X230.here hx rfl (hb hby at_211) rfl (l' := l233) rfl ?_
      refine XS.aload X230.here hx rfl (hb hby at_213) rfl rfl ?_
      refine XS.iload X230.here hx rfl (hb hby at_215) rfl ?_
      exact hq)
    have f235 : Exa Z h226 b209 "strikebound/cli/InPlaceText" := (P2160.keep Kq226)
    have f236 : Fld Z h226 b209 "strikebound/cli/InPlaceText" "chars" "[C" (.ref b3) := (P2161.keep Kq226 nin0)
    have f237 : Fld Z h226 b209 "strikebound/cli/InPlaceText" "start" "I" (.int f) := (P2162.keep Kq226 nin0)
    have f238 : Fld Z h226 b209 "strikebound/cli/InPlaceText" "length" "I" (.int (4 : Int32)) := (P2163.keep Kq226 nin0)
    have f239 : Arv Z h226 b3 c3 .char (6 : Int32) [(.int r6), (.int r9), (.int r12), (.int r15), (.int r18), (.int r21)] (.int (0 : Int32)) := (f225.keep Kq226 nin0)
    obtain ⟨_, T240, L240, X240, ⟨rfl, Nq240, eq240⟩, k240a⟩ := callV' X230 hx hZ (y := (⟨"strikebound/cli/InPlaceText", "charAt", "(I)C"⟩ : MethodName)) (z := (⟨"strikebound/cli/InPlaceText", "charAt", "(I)C"⟩ : MethodName)) hown (wq hw 95 rfl) (wq hw 96 rfl) (notFace_of_selects (args := #[]) (mvT hZ (wq hw 98 rfl))) (wq hw 98 rfl) (wq hw 97 rfl) (by decide) f235 (backC (W := 0) (rm_ica l Z a0 hw b209 b3 c3 f r6 r9 r12 r15 r18 r21 (4 : Int32) ii h226 n0 (by omega) f235 f236 f237 f238 f239 HM (by rcases hd with rfl | rfl | rfl <;> rcases hI with rfl | rfl | rfl | rfl <;> decide) (by rcases hI with rfl | rfl | rfl | rfl <;> decide) (by rcases hI with rfl | rfl | rfl | rfl <;> decide)) hZ (wq hw 99 rfl) (wq hw 9 rfl) (by decide) (by decide)) e230 (argsL := [(.int ii)]) (rest := []) rfl rfl pd_16 rfl (by rw [hml]; rfl) (hb hby at_217) (Nat.le_of_eq rfl) (by decide) (by decide) k234
    have k240 : To p.tables e below S0 (T240.setTop (mkF m 220 l233 [(.int (own_at [r6, r9, r12, r15, r18, r21] (f + ii)))])) := k240a
    have N240 := N230.app Nq240
    have e240 : T240.heap = h226 := eq240
    have k241 : To p.tables e below S0 (T240.setTop (mkF m 227 l233 [(.int (f + ii)), (.ref b3), (.int (own_at [r6, r9, r12, r15, r18, r21] (f + ii)))])) := fun tt hq => k240 tt (by
      refine XS.aload X240.here hx rfl (hb hby at_220) rfl rfl ?_
      refine XS.iload X240.here hx rfl (hb hby at_222) rfl ?_
      refine XS.iload X240.here hx rfl (hb hby at_224) rfl ?_
      refine XS.iadd X240.here hx rfl (hb hby at_226) rfl ?_
      exact hq)
    obtain ⟨cl242, Ar242, -, S242, -, G242, -⟩ := id f239
    have hi242 := inb_of (j := (f + ii)) S242 (by rcases hd with rfl | rfl | rfl <;> rcases hI with rfl | rfl | rfl | rfl <;> decide)
    have st242 := fun tt => X240.caload hx (j := (f + ii)) (v := (.int (own_at [r6, r9, r12, r15, r18, r21] (f + ii)))) (by rw [e240]; exact Ar242.1) (State.isArrayOf_alike hZ.alike Ar242.2.1) Ar242.2.2 hi242 (G242.at hi242 (own_atv [r6, r9, r12, r15, r18, r21] (f + ii))) (g := (mkF m 227 l233 [(.int (f + ii)), (.ref b3), (.int (own_at [r6, r9, r12, r15, r18, r21] (f + ii)))])) rfl rfl (hb hby at_227) tt
    have k242 : To p.tables e below S0 (T240.setTop (mkF m 228 l233 [(.int (own_at [r6, r9, r12, r15, r18, r21] (f + ii))), (.int (own_at [r6, r9, r12, r15, r18, r21] (f + ii)))])) := fun tt hq => k241 tt (st242 tt hq)
    have k243 : To p.tables e below S0 (T240.setTop (mkF m 237 l233 [(.int ii), (.ref a226)])) := fun tt hq => k242 tt (by
      refine XS.icmpYes X240.here hx rfl (pc0 := 228) (pc' := 233) rfl (hb hby at_228) rfl (teq rfl).1 (by decide) (by decide) ?_
      refine XS.aload X240.here hx rfl (hb hby at_233) rfl rfl ?_
      refine XS.iload X240.here hx rfl (hb hby at_235) rfl ?_
      exact hq)
    obtain ⟨_, T244, L244, X244, ⟨rfl, Nq244, eq244⟩, k244a⟩ := callV' X240 hx hZ (y := (⟨"java/lang/String", "charAt", "(I)C"⟩ : MethodName)) (z := (⟨"java/lang/String", "charAt", "(I)C"⟩ : MethodName)) hown (wq hw 107 rfl) (wq hw 108 rfl) (notFace_of_selects (args := #[]) (mvT hZ (wq hw 110 rfl))) (wq hw 110 rfl) (wq hw 109 rfl) (by decide) P2260 (backC (W := 0) (rm_cs4 l Z a0 hw zc fm a226 t226 k226x (nar .byte ((own_at [r6, r9, r12, r15, r18, r21] f).toInt8.toInt32)) (nar .byte ((own_at [r6, r9, r12, r15, r18, r21] (f + (1 : Int32))).toInt8.toInt32)) (nar .byte ((own_at [r6, r9, r12, r15, r18, r21] ((f + (1 : Int32)) + (1 : Int32))).toInt8.toInt32)) (nar .byte ((own_at [r6, r9, r12, r15, r18, r21] (((f + (1 : Int32)) + (1 : Int32)) + (1 : Int32))).toInt8.toInt32)) ii (own_at [r6, r9, r12, r15, r18, r21] (f + ii)) h226 n0 (by omega) S_c hzc S_f hfm f229 P2260 P2261 P2262 P2263 (by rcases hI with rfl | rfl | rfl | rfl <;> decide) (by rcases hI with rfl | rfl | rfl | rfl <;> decide) (by rcases hd with rfl | rfl | rfl <;> rcases hI with rfl | rfl | rfl | rfl <;> exact own_b255 (HM _))) hZ (wq hw 111 rfl) (wq hw 49 rfl) (by decide) (by decide)) e240 (argsL := [(.int ii)]) (rest := []) rfl rfl pd_16 rfl (by rw [hml]; rfl) (hb hby at_237) (Nat.le_of_eq rfl) (by decide) (by decide) k243
    have k244 : To p.tables e below S0 (T244.setTop (mkF m 240 l233 [(.int (own_at [r6, r9, r12, r15, r18, r21] (f + ii)))])) := k244a
    have N244 := N240.app Nq244
    have e244 : T244.heap = h226 := eq244
    have k245 : To p.tables e below S0 (T244.setTop (mkF m 247 l233 [(.int (f + ii)), (.ref b3), (.int (own_at [r6, r9, r12, r15, r18, r21] (f + ii)))])) := fun tt hq => k244 tt (by
      refine XS.aload X244.here hx rfl (hb hby at_240) rfl rfl ?_
      refine XS.iload X244.here hx rfl (hb hby at_242) rfl ?_
      refine XS.iload X244.here hx rfl (hb hby at_244) rfl ?_
      refine XS.iadd X244.here hx rfl (hb hby at_246) rfl ?_
      exact hq)
    obtain ⟨cl246, Ar246, -, S246, -, G246, -⟩ := id f239
    have hi246 := inb_of (j := (f + ii)) S246 (by rcases hd with rfl | rfl | rfl <;> rcases hI with rfl | rfl | rfl | rfl <;> decide)
    have st246 := fun tt => X244.caload hx (j := (f + ii)) (v := (.int (own_at [r6, r9, r12, r15, r18, r21] (f + ii)))) (by rw [e244]; exact Ar246.1) (State.isArrayOf_alike hZ.alike Ar246.2.1) Ar246.2.2 hi246 (G246.at hi246 (own_atv [r6, r9, r12, r15, r18, r21] (f + ii))) (g := (mkF m 247 l233 [(.int (f + ii)), (.ref b3), (.int (own_at [r6, r9, r12, r15, r18, r21] (f + ii)))])) rfl rfl (hb hby at_247) tt
    have k246 : To p.tables e below S0 (T244.setTop (mkF m 248 l233 [(.int (own_at [r6, r9, r12, r15, r18, r21] (f + ii))), (.int (own_at [r6, r9, r12, r15, r18, r21] (f + ii)))])) := fun tt hq => k245 tt (st246 tt hq)
    have k247 : To p.tables e below S0 (T244.setTop (mkF m 259 l233 [(.int (3 : Int32)), (.ref a226)])) := fun tt hq => k246 tt (by
      refine XS.icmpYes X244.here hx rfl (pc0 := 248) (pc' := 253) rfl (hb hby at_248) rfl (teq rfl).1 (by decide) (by decide) ?_
      refine XS.aload X244.here hx rfl (hb hby at_253) rfl rfl ?_
      refine XS.iload X244.here hx rfl (hb hby at_255) rfl ?_
      refine XS.iconst X244.here hx rfl (hb hby at_257) ?_
      refine XS.isub X244.here hx rfl (hb hby at_258) rfl ?_
      exact hq)
    obtain ⟨_, T248, L248, X248, ⟨rfl, Nq248, eq248⟩, k248a⟩ := callV' X244 hx hZ (y := (⟨"java/lang/String", "charAt", "(I)C"⟩ : MethodName)) (z := (⟨"java/lang/String", "charAt", "(I)C"⟩ : MethodName)) hown (wq hw 107 rfl) (wq hw 108 rfl) (notFace_of_selects (args := #[]) (mvT hZ (wq hw 110 rfl))) (wq hw 110 rfl) (wq hw 109 rfl) (by decide) P2260 (backC (W := 0) (rm_cs4 l Z a0 hw zc fm a226 t226 k226x (nar .byte ((own_at [r6, r9, r12, r15, r18, r21] f).toInt8.toInt32)) (nar .byte ((own_at [r6, r9, r12, r15, r18, r21] (f + (1 : Int32))).toInt8.toInt32)) (nar .byte ((own_at [r6, r9, r12, r15, r18, r21] ((f + (1 : Int32)) + (1 : Int32))).toInt8.toInt32)) (nar .byte ((own_at [r6, r9, r12, r15, r18, r21] (((f + (1 : Int32)) + (1 : Int32)) + (1 : Int32))).toInt8.toInt32)) (3 : Int32) (own_at [r6, r9, r12, r15, r18, r21] (((f + (1 : Int32)) + (1 : Int32)) + (1 : Int32))) h226 n0 (by omega) S_c hzc S_f hfm f229 P2260 P2261 P2262 P2263 (by decide) (by decide) (own_b255 (HM _))) hZ (wq hw 111 rfl) (wq hw 49 rfl) (by decide) (by decide)) e244 (argsL := [(.int (3 : Int32))]) (rest := []) rfl rfl pd_16 rfl (by rw [hml]; rfl) (hb hby at_259) (Nat.le_of_eq rfl) (by decide) (by decide) k247
    have k248 : To p.tables e below S0 (T248.setTop (mkF m 262 l233 [(.int (own_at [r6, r9, r12, r15, r18, r21] (((f + (1 : Int32)) + (1 : Int32)) + (1 : Int32))))])) := k248a
    have N248 := N244.app Nq248
    have e248 : T248.heap = h226 := eq248
    have k249 : To p.tables e below S0 (T248.setTop (mkF m 268 l233 [(.int (e_ - (1 : Int32))), (.ref b3), (.int (own_at [r6, r9, r12, r15, r18, r21] (((f + (1 : Int32)) + (1 : Int32)) + (1 : Int32))))])) := fun tt hq => k248 tt (by
      refine XS.aload X248.here hx rfl (hb hby at_262) rfl rfl ?_
      refine XS.iload X248.here hx rfl (hb hby at_264) rfl ?_
      refine XS.iconst X248.here hx rfl (hb hby at_266) ?_
      refine XS.isub X248.here hx rfl (hb hby at_267) rfl ?_
      exact hq)
    obtain ⟨cl250, Ar250, -, S250, -, G250, -⟩ := id f239
    have hi250 := inb_of (j := (e_ - (1 : Int32))) S250 (by rw [own_sub ht]; rcases hd with rfl | rfl | rfl <;> decide)
    have st250 := fun tt => X248.caload hx (j := (e_ - (1 : Int32))) (v := (.int (own_at [r6, r9, r12, r15, r18, r21] (e_ - (1 : Int32))))) (by rw [e248]; exact Ar250.1) (State.isArrayOf_alike hZ.alike Ar250.2.1) Ar250.2.2 hi250 (G250.at hi250 (own_atv [r6, r9, r12, r15, r18, r21] (e_ - (1 : Int32)))) (g := (mkF m 268 l233 [(.int (e_ - (1 : Int32))), (.ref b3), (.int (own_at [r6, r9, r12, r15, r18, r21] (((f + (1 : Int32)) + (1 : Int32)) + (1 : Int32))))])) rfl rfl (hb hby at_268) tt
    have k250 : To p.tables e below S0 (T248.setTop (mkF m 269 l233 [(.int (own_at [r6, r9, r12, r15, r18, r21] (e_ - (1 : Int32)))), (.int (own_at [r6, r9, r12, r15, r18, r21] (((f + (1 : Int32)) + (1 : Int32)) + (1 : Int32))))])) := fun tt hq => k249 tt (st250 tt hq)
    by_cases hc269_251 : (own_at [r6, r9, r12, r15, r18, r21] (((f + (1 : Int32)) + (1 : Int32)) + (1 : Int32))) = (own_at [r6, r9, r12, r15, r18, r21] (e_ - (1 : Int32)))
    · -- pc 269, holds
      have k252 : To p.tables e below S0 (T248.setTop (mkF m 275 l233 [(.int (1 : Int32))])) := fun tt hq => k250 tt (by
        refine XS.icmpYes X248.here hx rfl (pc0 := 269) (pc' := 274) rfl (hb hby at_269) rfl (teq hc269_251).1 (by decide) (by decide) ?_
        refine XS.iconst X248.here hx rfl (hb hby at_274) ?_
        exact hq)
      refine retIntW X248 hx hZ (own_EW hw) hS0 (by omega) C226 e248 hret hlk (by simp) rfl (hb hby at_275) k252 ?_ (by decide) (by decide)
      exact ⟨rfl, N248⟩
    · -- pc 269, holds not
      exact absurd (by rw [own_sub ht]; rcases hd with rfl | rfl | rfl <;> rfl) hc269_251
  · -- the length 5
    have k253 : To p.tables e below S0 (T31.setTop (mkF m 112 l37 [(.int (5 : Int32))])) := by have hq := k38; rw [ht] at hq; exact hq
    let l254 : Array Slot := #[.val (.long p0), .second, .val (.int p2), .val (.int p3), .val (.int p4), .val (.ref b3), .val (.ref b24), .val (.int f), .val (.int e_), .val (.int (5 : Int32)), .unset, .unset, .unset]
    have k255 : To p.tables e below S0 (T31.setTop (mkF m 114 l254 [])) := fun tt hq => k253 tt (by
      refine XS.istore X31.here hx rfl (hb hby at_112) rfl (l' := l254) rfl ?_
      exact hq)
    obtain ⟨T256, h256, X256, e256, E256, A256, D256, -, st256⟩ := newO X31 hx hZ hown (wq hw 7 rfl) (wq hw 8 rfl) (wq hw 9 rfl) e31 (g := (mkF m 114 l254 [])) rfl (hb hby at_114) (by decide) (by decide)
    obtain ⟨b256, g256⟩ : ∃ z, z = h31.size := ⟨_, rfl⟩
    rw [← g256] at A256 D256 st256
    have k256 : To p.tables e below S0 (T256.setTop (mkF m 117 l254 [(.ref b256)])) := fun tt hq => k255 tt (st256 tt hq)
    have z256 : h31.size ≤ h256.size := E256.1
    have y256 : @LT.lt Nat instLTNat b256 h256.size := A256.lt
    have C256 := C31.trans (CHr.ext E256 C31.1)
    have F256_chars : Fld Z h256 b256 "strikebound/cli/InPlaceText" "chars" "[C" .null := D256 (Or.inl (wq hw 17 rfl)) (ty := (.array .char)) (by decide)
    have F256_start : Fld Z h256 b256 "strikebound/cli/InPlaceText" "start" "I" (.int (0 : Int32)) := D256 (Or.inl (wq hw 24 rfl)) (ty := .int) (by decide)
    have F256_length : Fld Z h256 b256 "strikebound/cli/InPlaceText" "length" "I" (.int (0 : Int32)) := D256 (Or.inl (wq hw 26 rfl)) (ty := .int) (by decide)
    have k257 : To p.tables e below S0 (T256.setTop (mkF m 118 l254 [(.ref b256), (.ref b256)])) := fun tt hq => k256 tt (by
      refine XS.dup X256.here hx rfl (hb hby at_117) rfl rfl ?_
      exact hq)
    obtain ⟨_, T258, L258, X258, ⟨u258, rfl, Nq258, Kq258, P2580, P2581, P2582, P2583⟩, k258a⟩ := callC' X256 hx hZ (y := (⟨"strikebound/cli/InPlaceText", "<init>", "()V"⟩ : MethodName)) rfl hown (wq hw 10 rfl) (wq hw 11 rfl) (wq hw 12 rfl) (by decide) (backC (W := 1) (rm_ii l Z a0 hw b256 h256 n0 (by omega) A256 F256_chars F256_start F256_length (by omega) (by omega)) hZ (wq hw 12 rfl) (wq hw 9 rfl) (by decide) (by decide)) e256 (argsL := []) (rest := [(.ref b256)]) rfl rfl pd_6 rfl (by rw [hml]; rfl) (hb hby at_118) (Nat.le_of_eq rfl) (by decide) (by decide) k257
    have k258 : To p.tables e below S0 (T258.setTop (mkF m 121 l254 [(.ref b256)])) := k258a
    have N258 := N31.app Nq258
    obtain ⟨h258, e258⟩ : ∃ z, T258.heap = z := ⟨_, rfl⟩
    rw [e258] at Kq258 P2580 P2581 P2582 P2583
    have z258 : h256.size ≤ h258.size := Kq258.1
    have C258 := C256.trans (CHr.keep Kq258 (sfS (Safe.exa hZ.alike A256 (by decide) (by decide)) sf0) C256.1)
    let l259 : Array Slot := #[.val (.long p0), .second, .val (.int p2), .val (.int p3), .val (.int p4), .val (.ref b3), .val (.ref b24), .val (.int f), .val (.int e_), .val (.int (5 : Int32)), .val (.ref b256), .unset, .unset]
    have k260 : To p.tables e below S0 (T258.setTop (mkF m 129 l259 [(.int (3 : Int32)), (.int (1 : Int32)), (.ref b24), (.ref b256)])) := fun tt hq => k258 tt (by
      refine XS.astore X258.here hx rfl (hb hby at_121) rfl rfl (l' := l259) rfl ?_
      refine XS.aload X258.here hx rfl (hb hby at_123) rfl rfl ?_
      refine XS.aload X258.here hx rfl (hb hby at_125) rfl rfl ?_
      refine XS.iconst X258.here hx rfl (hb hby at_127) ?_
      refine XS.iconst X258.here hx rfl (hb hby at_128) ?_
      exact hq)
    obtain ⟨_, T261, L261, X261, ⟨rfl, Nq261, Kq261, P2610, P2611, P2612, P2613⟩, k261a⟩ := callV' X258 hx hZ (y := (⟨"strikebound/cli/InPlaceText", "set", "([CII)V"⟩ : MethodName)) (z := (⟨"strikebound/cli/InPlaceText", "set", "([CII)V"⟩ : MethodName)) hown (wq hw 18 rfl) (wq hw 19 rfl) (notFace_of_selects (args := #[]) (mvT hZ (wq hw 21 rfl))) (wq hw 21 rfl) (wq hw 20 rfl) (by decide) P2580 (backC (W := 0) (rm_set l Z a0 hw b256 b24 (1 : Int32) (3 : Int32) (2 : Int32) u258 (0 : Int32) (0 : Int32) h258 n0 (by omega) P2580 P2581 P2582 P2583 (by omega) (by decide)) hZ (wq hw 22 rfl) (wq hw 9 rfl) (by decide) (by decide)) e258 (argsL := [(.ref b24), (.int (1 : Int32)), (.int (3 : Int32))]) (rest := []) rfl rfl pd_7 rfl (by rw [hml]; rfl) (hb hby at_129) (Nat.le_of_eq rfl) (by decide) (by decide) k260
    have k261 : To p.tables e below S0 (T261.setTop (mkF m 132 l259 [])) := k261a
    have N261 := N258.app Nq261
    obtain ⟨h261, e261⟩ : ∃ z, T261.heap = z := ⟨_, rfl⟩
    rw [e261] at Kq261 P2610 P2611 P2612 P2613
    have z261 : h258.size ≤ h261.size := Kq261.1
    have C261 := C258.trans (CHr.keep Kq261 (sfS (Safe.exa hZ.alike P2580 (by decide) (by decide)) sf0) C258.1)
    have k262 : To p.tables e below S0 (T261.setTop (mkF m 140 l259 [(.int e_), (.int f), (.ref b3), (.ref b256)])) := fun tt hq => k261 tt (by
      refine XS.aload X261.here hx rfl (hb hby at_132) rfl rfl ?_
      refine XS.aload X261.here hx rfl (hb hby at_134) rfl rfl ?_
      refine XS.iload X261.here hx rfl (hb hby at_136) rfl ?_
      refine XS.iload X261.here hx rfl (hb hby at_138) rfl ?_
      exact hq)
    obtain ⟨_, T263, L263, X263, ⟨rfl, Nq263, Kq263, P2630, P2631, P2632, P2633⟩, k263a⟩ := callV' X261 hx hZ (y := (⟨"strikebound/cli/InPlaceText", "set", "([CII)V"⟩ : MethodName)) (z := (⟨"strikebound/cli/InPlaceText", "set", "([CII)V"⟩ : MethodName)) hown (wq hw 18 rfl) (wq hw 19 rfl) (notFace_of_selects (args := #[]) (mvT hZ (wq hw 21 rfl))) (wq hw 21 rfl) (wq hw 20 rfl) (by decide) P2610 (backC (W := 0) (rm_set l Z a0 hw b256 b3 f e_ (5 : Int32) b24 (1 : Int32) (2 : Int32) h261 n0 (by omega) P2610 P2611 P2612 P2613 (by omega) ht) hZ (wq hw 22 rfl) (wq hw 9 rfl) (by decide) (by decide)) e261 (argsL := [(.ref b3), (.int f), (.int e_)]) (rest := []) rfl rfl pd_7 rfl (by rw [hml]; rfl) (hb hby at_140) (Nat.le_of_eq rfl) (by decide) (by decide) k262
    have k263 : To p.tables e below S0 (T263.setTop (mkF m 143 l259 [])) := k263a
    have N263 := N261.app Nq263
    obtain ⟨h263, e263⟩ : ∃ z, T263.heap = z := ⟨_, rfl⟩
    rw [e263] at Kq263 P2630 P2631 P2632 P2633
    have z263 : h261.size ≤ h263.size := Kq263.1
    have C263 := C261.trans (CHr.keep Kq263 (sfS (Safe.exa hZ.alike P2610 (by decide) (by decide)) sf0) C261.1)
    have k264 : To p.tables e below S0 (T263.setTop (mkF m 145 l259 [(.ref b256)])) := fun tt hq => k263 tt (by
      refine XS.aload X263.here hx rfl (hb hby at_143) rfl rfl ?_
      exact hq)
    obtain ⟨_, T265, L265, X265, ⟨rfl, Nq265, eq265⟩, k265a⟩ := callV' X263 hx hZ (y := (⟨"strikebound/cli/InPlaceText", "array", "()[C"⟩ : MethodName)) (z := (⟨"strikebound/cli/InPlaceText", "array", "()[C"⟩ : MethodName)) hown (wq hw 27 rfl) (wq hw 28 rfl) (notFace_of_selects (args := #[]) (mvT hZ (wq hw 30 rfl))) (wq hw 30 rfl) (wq hw 29 rfl) (by decide) P2630 (backC (W := 0) (rm_garray l Z a0 hw b256 b3 h263 n0 (by omega) P2631) hZ (wq hw 31 rfl) (wq hw 9 rfl) (by decide) (by decide)) e263 (argsL := []) (rest := []) rfl rfl pd_8 rfl (by rw [hml]; rfl) (hb hby at_145) (Nat.le_of_eq rfl) (by decide) (by decide) k264
    have k265 : To p.tables e below S0 (T265.setTop (mkF m 148 l259 [(.ref b3)])) := k265a
    have N265 := N263.app Nq265
    have e265 : T265.heap = h263 := eq265
    have k266 : To p.tables e below S0 (T265.setTop (mkF m 157 l259 [(.ref b256)])) := fun tt hq => k265 tt (by
      refine XS.aload X265.here hx rfl (hb hby at_148) rfl rfl ?_
      refine Jvm.RoadKit.acmp (g := (mkF m 150 l259 [(.ref b3), (.ref b3)])) X265 hx rfl rfl rfl (pc0 := 150) (pc' := 155) (same := true) rfl (hb hby at_150) rfl (decide_eq_true rfl) (by decide) (by decide) ?_
      refine XS.aload X265.here hx rfl (hb hby at_155) rfl rfl ?_
      exact hq)
    obtain ⟨_, T267, L267, X267, ⟨rfl, Nq267, eq267⟩, k267a⟩ := callV' X265 hx hZ (y := (⟨"strikebound/cli/InPlaceText", "start", "()I"⟩ : MethodName)) (z := (⟨"strikebound/cli/InPlaceText", "start", "()I"⟩ : MethodName)) hown (wq hw 32 rfl) (wq hw 33 rfl) (notFace_of_selects (args := #[]) (mvT hZ (wq hw 35 rfl))) (wq hw 35 rfl) (wq hw 34 rfl) (by decide) P2630 (backC (W := 0) (rm_gstart l Z a0 hw b256 f h263 n0 (by omega) P2632) hZ (wq hw 36 rfl) (wq hw 9 rfl) (by decide) (by decide)) e265 (argsL := []) (rest := []) rfl rfl pd_9 rfl (by rw [hml]; rfl) (hb hby at_157) (Nat.le_of_eq rfl) (by decide) (by decide) k266
    have k267 : To p.tables e below S0 (T267.setTop (mkF m 160 l259 [(.int f)])) := k267a
    have N267 := N265.app Nq267
    have e267 : T267.heap = h263 := eq267
    have k268 : To p.tables e below S0 (T267.setTop (mkF m 169 l259 [(.ref b256)])) := fun tt hq => k267 tt (by
      refine XS.iload X267.here hx rfl (hb hby at_160) rfl ?_
      refine XS.icmpYes X267.here hx rfl (pc0 := 162) (pc' := 167) rfl (hb hby at_162) rfl (teq rfl).1 (by decide) (by decide) ?_
      refine XS.aload X267.here hx rfl (hb hby at_167) rfl rfl ?_
      exact hq)
    obtain ⟨_, T269, L269, X269, ⟨rfl, Nq269, eq269⟩, k269a⟩ := callV' X267 hx hZ (y := (⟨"strikebound/cli/InPlaceText", "length", "()I"⟩ : MethodName)) (z := (⟨"strikebound/cli/InPlaceText", "length", "()I"⟩ : MethodName)) hown (wq hw 37 rfl) (wq hw 38 rfl) (notFace_of_selects (args := #[]) (mvT hZ (wq hw 40 rfl))) (wq hw 40 rfl) (wq hw 39 rfl) (by decide) P2630 (backC (W := 0) (rm_glength l Z a0 hw b256 (5 : Int32) h263 n0 (by omega) P2633) hZ (wq hw 41 rfl) (wq hw 9 rfl) (by decide) (by decide)) e267 (argsL := []) (rest := []) rfl rfl pd_9 rfl (by rw [hml]; rfl) (hb hby at_169) (Nat.le_of_eq rfl) (by decide) (by decide) k268
    have k269 : To p.tables e below S0 (T269.setTop (mkF m 172 l259 [(.int (5 : Int32))])) := k269a
    have N269 := N267.app Nq269
    have e269 : T269.heap = h263 := eq269
    have k270 : To p.tables e below S0 (T269.setTop (mkF m 181 l259 [(.ref b256)])) := fun tt hq => k269 tt (by
      refine XS.iload X269.here hx rfl (hb hby at_172) rfl ?_
      refine XS.icmpYes X269.here hx rfl (pc0 := 174) (pc' := 179) rfl (hb hby at_174) rfl (teq (by decide)).1 (by decide) (by decide) ?_
      refine XS.aload X269.here hx rfl (hb hby at_179) rfl rfl ?_
      exact hq)
    have f271 : Old Z n0 h263 := (((((((((((((((O0.ext E3).wr W7 (by omega)).wr W10 (by omega)).wr W13 (by omega)).wr W16 (by omega)).wr W19 (by omega)).wr W22 (by omega)).ext E24).wr W27 (by omega)).wr W29 (by omega)).wr W31 (by omega)).ext E256).keep Kq258 (allS (by omega) all0)).keep Kq261 (allS (by omega) all0)).keep Kq263 (allS (by omega) all0))
    have f272 : Arv Z h263 b3 c3 .char (6 : Int32) [(.int r6), (.int r9), (.int r12), (.int r15), (.int r18), (.int r21)] (.int (0 : Int32)) := ((((((((V22.ext E24).other W27 (adr_ne (by omega))).other W29 (adr_ne (by omega))).other W31 (adr_ne (by omega))).ext E256).keep Kq258 (nin1 (by omega))).keep Kq261 (nin1 (by omega))).keep Kq263 (nin1 (by omega)))
    obtain ⟨_, T273, L273, X273, ⟨a273, t273, k273x, rfl, Nq273, ya273, yt273, Kq273, P2730, P2731, P2732, P2733⟩, k273a⟩ := callV' X269 hx hZ (y := (⟨"strikebound/cli/InPlaceText", "toString", "()Ljava/lang/String;"⟩ : MethodName)) (z := (⟨"strikebound/cli/InPlaceText", "toString", "()Ljava/lang/String;"⟩ : MethodName)) hown (wq hw 42 rfl) (wq hw 43 rfl) (notFace_of_selects (args := #[]) (mvT hZ (wq hw 45 rfl))) (wq hw 45 rfl) (wq hw 44 rfl) (by decide) P2630 (backC (W := 0) (rm_ts_5 l Z a0 hw zc fm b256 b3 c3 f r6 r9 r12 r15 r18 r21 h263 n0 (by omega) S_c hzc S_f hfm f271 P2630 P2631 P2632 P2633 f272 (by omega) hd HM (by rcases hd with rfl | rfl <;> decide) (by rcases hd with rfl | rfl <;> decide)) hZ (wq hw 46 rfl) (wq hw 9 rfl) (by decide) (by decide)) e269 (argsL := []) (rest := []) rfl rfl pd_12 rfl (by rw [hml]; rfl) (hb hby at_181) (Nat.le_of_eq rfl) (by decide) (by decide) k270
    have k273 : To p.tables e below S0 (T273.setTop (mkF m 184 l259 [(.ref a273)])) := k273a
    have N273 := N269.app Nq273
    obtain ⟨h273, e273⟩ : ∃ z, T273.heap = z := ⟨_, rfl⟩
    rw [e273] at Kq273 ya273 yt273 P2730 P2731 P2732 P2733
    have z273 : h263.size ≤ h273.size := Kq273.1
    have C273 := C263.trans (CHr.keep Kq273 sf0 C263.1)
    let l274 : Array Slot := #[.val (.long p0), .second, .val (.int p2), .val (.int p3), .val (.int p4), .val (.ref b3), .val (.ref b24), .val (.int f), .val (.int e_), .val (.int (5 : Int32)), .val (.ref b256), .val (.ref a273), .unset]
    have k275 : To p.tables e below S0 (T273.setTop (mkF m 188 l274 [(.ref a273)])) := fun tt hq => k273 tt (by
      refine XS.astore X273.here hx rfl (hb hby at_184) rfl rfl (l' := l274) rfl ?_
      refine XS.aload X273.here hx rfl (hb hby at_186) rfl rfl ?_
      exact hq)
    have f276 : Old Z n0 h273 := (f271.keep Kq273 all0)
    obtain ⟨_, T277, L277, X277, ⟨rfl, Nq277, eq277⟩, k277a⟩ := callV' X273 hx hZ (y := (⟨"java/lang/String", "length", "()I"⟩ : MethodName)) (z := (⟨"java/lang/String", "length", "()I"⟩ : MethodName)) hown (wq hw 85 rfl) (wq hw 86 rfl) (notFace_of_selects (args := #[]) (mvT hZ (wq hw 88 rfl))) (wq hw 88 rfl) (wq hw 87 rfl) (by decide) P2730 (backC (W := 0) (rm_len5 l Z a0 hw zc a273 t273 k273x (nar .byte ((own_at [r6, r9, r12, r15, r18, r21] f).toInt8.toInt32)) (nar .byte ((own_at [r6, r9, r12, r15, r18, r21] (f + (1 : Int32))).toInt8.toInt32)) (nar .byte ((own_at [r6, r9, r12, r15, r18, r21] ((f + (1 : Int32)) + (1 : Int32))).toInt8.toInt32)) (nar .byte ((own_at [r6, r9, r12, r15, r18, r21] (((f + (1 : Int32)) + (1 : Int32)) + (1 : Int32))).toInt8.toInt32)) (nar .byte ((own_at [r6, r9, r12, r15, r18, r21] ((((f + (1 : Int32)) + (1 : Int32)) + (1 : Int32)) + (1 : Int32))).toInt8.toInt32)) h273 n0 (by omega) S_c hzc f276 P2730 P2731 P2732 P2733) hZ (wq hw 89 rfl) (wq hw 49 rfl) (by decide) (by decide)) e273 (argsL := []) (rest := []) rfl rfl pd_9 rfl (by rw [hml]; rfl) (hb hby at_188) (Nat.le_of_eq rfl) (by decide) (by decide) k275
    have k277 : To p.tables e below S0 (T277.setTop (mkF m 191 l274 [(.int (5 : Int32))])) := k277a
    have N277 := N273.app Nq277
    have e277 : T277.heap = h273 := eq277
    have k278 : To p.tables e below S0 (T277.setTop (mkF m 211 l274 [(.int ((p4 &&& (2147483647 : Int32)) % (5 : Int32)))])) := fun tt hq => k277 tt (by
      refine XS.iload X277.here hx rfl (hb hby at_191) rfl ?_
      refine XS.icmpYes X277.here hx rfl (pc0 := 193) (pc' := 198) rfl (hb hby at_193) rfl (teq (by decide)).1 (by decide) (by decide) ?_
      refine XS.iload X277.here hx rfl (hb hby at_198) rfl ?_
      refine XS.ifNo X277.here hx rfl (hb hby at_200) rfl ((if0 _ _).trans (tlt (by decide)).2.2.2) ?_
      refine XS.iload X277.here hx rfl (hb hby at_203) rfl ?_
      refine X277.ldcInt hx hown (mvT hZ (wq hw 6 rfl)) (g := (mkF m 205 l274 [(.int p4)])) rfl (hb hby at_205) _ ?_
      refine XS.iand X277.here hx rfl (hb hby at_207) rfl ?_
      refine XS.iload X277.here hx rfl (hb hby at_208) rfl ?_
      refine iremM X277 hx rfl (hb hby at_210) rfl (by decide) ?_
      exact hq)
    obtain ⟨ii, hii⟩ : ∃ z : Int32, z = ((p4 &&& (2147483647 : Int32)) % (5 : Int32)) := ⟨_, rfl⟩
    have k279 : To p.tables e below S0 (T277.setTop (mkF m 211 l274 [(.int ii)])) := by rw [hii]; exact k278
    have hI := own_r5 p4
    rw [← hii] at hI
    let l280 : Array Slot := #[.val (.long p0), .second, .val (.int p2), .val (.int p3), .val (.int p4), .val (.ref b3), .val (.ref b24), .val (.int f), .val (.int e_), .val (.int (5 : Int32)), .val (.ref b256), .val (.ref a273), .val (.int ii)]
    have k281 : To p.tables e below S0 (T277.setTop (mkF m 217 l280 [(.int ii), (.ref b256)])) := fun tt hq => k279 tt (by
      refine XS.istore X277.here hx rfl (hb hby at_211) rfl (l' := l280) rfl ?_
      refine XS.aload X277.here hx rfl (hb hby at_213) rfl rfl ?_
      refine XS.iload X277.here hx rfl (hb hby at_215) rfl ?_
      exact hq)
    have f282 : Exa Z h273 b256 "strikebound/cli/InPlaceText" := (P2630.keep Kq273)
    have f283 : Fld Z h273 b256 "strikebound/cli/InPlaceText" "chars" "[C" (.ref b3) := (P2631.keep Kq273 nin0)
    have f284 : Fld Z h273 b256 "strikebound/cli/InPlaceText" "start" "I" (.int f) := (P2632.keep Kq273 nin0)
    have f285 : Fld Z h273 b256 "strikebound/cli/InPlaceText" "length" "I" (.int (5 : Int32)) := (P2633.keep Kq273 nin0)
    have f286 : Arv Z h273 b3 c3 .char (6 : Int32) [(.int r6), (.int r9), (.int r12), (.int r15), (.int r18), (.int r21)] (.int (0 : Int32)) := (f272.keep Kq273 nin0)
    obtain ⟨_, T287, L287, X287, ⟨rfl, Nq287, eq287⟩, k287a⟩ := callV' X277 hx hZ (y := (⟨"strikebound/cli/InPlaceText", "charAt", "(I)C"⟩ : MethodName)) (z := (⟨"strikebound/cli/InPlaceText", "charAt", "(I)C"⟩ : MethodName)) hown (wq hw 95 rfl) (wq hw 96 rfl) (notFace_of_selects (args := #[]) (mvT hZ (wq hw 98 rfl))) (wq hw 98 rfl) (wq hw 97 rfl) (by decide) f282 (backC (W := 0) (rm_ica l Z a0 hw b256 b3 c3 f r6 r9 r12 r15 r18 r21 (5 : Int32) ii h273 n0 (by omega) f282 f283 f284 f285 f286 HM (by rcases hd with rfl | rfl <;> rcases hI with rfl | rfl | rfl | rfl | rfl <;> decide) (by rcases hI with rfl | rfl | rfl | rfl | rfl <;> decide) (by rcases hI with rfl | rfl | rfl | rfl | rfl <;> decide)) hZ (wq hw 99 rfl) (wq hw 9 rfl) (by decide) (by decide)) e277 (argsL := [(.int ii)]) (rest := []) rfl rfl pd_16 rfl (by rw [hml]; rfl) (hb hby at_217) (Nat.le_of_eq rfl) (by decide) (by decide) k281
    have k287 : To p.tables e below S0 (T287.setTop (mkF m 220 l280 [(.int (own_at [r6, r9, r12, r15, r18, r21] (f + ii)))])) := k287a
    have N287 := N277.app Nq287
    have e287 : T287.heap = h273 := eq287
    have k288 : To p.tables e below S0 (T287.setTop (mkF m 227 l280 [(.int (f + ii)), (.ref b3), (.int (own_at [r6, r9, r12, r15, r18, r21] (f + ii)))])) := fun tt hq => k287 tt (by
      refine XS.aload X287.here hx rfl (hb hby at_220) rfl rfl ?_
      refine XS.iload X287.here hx rfl (hb hby at_222) rfl ?_
      refine XS.iload X287.here hx rfl (hb hby at_224) rfl ?_
      refine XS.iadd X287.here hx rfl (hb hby at_226) rfl ?_
      exact hq)
    obtain ⟨cl289, Ar289, -, S289, -, G289, -⟩ := id f286
    have hi289 := inb_of (j := (f + ii)) S289 (by rcases hd with rfl | rfl <;> rcases hI with rfl | rfl | rfl | rfl | rfl <;> decide)
    have st289 := fun tt => X287.caload hx (j := (f + ii)) (v := (.int (own_at [r6, r9, r12, r15, r18, r21] (f + ii)))) (by rw [e287]; exact Ar289.1) (State.isArrayOf_alike hZ.alike Ar289.2.1) Ar289.2.2 hi289 (G289.at hi289 (own_atv [r6, r9, r12, r15, r18, r21] (f + ii))) (g := (mkF m 227 l280 [(.int (f + ii)), (.ref b3), (.int (own_at [r6, r9, r12, r15, r18, r21] (f + ii)))])) rfl rfl (hb hby at_227) tt
    have k289 : To p.tables e below S0 (T287.setTop (mkF m 228 l280 [(.int (own_at [r6, r9, r12, r15, r18, r21] (f + ii))), (.int (own_at [r6, r9, r12, r15, r18, r21] (f + ii)))])) := fun tt hq => k288 tt (st289 tt hq)
    have k290 : To p.tables e below S0 (T287.setTop (mkF m 237 l280 [(.int ii), (.ref a273)])) := fun tt hq => k289 tt (by
      refine XS.icmpYes X287.here hx rfl (pc0 := 228) (pc' := 233) rfl (hb hby at_228) rfl (teq rfl).1 (by decide) (by decide) ?_
      refine XS.aload X287.here hx rfl (hb hby at_233) rfl rfl ?_
      refine XS.iload X287.here hx rfl (hb hby at_235) rfl ?_
      exact hq)
    obtain ⟨_, T291, L291, X291, ⟨rfl, Nq291, eq291⟩, k291a⟩ := callV' X287 hx hZ (y := (⟨"java/lang/String", "charAt", "(I)C"⟩ : MethodName)) (z := (⟨"java/lang/String", "charAt", "(I)C"⟩ : MethodName)) hown (wq hw 107 rfl) (wq hw 108 rfl) (notFace_of_selects (args := #[]) (mvT hZ (wq hw 110 rfl))) (wq hw 110 rfl) (wq hw 109 rfl) (by decide) P2730 (backC (W := 0) (rm_cs5 l Z a0 hw zc fm a273 t273 k273x (nar .byte ((own_at [r6, r9, r12, r15, r18, r21] f).toInt8.toInt32)) (nar .byte ((own_at [r6, r9, r12, r15, r18, r21] (f + (1 : Int32))).toInt8.toInt32)) (nar .byte ((own_at [r6, r9, r12, r15, r18, r21] ((f + (1 : Int32)) + (1 : Int32))).toInt8.toInt32)) (nar .byte ((own_at [r6, r9, r12, r15, r18, r21] (((f + (1 : Int32)) + (1 : Int32)) + (1 : Int32))).toInt8.toInt32)) (nar .byte ((own_at [r6, r9, r12, r15, r18, r21] ((((f + (1 : Int32)) + (1 : Int32)) + (1 : Int32)) + (1 : Int32))).toInt8.toInt32)) ii (own_at [r6, r9, r12, r15, r18, r21] (f + ii)) h273 n0 (by omega) S_c hzc S_f hfm f276 P2730 P2731 P2732 P2733 (by rcases hI with rfl | rfl | rfl | rfl | rfl <;> decide) (by rcases hI with rfl | rfl | rfl | rfl | rfl <;> decide) (by rcases hd with rfl | rfl <;> rcases hI with rfl | rfl | rfl | rfl | rfl <;> exact own_b255 (HM _))) hZ (wq hw 111 rfl) (wq hw 49 rfl) (by decide) (by decide)) e287 (argsL := [(.int ii)]) (rest := []) rfl rfl pd_16 rfl (by rw [hml]; rfl) (hb hby at_237) (Nat.le_of_eq rfl) (by decide) (by decide) k290
    have k291 : To p.tables e below S0 (T291.setTop (mkF m 240 l280 [(.int (own_at [r6, r9, r12, r15, r18, r21] (f + ii)))])) := k291a
    have N291 := N287.app Nq291
    have e291 : T291.heap = h273 := eq291
    have k292 : To p.tables e below S0 (T291.setTop (mkF m 247 l280 [(.int (f + ii)), (.ref b3), (.int (own_at [r6, r9, r12, r15, r18, r21] (f + ii)))])) := fun tt hq => k291 tt (by
      refine XS.aload X291.here hx rfl (hb hby at_240) rfl rfl ?_
      refine XS.iload X291.here hx rfl (hb hby at_242) rfl ?_
      refine XS.iload X291.here hx rfl (hb hby at_244) rfl ?_
      refine XS.iadd X291.here hx rfl (hb hby at_246) rfl ?_
      exact hq)
    obtain ⟨cl293, Ar293, -, S293, -, G293, -⟩ := id f286
    have hi293 := inb_of (j := (f + ii)) S293 (by rcases hd with rfl | rfl <;> rcases hI with rfl | rfl | rfl | rfl | rfl <;> decide)
    have st293 := fun tt => X291.caload hx (j := (f + ii)) (v := (.int (own_at [r6, r9, r12, r15, r18, r21] (f + ii)))) (by rw [e291]; exact Ar293.1) (State.isArrayOf_alike hZ.alike Ar293.2.1) Ar293.2.2 hi293 (G293.at hi293 (own_atv [r6, r9, r12, r15, r18, r21] (f + ii))) (g := (mkF m 247 l280 [(.int (f + ii)), (.ref b3), (.int (own_at [r6, r9, r12, r15, r18, r21] (f + ii)))])) rfl rfl (hb hby at_247) tt
    have k293 : To p.tables e below S0 (T291.setTop (mkF m 248 l280 [(.int (own_at [r6, r9, r12, r15, r18, r21] (f + ii))), (.int (own_at [r6, r9, r12, r15, r18, r21] (f + ii)))])) := fun tt hq => k292 tt (st293 tt hq)
    have k294 : To p.tables e below S0 (T291.setTop (mkF m 259 l280 [(.int (4 : Int32)), (.ref a273)])) := fun tt hq => k293 tt (by
      refine XS.icmpYes X291.here hx rfl (pc0 := 248) (pc' := 253) rfl (hb hby at_248) rfl (teq rfl).1 (by decide) (by decide) ?_
      refine XS.aload X291.here hx rfl (hb hby at_253) rfl rfl ?_
      refine XS.iload X291.here hx rfl (hb hby at_255) rfl ?_
      refine XS.iconst X291.here hx rfl (hb hby at_257) ?_
      refine XS.isub X291.here hx rfl (hb hby at_258) rfl ?_
      exact hq)
    obtain ⟨_, T295, L295, X295, ⟨rfl, Nq295, eq295⟩, k295a⟩ := callV' X291 hx hZ (y := (⟨"java/lang/String", "charAt", "(I)C"⟩ : MethodName)) (z := (⟨"java/lang/String", "charAt", "(I)C"⟩ : MethodName)) hown (wq hw 107 rfl) (wq hw 108 rfl) (notFace_of_selects (args := #[]) (mvT hZ (wq hw 110 rfl))) (wq hw 110 rfl) (wq hw 109 rfl) (by decide) P2730 (backC (W := 0) (rm_cs5 l Z a0 hw zc fm a273 t273 k273x (nar .byte ((own_at [r6, r9, r12, r15, r18, r21] f).toInt8.toInt32)) (nar .byte ((own_at [r6, r9, r12, r15, r18, r21] (f + (1 : Int32))).toInt8.toInt32)) (nar .byte ((own_at [r6, r9, r12, r15, r18, r21] ((f + (1 : Int32)) + (1 : Int32))).toInt8.toInt32)) (nar .byte ((own_at [r6, r9, r12, r15, r18, r21] (((f + (1 : Int32)) + (1 : Int32)) + (1 : Int32))).toInt8.toInt32)) (nar .byte ((own_at [r6, r9, r12, r15, r18, r21] ((((f + (1 : Int32)) + (1 : Int32)) + (1 : Int32)) + (1 : Int32))).toInt8.toInt32)) (4 : Int32) (own_at [r6, r9, r12, r15, r18, r21] ((((f + (1 : Int32)) + (1 : Int32)) + (1 : Int32)) + (1 : Int32))) h273 n0 (by omega) S_c hzc S_f hfm f276 P2730 P2731 P2732 P2733 (by decide) (by decide) (own_b255 (HM _))) hZ (wq hw 111 rfl) (wq hw 49 rfl) (by decide) (by decide)) e291 (argsL := [(.int (4 : Int32))]) (rest := []) rfl rfl pd_16 rfl (by rw [hml]; rfl) (hb hby at_259) (Nat.le_of_eq rfl) (by decide) (by decide) k294
    have k295 : To p.tables e below S0 (T295.setTop (mkF m 262 l280 [(.int (own_at [r6, r9, r12, r15, r18, r21] ((((f + (1 : Int32)) + (1 : Int32)) + (1 : Int32)) + (1 : Int32))))])) := k295a
    have N295 := N291.app Nq295
    have e295 : T295.heap = h273 := eq295
    have k296 : To p.tables e below S0 (T295.setTop (mkF m 268 l280 [(.int (e_ - (1 : Int32))), (.ref b3), (.int (own_at [r6, r9, r12, r15, r18, r21] ((((f + (1 : Int32)) + (1 : Int32)) + (1 : Int32)) + (1 : Int32))))])) := fun tt hq => k295 tt (by
      refine XS.aload X295.here hx rfl (hb hby at_262) rfl rfl ?_
      refine XS.iload X295.here hx rfl (hb hby at_264) rfl ?_
      refine XS.iconst X295.here hx rfl (hb hby at_266) ?_
      refine XS.isub X295.here hx rfl (hb hby at_267) rfl ?_
      exact hq)
    obtain ⟨cl297, Ar297, -, S297, -, G297, -⟩ := id f286
    have hi297 := inb_of (j := (e_ - (1 : Int32))) S297 (by rw [own_sub ht]; rcases hd with rfl | rfl <;> decide)
    have st297 := fun tt => X295.caload hx (j := (e_ - (1 : Int32))) (v := (.int (own_at [r6, r9, r12, r15, r18, r21] (e_ - (1 : Int32))))) (by rw [e295]; exact Ar297.1) (State.isArrayOf_alike hZ.alike Ar297.2.1) Ar297.2.2 hi297 (G297.at hi297 (own_atv [r6, r9, r12, r15, r18, r21] (e_ - (1 : Int32)))) (g := (mkF m 268 l280 [(.int (e_ - (1 : Int32))), (.ref b3), (.int (own_at [r6, r9, r12, r15, r18, r21] ((((f + (1 : Int32)) + (1 : Int32)) + (1 : Int32)) + (1 : Int32))))])) rfl rfl (hb hby at_268) tt
    have k297 : To p.tables e below S0 (T295.setTop (mkF m 269 l280 [(.int (own_at [r6, r9, r12, r15, r18, r21] (e_ - (1 : Int32)))), (.int (own_at [r6, r9, r12, r15, r18, r21] ((((f + (1 : Int32)) + (1 : Int32)) + (1 : Int32)) + (1 : Int32))))])) := fun tt hq => k296 tt (st297 tt hq)
    by_cases hc269_298 : (own_at [r6, r9, r12, r15, r18, r21] ((((f + (1 : Int32)) + (1 : Int32)) + (1 : Int32)) + (1 : Int32))) = (own_at [r6, r9, r12, r15, r18, r21] (e_ - (1 : Int32)))
    · -- pc 269, holds
      have k299 : To p.tables e below S0 (T295.setTop (mkF m 275 l280 [(.int (1 : Int32))])) := fun tt hq => k297 tt (by
        refine XS.icmpYes X295.here hx rfl (pc0 := 269) (pc' := 274) rfl (hb hby at_269) rfl (teq hc269_298).1 (by decide) (by decide) ?_
        refine XS.iconst X295.here hx rfl (hb hby at_274) ?_
        exact hq)
      refine retIntW X295 hx hZ (own_EW hw) hS0 (by omega) C273 e295 hret hlk (by simp) rfl (hb hby at_275) k299 ?_ (by decide) (by decide)
      exact ⟨rfl, N295⟩
    · -- pc 269, holds not
      exact absurd (by rw [own_sub ht]; rcases hd with rfl | rfl <;> rfl) hc269_298
  · -- the length 6
    have k300 : To p.tables e below S0 (T31.setTop (mkF m 112 l37 [(.int (6 : Int32))])) := by have hq := k38; rw [ht] at hq; exact hq
    let l301 : Array Slot := #[.val (.long p0), .second, .val (.int p2), .val (.int p3), .val (.int p4), .val (.ref b3), .val (.ref b24), .val (.int f), .val (.int e_), .val (.int (6 : Int32)), .unset, .unset, .unset]
    have k302 : To p.tables e below S0 (T31.setTop (mkF m 114 l301 [])) := fun tt hq => k300 tt (by
      refine XS.istore X31.here hx rfl (hb hby at_112) rfl (l' := l301) rfl ?_
      exact hq)
    obtain ⟨T303, h303, X303, e303, E303, A303, D303, -, st303⟩ := newO X31 hx hZ hown (wq hw 7 rfl) (wq hw 8 rfl) (wq hw 9 rfl) e31 (g := (mkF m 114 l301 [])) rfl (hb hby at_114) (by decide) (by decide)
    obtain ⟨b303, g303⟩ : ∃ z, z = h31.size := ⟨_, rfl⟩
    rw [← g303] at A303 D303 st303
    have k303 : To p.tables e below S0 (T303.setTop (mkF m 117 l301 [(.ref b303)])) := fun tt hq => k302 tt (st303 tt hq)
    have z303 : h31.size ≤ h303.size := E303.1
    have y303 : @LT.lt Nat instLTNat b303 h303.size := A303.lt
    have C303 := C31.trans (CHr.ext E303 C31.1)
    have F303_chars : Fld Z h303 b303 "strikebound/cli/InPlaceText" "chars" "[C" .null := D303 (Or.inl (wq hw 17 rfl)) (ty := (.array .char)) (by decide)
    have F303_start : Fld Z h303 b303 "strikebound/cli/InPlaceText" "start" "I" (.int (0 : Int32)) := D303 (Or.inl (wq hw 24 rfl)) (ty := .int) (by decide)
    have F303_length : Fld Z h303 b303 "strikebound/cli/InPlaceText" "length" "I" (.int (0 : Int32)) := D303 (Or.inl (wq hw 26 rfl)) (ty := .int) (by decide)
    have k304 : To p.tables e below S0 (T303.setTop (mkF m 118 l301 [(.ref b303), (.ref b303)])) := fun tt hq => k303 tt (by
      refine XS.dup X303.here hx rfl (hb hby at_117) rfl rfl ?_
      exact hq)
    obtain ⟨_, T305, L305, X305, ⟨u305, rfl, Nq305, Kq305, P3050, P3051, P3052, P3053⟩, k305a⟩ := callC' X303 hx hZ (y := (⟨"strikebound/cli/InPlaceText", "<init>", "()V"⟩ : MethodName)) rfl hown (wq hw 10 rfl) (wq hw 11 rfl) (wq hw 12 rfl) (by decide) (backC (W := 1) (rm_ii l Z a0 hw b303 h303 n0 (by omega) A303 F303_chars F303_start F303_length (by omega) (by omega)) hZ (wq hw 12 rfl) (wq hw 9 rfl) (by decide) (by decide)) e303 (argsL := []) (rest := [(.ref b303)]) rfl rfl pd_6 rfl (by rw [hml]; rfl) (hb hby at_118) (Nat.le_of_eq rfl) (by decide) (by decide) k304
    have k305 : To p.tables e below S0 (T305.setTop (mkF m 121 l301 [(.ref b303)])) := k305a
    have N305 := N31.app Nq305
    obtain ⟨h305, e305⟩ : ∃ z, T305.heap = z := ⟨_, rfl⟩
    rw [e305] at Kq305 P3050 P3051 P3052 P3053
    have z305 : h303.size ≤ h305.size := Kq305.1
    have C305 := C303.trans (CHr.keep Kq305 (sfS (Safe.exa hZ.alike A303 (by decide) (by decide)) sf0) C303.1)
    let l306 : Array Slot := #[.val (.long p0), .second, .val (.int p2), .val (.int p3), .val (.int p4), .val (.ref b3), .val (.ref b24), .val (.int f), .val (.int e_), .val (.int (6 : Int32)), .val (.ref b303), .unset, .unset]
    have k307 : To p.tables e below S0 (T305.setTop (mkF m 129 l306 [(.int (3 : Int32)), (.int (1 : Int32)), (.ref b24), (.ref b303)])) := fun tt hq => k305 tt (by
      refine XS.astore X305.here hx rfl (hb hby at_121) rfl rfl (l' := l306) rfl ?_
      refine XS.aload X305.here hx rfl (hb hby at_123) rfl rfl ?_
      refine XS.aload X305.here hx rfl (hb hby at_125) rfl rfl ?_
      refine XS.iconst X305.here hx rfl (hb hby at_127) ?_
      refine XS.iconst X305.here hx rfl (hb hby at_128) ?_
      exact hq)
    obtain ⟨_, T308, L308, X308, ⟨rfl, Nq308, Kq308, P3080, P3081, P3082, P3083⟩, k308a⟩ := callV' X305 hx hZ (y := (⟨"strikebound/cli/InPlaceText", "set", "([CII)V"⟩ : MethodName)) (z := (⟨"strikebound/cli/InPlaceText", "set", "([CII)V"⟩ : MethodName)) hown (wq hw 18 rfl) (wq hw 19 rfl) (notFace_of_selects (args := #[]) (mvT hZ (wq hw 21 rfl))) (wq hw 21 rfl) (wq hw 20 rfl) (by decide) P3050 (backC (W := 0) (rm_set l Z a0 hw b303 b24 (1 : Int32) (3 : Int32) (2 : Int32) u305 (0 : Int32) (0 : Int32) h305 n0 (by omega) P3050 P3051 P3052 P3053 (by omega) (by decide)) hZ (wq hw 22 rfl) (wq hw 9 rfl) (by decide) (by decide)) e305 (argsL := [(.ref b24), (.int (1 : Int32)), (.int (3 : Int32))]) (rest := []) rfl rfl pd_7 rfl (by rw [hml]; rfl) (hb hby at_129) (Nat.le_of_eq rfl) (by decide) (by decide) k307
    have k308 : To p.tables e below S0 (T308.setTop (mkF m 132 l306 [])) := k308a
    have N308 := N305.app Nq308
    obtain ⟨h308, e308⟩ : ∃ z, T308.heap = z := ⟨_, rfl⟩
    rw [e308] at Kq308 P3080 P3081 P3082 P3083
    have z308 : h305.size ≤ h308.size := Kq308.1
    have C308 := C305.trans (CHr.keep Kq308 (sfS (Safe.exa hZ.alike P3050 (by decide) (by decide)) sf0) C305.1)
    have k309 : To p.tables e below S0 (T308.setTop (mkF m 140 l306 [(.int e_), (.int f), (.ref b3), (.ref b303)])) := fun tt hq => k308 tt (by
      refine XS.aload X308.here hx rfl (hb hby at_132) rfl rfl ?_
      refine XS.aload X308.here hx rfl (hb hby at_134) rfl rfl ?_
      refine XS.iload X308.here hx rfl (hb hby at_136) rfl ?_
      refine XS.iload X308.here hx rfl (hb hby at_138) rfl ?_
      exact hq)
    obtain ⟨_, T310, L310, X310, ⟨rfl, Nq310, Kq310, P3100, P3101, P3102, P3103⟩, k310a⟩ := callV' X308 hx hZ (y := (⟨"strikebound/cli/InPlaceText", "set", "([CII)V"⟩ : MethodName)) (z := (⟨"strikebound/cli/InPlaceText", "set", "([CII)V"⟩ : MethodName)) hown (wq hw 18 rfl) (wq hw 19 rfl) (notFace_of_selects (args := #[]) (mvT hZ (wq hw 21 rfl))) (wq hw 21 rfl) (wq hw 20 rfl) (by decide) P3080 (backC (W := 0) (rm_set l Z a0 hw b303 b3 f e_ (6 : Int32) b24 (1 : Int32) (2 : Int32) h308 n0 (by omega) P3080 P3081 P3082 P3083 (by omega) ht) hZ (wq hw 22 rfl) (wq hw 9 rfl) (by decide) (by decide)) e308 (argsL := [(.ref b3), (.int f), (.int e_)]) (rest := []) rfl rfl pd_7 rfl (by rw [hml]; rfl) (hb hby at_140) (Nat.le_of_eq rfl) (by decide) (by decide) k309
    have k310 : To p.tables e below S0 (T310.setTop (mkF m 143 l306 [])) := k310a
    have N310 := N308.app Nq310
    obtain ⟨h310, e310⟩ : ∃ z, T310.heap = z := ⟨_, rfl⟩
    rw [e310] at Kq310 P3100 P3101 P3102 P3103
    have z310 : h308.size ≤ h310.size := Kq310.1
    have C310 := C308.trans (CHr.keep Kq310 (sfS (Safe.exa hZ.alike P3080 (by decide) (by decide)) sf0) C308.1)
    have k311 : To p.tables e below S0 (T310.setTop (mkF m 145 l306 [(.ref b303)])) := fun tt hq => k310 tt (by
      refine XS.aload X310.here hx rfl (hb hby at_143) rfl rfl ?_
      exact hq)
    obtain ⟨_, T312, L312, X312, ⟨rfl, Nq312, eq312⟩, k312a⟩ := callV' X310 hx hZ (y := (⟨"strikebound/cli/InPlaceText", "array", "()[C"⟩ : MethodName)) (z := (⟨"strikebound/cli/InPlaceText", "array", "()[C"⟩ : MethodName)) hown (wq hw 27 rfl) (wq hw 28 rfl) (notFace_of_selects (args := #[]) (mvT hZ (wq hw 30 rfl))) (wq hw 30 rfl) (wq hw 29 rfl) (by decide) P3100 (backC (W := 0) (rm_garray l Z a0 hw b303 b3 h310 n0 (by omega) P3101) hZ (wq hw 31 rfl) (wq hw 9 rfl) (by decide) (by decide)) e310 (argsL := []) (rest := []) rfl rfl pd_8 rfl (by rw [hml]; rfl) (hb hby at_145) (Nat.le_of_eq rfl) (by decide) (by decide) k311
    have k312 : To p.tables e below S0 (T312.setTop (mkF m 148 l306 [(.ref b3)])) := k312a
    have N312 := N310.app Nq312
    have e312 : T312.heap = h310 := eq312
    have k313 : To p.tables e below S0 (T312.setTop (mkF m 157 l306 [(.ref b303)])) := fun tt hq => k312 tt (by
      refine XS.aload X312.here hx rfl (hb hby at_148) rfl rfl ?_
      refine Jvm.RoadKit.acmp (g := (mkF m 150 l306 [(.ref b3), (.ref b3)])) X312 hx rfl rfl rfl (pc0 := 150) (pc' := 155) (same := true) rfl (hb hby at_150) rfl (decide_eq_true rfl) (by decide) (by decide) ?_
      refine XS.aload X312.here hx rfl (hb hby at_155) rfl rfl ?_
      exact hq)
    obtain ⟨_, T314, L314, X314, ⟨rfl, Nq314, eq314⟩, k314a⟩ := callV' X312 hx hZ (y := (⟨"strikebound/cli/InPlaceText", "start", "()I"⟩ : MethodName)) (z := (⟨"strikebound/cli/InPlaceText", "start", "()I"⟩ : MethodName)) hown (wq hw 32 rfl) (wq hw 33 rfl) (notFace_of_selects (args := #[]) (mvT hZ (wq hw 35 rfl))) (wq hw 35 rfl) (wq hw 34 rfl) (by decide) P3100 (backC (W := 0) (rm_gstart l Z a0 hw b303 f h310 n0 (by omega) P3102) hZ (wq hw 36 rfl) (wq hw 9 rfl) (by decide) (by decide)) e312 (argsL := []) (rest := []) rfl rfl pd_9 rfl (by rw [hml]; rfl) (hb hby at_157) (Nat.le_of_eq rfl) (by decide) (by decide) k313
    have k314 : To p.tables e below S0 (T314.setTop (mkF m 160 l306 [(.int f)])) := k314a
    have N314 := N312.app Nq314
    have e314 : T314.heap = h310 := eq314
    have k315 : To p.tables e below S0 (T314.setTop (mkF m 169 l306 [(.ref b303)])) := fun tt hq => k314 tt (by
      refine XS.iload X314.here hx rfl (hb hby at_160) rfl ?_
      refine XS.icmpYes X314.here hx rfl (pc0 := 162) (pc' := 167) rfl (hb hby at_162) rfl (teq rfl).1 (by decide) (by decide) ?_
      refine XS.aload X314.here hx rfl (hb hby at_167) rfl rfl ?_
      exact hq)
    obtain ⟨_, T316, L316, X316, ⟨rfl, Nq316, eq316⟩, k316a⟩ := callV' X314 hx hZ (y := (⟨"strikebound/cli/InPlaceText", "length", "()I"⟩ : MethodName)) (z := (⟨"strikebound/cli/InPlaceText", "length", "()I"⟩ : MethodName)) hown (wq hw 37 rfl) (wq hw 38 rfl) (notFace_of_selects (args := #[]) (mvT hZ (wq hw 40 rfl))) (wq hw 40 rfl) (wq hw 39 rfl) (by decide) P3100 (backC (W := 0) (rm_glength l Z a0 hw b303 (6 : Int32) h310 n0 (by omega) P3103) hZ (wq hw 41 rfl) (wq hw 9 rfl) (by decide) (by decide)) e314 (argsL := []) (rest := []) rfl rfl pd_9 rfl (by rw [hml]; rfl) (hb hby at_169) (Nat.le_of_eq rfl) (by decide) (by decide) k315
    have k316 : To p.tables e below S0 (T316.setTop (mkF m 172 l306 [(.int (6 : Int32))])) := k316a
    have N316 := N314.app Nq316
    have e316 : T316.heap = h310 := eq316
    have k317 : To p.tables e below S0 (T316.setTop (mkF m 181 l306 [(.ref b303)])) := fun tt hq => k316 tt (by
      refine XS.iload X316.here hx rfl (hb hby at_172) rfl ?_
      refine XS.icmpYes X316.here hx rfl (pc0 := 174) (pc' := 179) rfl (hb hby at_174) rfl (teq (by decide)).1 (by decide) (by decide) ?_
      refine XS.aload X316.here hx rfl (hb hby at_179) rfl rfl ?_
      exact hq)
    have f318 : Old Z n0 h310 := (((((((((((((((O0.ext E3).wr W7 (by omega)).wr W10 (by omega)).wr W13 (by omega)).wr W16 (by omega)).wr W19 (by omega)).wr W22 (by omega)).ext E24).wr W27 (by omega)).wr W29 (by omega)).wr W31 (by omega)).ext E303).keep Kq305 (allS (by omega) all0)).keep Kq308 (allS (by omega) all0)).keep Kq310 (allS (by omega) all0))
    have f319 : Arv Z h310 b3 c3 .char (6 : Int32) [(.int r6), (.int r9), (.int r12), (.int r15), (.int r18), (.int r21)] (.int (0 : Int32)) := ((((((((V22.ext E24).other W27 (adr_ne (by omega))).other W29 (adr_ne (by omega))).other W31 (adr_ne (by omega))).ext E303).keep Kq305 (nin1 (by omega))).keep Kq308 (nin1 (by omega))).keep Kq310 (nin1 (by omega)))
    obtain ⟨_, T320, L320, X320, ⟨a320, t320, k320x, rfl, Nq320, ya320, yt320, Kq320, P3200, P3201, P3202, P3203⟩, k320a⟩ := callV' X316 hx hZ (y := (⟨"strikebound/cli/InPlaceText", "toString", "()Ljava/lang/String;"⟩ : MethodName)) (z := (⟨"strikebound/cli/InPlaceText", "toString", "()Ljava/lang/String;"⟩ : MethodName)) hown (wq hw 42 rfl) (wq hw 43 rfl) (notFace_of_selects (args := #[]) (mvT hZ (wq hw 45 rfl))) (wq hw 45 rfl) (wq hw 44 rfl) (by decide) P3100 (backC (W := 0) (rm_ts_6 l Z a0 hw zc fm b303 b3 c3 f r6 r9 r12 r15 r18 r21 h310 n0 (by omega) S_c hzc S_f hfm f318 P3100 P3101 P3102 P3103 f319 (by omega) hd HM (by rcases hd with rfl <;> decide) (by rcases hd with rfl <;> decide)) hZ (wq hw 46 rfl) (wq hw 9 rfl) (by decide) (by decide)) e316 (argsL := []) (rest := []) rfl rfl pd_12 rfl (by rw [hml]; rfl) (hb hby at_181) (Nat.le_of_eq rfl) (by decide) (by decide) k317
    have k320 : To p.tables e below S0 (T320.setTop (mkF m 184 l306 [(.ref a320)])) := k320a
    have N320 := N316.app Nq320
    obtain ⟨h320, e320⟩ : ∃ z, T320.heap = z := ⟨_, rfl⟩
    rw [e320] at Kq320 ya320 yt320 P3200 P3201 P3202 P3203
    have z320 : h310.size ≤ h320.size := Kq320.1
    have C320 := C310.trans (CHr.keep Kq320 sf0 C310.1)
    let l321 : Array Slot := #[.val (.long p0), .second, .val (.int p2), .val (.int p3), .val (.int p4), .val (.ref b3), .val (.ref b24), .val (.int f), .val (.int e_), .val (.int (6 : Int32)), .val (.ref b303), .val (.ref a320), .unset]
    have k322 : To p.tables e below S0 (T320.setTop (mkF m 188 l321 [(.ref a320)])) := fun tt hq => k320 tt (by
      refine XS.astore X320.here hx rfl (hb hby at_184) rfl rfl (l' := l321) rfl ?_
      refine XS.aload X320.here hx rfl (hb hby at_186) rfl rfl ?_
      exact hq)
    have f323 : Old Z n0 h320 := (f318.keep Kq320 all0)
    obtain ⟨_, T324, L324, X324, ⟨rfl, Nq324, eq324⟩, k324a⟩ := callV' X320 hx hZ (y := (⟨"java/lang/String", "length", "()I"⟩ : MethodName)) (z := (⟨"java/lang/String", "length", "()I"⟩ : MethodName)) hown (wq hw 85 rfl) (wq hw 86 rfl) (notFace_of_selects (args := #[]) (mvT hZ (wq hw 88 rfl))) (wq hw 88 rfl) (wq hw 87 rfl) (by decide) P3200 (backC (W := 0) (rm_len6 l Z a0 hw zc a320 t320 k320x (nar .byte ((own_at [r6, r9, r12, r15, r18, r21] f).toInt8.toInt32)) (nar .byte ((own_at [r6, r9, r12, r15, r18, r21] (f + (1 : Int32))).toInt8.toInt32)) (nar .byte ((own_at [r6, r9, r12, r15, r18, r21] ((f + (1 : Int32)) + (1 : Int32))).toInt8.toInt32)) (nar .byte ((own_at [r6, r9, r12, r15, r18, r21] (((f + (1 : Int32)) + (1 : Int32)) + (1 : Int32))).toInt8.toInt32)) (nar .byte ((own_at [r6, r9, r12, r15, r18, r21] ((((f + (1 : Int32)) + (1 : Int32)) + (1 : Int32)) + (1 : Int32))).toInt8.toInt32)) (nar .byte ((own_at [r6, r9, r12, r15, r18, r21] (((((f + (1 : Int32)) + (1 : Int32)) + (1 : Int32)) + (1 : Int32)) + (1 : Int32))).toInt8.toInt32)) h320 n0 (by omega) S_c hzc f323 P3200 P3201 P3202 P3203) hZ (wq hw 89 rfl) (wq hw 49 rfl) (by decide) (by decide)) e320 (argsL := []) (rest := []) rfl rfl pd_9 rfl (by rw [hml]; rfl) (hb hby at_188) (Nat.le_of_eq rfl) (by decide) (by decide) k322
    have k324 : To p.tables e below S0 (T324.setTop (mkF m 191 l321 [(.int (6 : Int32))])) := k324a
    have N324 := N320.app Nq324
    have e324 : T324.heap = h320 := eq324
    have k325 : To p.tables e below S0 (T324.setTop (mkF m 211 l321 [(.int ((p4 &&& (2147483647 : Int32)) % (6 : Int32)))])) := fun tt hq => k324 tt (by
      refine XS.iload X324.here hx rfl (hb hby at_191) rfl ?_
      refine XS.icmpYes X324.here hx rfl (pc0 := 193) (pc' := 198) rfl (hb hby at_193) rfl (teq (by decide)).1 (by decide) (by decide) ?_
      refine XS.iload X324.here hx rfl (hb hby at_198) rfl ?_
      refine XS.ifNo X324.here hx rfl (hb hby at_200) rfl ((if0 _ _).trans (tlt (by decide)).2.2.2) ?_
      refine XS.iload X324.here hx rfl (hb hby at_203) rfl ?_
      refine X324.ldcInt hx hown (mvT hZ (wq hw 6 rfl)) (g := (mkF m 205 l321 [(.int p4)])) rfl (hb hby at_205) _ ?_
      refine XS.iand X324.here hx rfl (hb hby at_207) rfl ?_
      refine XS.iload X324.here hx rfl (hb hby at_208) rfl ?_
      refine iremM X324 hx rfl (hb hby at_210) rfl (by decide) ?_
      exact hq)
    obtain ⟨ii, hii⟩ : ∃ z : Int32, z = ((p4 &&& (2147483647 : Int32)) % (6 : Int32)) := ⟨_, rfl⟩
    have k326 : To p.tables e below S0 (T324.setTop (mkF m 211 l321 [(.int ii)])) := by rw [hii]; exact k325
    have hI := own_r6 p4
    rw [← hii] at hI
    let l327 : Array Slot := #[.val (.long p0), .second, .val (.int p2), .val (.int p3), .val (.int p4), .val (.ref b3), .val (.ref b24), .val (.int f), .val (.int e_), .val (.int (6 : Int32)), .val (.ref b303), .val (.ref a320), .val (.int ii)]
    have k328 : To p.tables e below S0 (T324.setTop (mkF m 217 l327 [(.int ii), (.ref b303)])) := fun tt hq => k326 tt (by
      refine XS.istore X324.here hx rfl (hb hby at_211) rfl (l' := l327) rfl ?_
      refine XS.aload X324.here hx rfl (hb hby at_213) rfl rfl ?_
      refine XS.iload X324.here hx rfl (hb hby at_215) rfl ?_
      exact hq)
    have f329 : Exa Z h320 b303 "strikebound/cli/InPlaceText" := (P3100.keep Kq320)
    have f330 : Fld Z h320 b303 "strikebound/cli/InPlaceText" "chars" "[C" (.ref b3) := (P3101.keep Kq320 nin0)
    have f331 : Fld Z h320 b303 "strikebound/cli/InPlaceText" "start" "I" (.int f) := (P3102.keep Kq320 nin0)
    have f332 : Fld Z h320 b303 "strikebound/cli/InPlaceText" "length" "I" (.int (6 : Int32)) := (P3103.keep Kq320 nin0)
    have f333 : Arv Z h320 b3 c3 .char (6 : Int32) [(.int r6), (.int r9), (.int r12), (.int r15), (.int r18), (.int r21)] (.int (0 : Int32)) := (f319.keep Kq320 nin0)
    obtain ⟨_, T334, L334, X334, ⟨rfl, Nq334, eq334⟩, k334a⟩ := callV' X324 hx hZ (y := (⟨"strikebound/cli/InPlaceText", "charAt", "(I)C"⟩ : MethodName)) (z := (⟨"strikebound/cli/InPlaceText", "charAt", "(I)C"⟩ : MethodName)) hown (wq hw 95 rfl) (wq hw 96 rfl) (notFace_of_selects (args := #[]) (mvT hZ (wq hw 98 rfl))) (wq hw 98 rfl) (wq hw 97 rfl) (by decide) f329 (backC (W := 0) (rm_ica l Z a0 hw b303 b3 c3 f r6 r9 r12 r15 r18 r21 (6 : Int32) ii h320 n0 (by omega) f329 f330 f331 f332 f333 HM (by rcases hd with rfl <;> rcases hI with rfl | rfl | rfl | rfl | rfl | rfl <;> decide) (by rcases hI with rfl | rfl | rfl | rfl | rfl | rfl <;> decide) (by rcases hI with rfl | rfl | rfl | rfl | rfl | rfl <;> decide)) hZ (wq hw 99 rfl) (wq hw 9 rfl) (by decide) (by decide)) e324 (argsL := [(.int ii)]) (rest := []) rfl rfl pd_16 rfl (by rw [hml]; rfl) (hb hby at_217) (Nat.le_of_eq rfl) (by decide) (by decide) k328
    have k334 : To p.tables e below S0 (T334.setTop (mkF m 220 l327 [(.int (own_at [r6, r9, r12, r15, r18, r21] (f + ii)))])) := k334a
    have N334 := N324.app Nq334
    have e334 : T334.heap = h320 := eq334
    have k335 : To p.tables e below S0 (T334.setTop (mkF m 227 l327 [(.int (f + ii)), (.ref b3), (.int (own_at [r6, r9, r12, r15, r18, r21] (f + ii)))])) := fun tt hq => k334 tt (by
      refine XS.aload X334.here hx rfl (hb hby at_220) rfl rfl ?_
      refine XS.iload X334.here hx rfl (hb hby at_222) rfl ?_
      refine XS.iload X334.here hx rfl (hb hby at_224) rfl ?_
      refine XS.iadd X334.here hx rfl (hb hby at_226) rfl ?_
      exact hq)
    obtain ⟨cl336, Ar336, -, S336, -, G336, -⟩ := id f333
    have hi336 := inb_of (j := (f + ii)) S336 (by rcases hd with rfl <;> rcases hI with rfl | rfl | rfl | rfl | rfl | rfl <;> decide)
    have st336 := fun tt => X334.caload hx (j := (f + ii)) (v := (.int (own_at [r6, r9, r12, r15, r18, r21] (f + ii)))) (by rw [e334]; exact Ar336.1) (State.isArrayOf_alike hZ.alike Ar336.2.1) Ar336.2.2 hi336 (G336.at hi336 (own_atv [r6, r9, r12, r15, r18, r21] (f + ii))) (g := (mkF m 227 l327 [(.int (f + ii)), (.ref b3), (.int (own_at [r6, r9, r12, r15, r18, r21] (f + ii)))])) rfl rfl (hb hby at_227) tt
    have k336 : To p.tables e below S0 (T334.setTop (mkF m 228 l327 [(.int (own_at [r6, r9, r12, r15, r18, r21] (f + ii))), (.int (own_at [r6, r9, r12, r15, r18, r21] (f + ii)))])) := fun tt hq => k335 tt (st336 tt hq)
    have k337 : To p.tables e below S0 (T334.setTop (mkF m 237 l327 [(.int ii), (.ref a320)])) := fun tt hq => k336 tt (by
      refine XS.icmpYes X334.here hx rfl (pc0 := 228) (pc' := 233) rfl (hb hby at_228) rfl (teq rfl).1 (by decide) (by decide) ?_
      refine XS.aload X334.here hx rfl (hb hby at_233) rfl rfl ?_
      refine XS.iload X334.here hx rfl (hb hby at_235) rfl ?_
      exact hq)
    obtain ⟨_, T338, L338, X338, ⟨rfl, Nq338, eq338⟩, k338a⟩ := callV' X334 hx hZ (y := (⟨"java/lang/String", "charAt", "(I)C"⟩ : MethodName)) (z := (⟨"java/lang/String", "charAt", "(I)C"⟩ : MethodName)) hown (wq hw 107 rfl) (wq hw 108 rfl) (notFace_of_selects (args := #[]) (mvT hZ (wq hw 110 rfl))) (wq hw 110 rfl) (wq hw 109 rfl) (by decide) P3200 (backC (W := 0) (rm_cs6 l Z a0 hw zc fm a320 t320 k320x (nar .byte ((own_at [r6, r9, r12, r15, r18, r21] f).toInt8.toInt32)) (nar .byte ((own_at [r6, r9, r12, r15, r18, r21] (f + (1 : Int32))).toInt8.toInt32)) (nar .byte ((own_at [r6, r9, r12, r15, r18, r21] ((f + (1 : Int32)) + (1 : Int32))).toInt8.toInt32)) (nar .byte ((own_at [r6, r9, r12, r15, r18, r21] (((f + (1 : Int32)) + (1 : Int32)) + (1 : Int32))).toInt8.toInt32)) (nar .byte ((own_at [r6, r9, r12, r15, r18, r21] ((((f + (1 : Int32)) + (1 : Int32)) + (1 : Int32)) + (1 : Int32))).toInt8.toInt32)) (nar .byte ((own_at [r6, r9, r12, r15, r18, r21] (((((f + (1 : Int32)) + (1 : Int32)) + (1 : Int32)) + (1 : Int32)) + (1 : Int32))).toInt8.toInt32)) ii (own_at [r6, r9, r12, r15, r18, r21] (f + ii)) h320 n0 (by omega) S_c hzc S_f hfm f323 P3200 P3201 P3202 P3203 (by rcases hI with rfl | rfl | rfl | rfl | rfl | rfl <;> decide) (by rcases hI with rfl | rfl | rfl | rfl | rfl | rfl <;> decide) (by rcases hd with rfl <;> rcases hI with rfl | rfl | rfl | rfl | rfl | rfl <;> exact own_b255 (HM _))) hZ (wq hw 111 rfl) (wq hw 49 rfl) (by decide) (by decide)) e334 (argsL := [(.int ii)]) (rest := []) rfl rfl pd_16 rfl (by rw [hml]; rfl) (hb hby at_237) (Nat.le_of_eq rfl) (by decide) (by decide) k337
    have k338 : To p.tables e below S0 (T338.setTop (mkF m 240 l327 [(.int (own_at [r6, r9, r12, r15, r18, r21] (f + ii)))])) := k338a
    have N338 := N334.app Nq338
    have e338 : T338.heap = h320 := eq338
    have k339 : To p.tables e below S0 (T338.setTop (mkF m 247 l327 [(.int (f + ii)), (.ref b3), (.int (own_at [r6, r9, r12, r15, r18, r21] (f + ii)))])) := fun tt hq => k338 tt (by
      refine XS.aload X338.here hx rfl (hb hby at_240) rfl rfl ?_
      refine XS.iload X338.here hx rfl (hb hby at_242) rfl ?_
      refine XS.iload X338.here hx rfl (hb hby at_244) rfl ?_
      refine XS.iadd X338.here hx rfl (hb hby at_246) rfl ?_
      exact hq)
    obtain ⟨cl340, Ar340, -, S340, -, G340, -⟩ := id f333
    have hi340 := inb_of (j := (f + ii)) S340 (by rcases hd with rfl <;> rcases hI with rfl | rfl | rfl | rfl | rfl | rfl <;> decide)
    have st340 := fun tt => X338.caload hx (j := (f + ii)) (v := (.int (own_at [r6, r9, r12, r15, r18, r21] (f + ii)))) (by rw [e338]; exact Ar340.1) (State.isArrayOf_alike hZ.alike Ar340.2.1) Ar340.2.2 hi340 (G340.at hi340 (own_atv [r6, r9, r12, r15, r18, r21] (f + ii))) (g := (mkF m 247 l327 [(.int (f + ii)), (.ref b3), (.int (own_at [r6, r9, r12, r15, r18, r21] (f + ii)))])) rfl rfl (hb hby at_247) tt
    have k340 : To p.tables e below S0 (T338.setTop (mkF m 248 l327 [(.int (own_at [r6, r9, r12, r15, r18, r21] (f + ii))), (.int (own_at [r6, r9, r12, r15, r18, r21] (f + ii)))])) := fun tt hq => k339 tt (st340 tt hq)
    have k341 : To p.tables e below S0 (T338.setTop (mkF m 259 l327 [(.int (5 : Int32)), (.ref a320)])) := fun tt hq => k340 tt (by
      refine XS.icmpYes X338.here hx rfl (pc0 := 248) (pc' := 253) rfl (hb hby at_248) rfl (teq rfl).1 (by decide) (by decide) ?_
      refine XS.aload X338.here hx rfl (hb hby at_253) rfl rfl ?_
      refine XS.iload X338.here hx rfl (hb hby at_255) rfl ?_
      refine XS.iconst X338.here hx rfl (hb hby at_257) ?_
      refine XS.isub X338.here hx rfl (hb hby at_258) rfl ?_
      exact hq)
    obtain ⟨_, T342, L342, X342, ⟨rfl, Nq342, eq342⟩, k342a⟩ := callV' X338 hx hZ (y := (⟨"java/lang/String", "charAt", "(I)C"⟩ : MethodName)) (z := (⟨"java/lang/String", "charAt", "(I)C"⟩ : MethodName)) hown (wq hw 107 rfl) (wq hw 108 rfl) (notFace_of_selects (args := #[]) (mvT hZ (wq hw 110 rfl))) (wq hw 110 rfl) (wq hw 109 rfl) (by decide) P3200 (backC (W := 0) (rm_cs6 l Z a0 hw zc fm a320 t320 k320x (nar .byte ((own_at [r6, r9, r12, r15, r18, r21] f).toInt8.toInt32)) (nar .byte ((own_at [r6, r9, r12, r15, r18, r21] (f + (1 : Int32))).toInt8.toInt32)) (nar .byte ((own_at [r6, r9, r12, r15, r18, r21] ((f + (1 : Int32)) + (1 : Int32))).toInt8.toInt32)) (nar .byte ((own_at [r6, r9, r12, r15, r18, r21] (((f + (1 : Int32)) + (1 : Int32)) + (1 : Int32))).toInt8.toInt32)) (nar .byte ((own_at [r6, r9, r12, r15, r18, r21] ((((f + (1 : Int32)) + (1 : Int32)) + (1 : Int32)) + (1 : Int32))).toInt8.toInt32)) (nar .byte ((own_at [r6, r9, r12, r15, r18, r21] (((((f + (1 : Int32)) + (1 : Int32)) + (1 : Int32)) + (1 : Int32)) + (1 : Int32))).toInt8.toInt32)) (5 : Int32) (own_at [r6, r9, r12, r15, r18, r21] (((((f + (1 : Int32)) + (1 : Int32)) + (1 : Int32)) + (1 : Int32)) + (1 : Int32))) h320 n0 (by omega) S_c hzc S_f hfm f323 P3200 P3201 P3202 P3203 (by decide) (by decide) (own_b255 (HM _))) hZ (wq hw 111 rfl) (wq hw 49 rfl) (by decide) (by decide)) e338 (argsL := [(.int (5 : Int32))]) (rest := []) rfl rfl pd_16 rfl (by rw [hml]; rfl) (hb hby at_259) (Nat.le_of_eq rfl) (by decide) (by decide) k341
    have k342 : To p.tables e below S0 (T342.setTop (mkF m 262 l327 [(.int (own_at [r6, r9, r12, r15, r18, r21] (((((f + (1 : Int32)) + (1 : Int32)) + (1 : Int32)) + (1 : Int32)) + (1 : Int32))))])) := k342a
    have N342 := N338.app Nq342
    have e342 : T342.heap = h320 := eq342
    have k343 : To p.tables e below S0 (T342.setTop (mkF m 268 l327 [(.int (e_ - (1 : Int32))), (.ref b3), (.int (own_at [r6, r9, r12, r15, r18, r21] (((((f + (1 : Int32)) + (1 : Int32)) + (1 : Int32)) + (1 : Int32)) + (1 : Int32))))])) := fun tt hq => k342 tt (by
      refine XS.aload X342.here hx rfl (hb hby at_262) rfl rfl ?_
      refine XS.iload X342.here hx rfl (hb hby at_264) rfl ?_
      refine XS.iconst X342.here hx rfl (hb hby at_266) ?_
      refine XS.isub X342.here hx rfl (hb hby at_267) rfl ?_
      exact hq)
    obtain ⟨cl344, Ar344, -, S344, -, G344, -⟩ := id f333
    have hi344 := inb_of (j := (e_ - (1 : Int32))) S344 (by rw [own_sub ht]; rcases hd with rfl <;> decide)
    have st344 := fun tt => X342.caload hx (j := (e_ - (1 : Int32))) (v := (.int (own_at [r6, r9, r12, r15, r18, r21] (e_ - (1 : Int32))))) (by rw [e342]; exact Ar344.1) (State.isArrayOf_alike hZ.alike Ar344.2.1) Ar344.2.2 hi344 (G344.at hi344 (own_atv [r6, r9, r12, r15, r18, r21] (e_ - (1 : Int32)))) (g := (mkF m 268 l327 [(.int (e_ - (1 : Int32))), (.ref b3), (.int (own_at [r6, r9, r12, r15, r18, r21] (((((f + (1 : Int32)) + (1 : Int32)) + (1 : Int32)) + (1 : Int32)) + (1 : Int32))))])) rfl rfl (hb hby at_268) tt
    have k344 : To p.tables e below S0 (T342.setTop (mkF m 269 l327 [(.int (own_at [r6, r9, r12, r15, r18, r21] (e_ - (1 : Int32)))), (.int (own_at [r6, r9, r12, r15, r18, r21] (((((f + (1 : Int32)) + (1 : Int32)) + (1 : Int32)) + (1 : Int32)) + (1 : Int32))))])) := fun tt hq => k343 tt (st344 tt hq)
    by_cases hc269_345 : (own_at [r6, r9, r12, r15, r18, r21] (((((f + (1 : Int32)) + (1 : Int32)) + (1 : Int32)) + (1 : Int32)) + (1 : Int32))) = (own_at [r6, r9, r12, r15, r18, r21] (e_ - (1 : Int32)))
    · -- pc 269, holds
      have k346 : To p.tables e below S0 (T342.setTop (mkF m 275 l327 [(.int (1 : Int32))])) := fun tt hq => k344 tt (by
        refine XS.icmpYes X342.here hx rfl (pc0 := 269) (pc' := 274) rfl (hb hby at_269) rfl (teq hc269_345).1 (by decide) (by decide) ?_
        refine XS.iconst X342.here hx rfl (hb hby at_274) ?_
        exact hq)
      refine retIntW X342 hx hZ (own_EW hw) hS0 (by omega) C320 e342 hret hlk (by simp) rfl (hb hby at_275) k346 ?_ (by decide) (by decide)
      exact ⟨rfl, N342⟩
    · -- pc 269, holds not
      exact absurd (by rw [own_sub ht]; rcases hd with rfl <;> rfl) hc269_345
set_option maxRecDepth 65536 in
set_option maxHeartbeats 40000000 in
theorem comes_1 {Post : Tables → Env → Array Value → State → Outcome → State → Prop} (hpost : ∀ tb e args s v u, (limb_1_1.after args s (.returned v) u = true ∧ limb_1_2.after args s (.returned v) u = true ∧ True) → ReturnedEndW s (.returned v) u (Jvm.fieldLocs frame_1_writes args s ++ Jvm.arrayLocs frame_1_arrays args s ++ Jvm.staticLocs frame_1_statics s) 24 1152 → Post tb e args s (.returned v) u) :
    ArmFor flags0 classFile x code maxLocals ret World_1 tables_1 room_1 Calls_1 rest_1 Pre_1 Post := by
  intro l hfl _ _ p e ha hc hk s m args below hf hA hF happ hP
  obtain ⟨hcalls, hrest, hpre⟩ := hP
  obtain ⟨-, -, -, hnamed, -, -, -, hat⟩ := (Spec.applies_iff hf).mp happ
  obtain ⟨hg, hn⟩ := and_e (Cond.before_iff.mp (show (Jvm.Cond.and given_1 narrow_1).before args s = true from hpre))
  obtain ⟨u1, u2⟩ := and_e hg
  obtain ⟨u3, u4⟩ := and_e u2
  obtain ⟨u5, u6⟩ := and_e u4
  obtain ⟨u7, u8⟩ := and_e u6
  obtain ⟨w0, w1, w2, w3, rfl⟩ : ∃ w0 w1 w2 w3 : Value, args = #[w0, w1, w2, w3] := by
    have hs : args.size = 4 := by simpa [Cond.value, given_1] using u1
    obtain ⟨L⟩ := args
    match L, hs with
    | [w0, w1, w2, w3], _ => exact ⟨w0, w1, w2, w3, rfl⟩
  have hw := fun d (hd : d ∈ tables_1) => atoms_spec (ws := Jvm.Cond.code x code maxLocals ret :: tables_1) hat d (List.mem_cons_of_mem _ hd)
  have hfit : Fit s := fun {y c} hc i hi => by
    obtain ⟨ha, rfl⟩ := Array.getElem?_eq_some_iff.mp hc
    have q := List.all_eq_true.mp ((Array.all_eq_true_iff_forall_mem.mp hF) _ (Array.getElem_mem ha)) i (List.mem_range.mpr hi)
    simpa [Array.getElem?_eq_getElem hi] using q
  obtain ⟨hsets, hown0⟩ := atoms_of _ (rest_1_c_eq ▸ (show rest_1_c.before _ s = true from hrest))
  obtain ⟨i0, ei0⟩ := isL_v u3
  obtain rfl : w0 = (.long i0) := Option.some.inj ei0
  obtain ⟨i1, ei1⟩ := is_v u5
  obtain rfl : w1 = (.int i1) := Option.some.inj ei1
  obtain ⟨i2, ei2⟩ := is_v u7
  obtain rfl : w2 = (.int i2) := Option.some.inj ei2
  obtain ⟨i3, ei3⟩ := is_v u8
  obtain rfl : w3 = (.int i3) := Option.some.inj ei3
  obtain ⟨zc, ezc⟩ := is_v (Cond.before_iff.mp (hsets _ (List.mem_of_getElem? (i := 1) rfl)))
  have S_c := Sta.start ezc (Or.inl (hsets _ (List.mem_of_getElem? (i := 0) rfl)))
  have hzc : ¬ zc = (0 : Int32) := own_nz ezc (Cond.before_iff.mp (hsets _ (List.mem_of_getElem? (i := 2) rfl)))
  obtain ⟨fm, efm, hfm⟩ := isR_v (Cond.before_iff.mp (hsets _ (List.mem_of_getElem? (i := 8) rfl)))
  have S_f := Sta.start efm (Or.inl (hsets _ (List.mem_of_getElem? (i := 7) rfl)))
  obtain ⟨n, o, h1, h2, h3, _, L, rfl, ⟨rfl, N⟩, -, hq⟩ := rm0 l s _ hw zc fm i0 i1 i2 i3 s.heap s.heap.size (Nat.le_refl _) S_c hzc S_f hfm (Old.start s) p e ha hc hk s m _ below hf ((Spec.applies_iff_loose hf).mp happ).1 ⟨rfl, State.Warmed39.refl s, rfl, (CHv.start (own_EW hw) (fun q hq => hcalls.1 q hq) (hsets _ (List.mem_of_getElem? (i := 2) rfl)) (wq hw 74 rfl) (wq hw 48 rfl)), fun _ q => nomatch q⟩ trivial
  refine ⟨n, _, h1, h2, h3, hpost _ _ _ _ _ _ ⟨Cond.after_iff.mpr rfl, Cond.after_iff.mpr (eq_i res_at (Term.int_eval (1)) rfl), trivial⟩ ⟨hq.1, hq.2.1, hq.2.2.1, (hq.2.2.2.sift fun y hy => Or.inr (N y hy)).mono (by decide) (by decide)⟩⟩
theorem main_1_1 : Claimed_1_1 := comes_1 fun _ _ _ _ _ _ h hF => ⟨h.1, hF⟩
theorem main_1_2 : Claimed_1_2 := comes_1 fun _ _ _ _ _ _ h hF => ⟨h.2.1, hF⟩
end Jvm.Pilot.@@N@@
namespace Jvm.Pilot.@@N@@
open Jvm Jvm.ClassFile Sem Op Lib Jvm.Free Jvm.Stand Jvm.Pilot.@@N@@.Jvm.D
/-! MADE BY PROGRAM (witnessworld.py) out of the Statement's table words and the real class files: 21 classes; the members and pool entries that the words name. The judged class is class 1, her method 2. -/
namespace start1
open Jvm.ClassFile
def u (s : String) : CpInfo := .utf8 (stringToUtf16 s)
/-- a pool by its gaps: so many unusable entries, then the entry; so many at the end -/
def gap : Nat → List CpInfo → List CpInfo
  | 0, r => r
  | n + 1, r => .unusable :: gap n r
def poolList (es : List (Nat × CpInfo)) (last : Nat) : List CpInfo := es.foldr (fun e r => gap e.1 (e.2 :: r)) (gap last [])
def pool (es : List (Nat × CpInfo)) (last : Nat) : Array CpInfo := ⟨poolList es last⟩
def fileOf (pool : Array CpInfo) (this : Nat) (attrs : Array Attribute := #[]) (ms : Array MethodInfo := #[]) (fl : Nat := 33) (sup : Nat := 0) (ifs : Array Nat := #[]) (fds : Array FieldInfo := #[]) : ClassFile where
  minorVersion := 0
  majorVersion := 65
  constantPool := pool
  accessFlags := fl
  thisClass := this
  superClass := sup
  interfaces := ifs
  fields := fds
  methods := ms
  attributes := attrs
def plain (name : String) (sup : Option ClassId) : Class where
  name := name
  kind := .ordinary
  loader := none
  accessFlags := 33
  super := sup
  interfaces := #[]
  cf := none
  fields := #[]
  methods := #[]
  instanceTypes := #[]
  staticTypes := #[]
  resolved := #[]
  callSites := []
  init := .initialized
  statics := none
  mirror := none

def pool0 : Array CpInfo := pool [(5, u "<init>"), (0, u "()V"), (1, .class_ 10), (1, u "java/lang/Object")] 113

def k0c0 : Code := { maxStack := 0, maxLocals := 1, code := object_method_1_code, exceptionTable := #[], attributes := #[] }
def k0m0 : Method := { name := "<init>", desc := "()V", sig := { parameters := [], returnType := none }, accessFlags := 1, code := some k0c0 }
/-- java/lang/Object -/
def k0 : Class := { plain "java/lang/Object" none with
  accessFlags := 33
  interfaces := #[]
  cf := some (fileOf pool0 8 #[] #[{ accessFlags := 1, nameIndex := 5, descriptorIndex := 6, attributes := #[] }] 33 0 #[] #[])
  fields := #[]
  methods := #[k0m0]
  instanceTypes := #[]
  staticTypes := #[]
  resolved := Array.replicate 124 none
  statics := none }

def pool1 : Array CpInfo := pool [(2, .class_ 4), (0, .nameAndType 5 6), (0, u "java/lang/Object"), (0, u "<init>"), (0, u "()V"), (0, .long 255), (1, .methodref 10 11), (0, .class_ 12), (0, .nameAndType 13 14), (0, u "strikebound/cli/InPlaceTextSetPinLaw"), (0, u "ch"), (0, u "(JI)C"), (0, .integer 2147483647), (0, .class_ 17), (0, u "strikebound/cli/InPlaceText"), (0, .methodref 16 3), (0, .methodref 16 20), (0, .nameAndType 21 22), (0, u "set"), (0, u "([CII)V"), (0, .methodref 16 24), (0, .nameAndType 25 26), (0, u "array"), (0, u "()[C"), (0, .methodref 16 28), (0, .nameAndType 29 30), (0, u "start"), (0, u "()I"), (0, .methodref 16 32), (0, .nameAndType 33 30), (0, u "length"), (0, .methodref 16 35), (0, .nameAndType 36 37), (0, u "toString"), (0, u "()Ljava/lang/String;"), (0, .methodref 39 32), (0, .class_ 40), (0, u "java/lang/String"), (0, .methodref 16 42), (0, .nameAndType 43 44), (0, u "charAt"), (0, u "(I)C"), (0, .methodref 39 42), (2, u "law"), (0, u "(JIII)Z")] 5

def k1m0 : Method := { name := "<init>", desc := "()V", sig := { parameters := [], returnType := none }, accessFlags := 1, code := none }
def k1c1 : Code := { maxStack := 4, maxLocals := 3, code := method_2_code, exceptionTable := #[], attributes := #[] }
def k1m1 : Method := { name := "ch", desc := "(JI)C", sig := { parameters := [.long, .int], returnType := some .char }, accessFlags := 10, code := some k1c1 }
def k1c2 : Code := { maxStack := 5, maxLocals := 13, code := code, exceptionTable := #[], attributes := #[] }
def k1m2 : Method := { name := "law", desc := "(JIII)Z", sig := { parameters := [.long, .int, .int, .int], returnType := some .boolean }, accessFlags := 9, code := some k1c2 }
/-- strikebound/cli/InPlaceTextSetPinLaw -/
def k1 : Class := { plain "strikebound/cli/InPlaceTextSetPinLaw" (some 0) with
  accessFlags := 49
  interfaces := #[]
  cf := some (fileOf pool1 10 #[] #[{ accessFlags := 1, nameIndex := 5, descriptorIndex := 6, attributes := #[] }, { accessFlags := 10, nameIndex := 13, descriptorIndex := 14, attributes := #[] }, { accessFlags := 9, nameIndex := 48, descriptorIndex := 49, attributes := #[] }] 49 2 #[] #[])
  fields := #[]
  methods := #[k1m0, k1m1, k1m2]
  instanceTypes := #[]
  staticTypes := #[]
  resolved := Array.replicate 55 none
  statics := none }

def pool2 : Array CpInfo := pool [(2, .class_ 4), (1, u "java/lang/CharSequence"), (42, .class_ 48), (0, u "java/lang/CharSequence$1CodePointIterator"), (10, .class_ 60), (0, u "java/lang/CharSequence$1CharIterator"), (5, .class_ 67), (0, u "java/lang/Object")] 63

/-- java/lang/CharSequence -/
def k2 : Class := { plain "java/lang/CharSequence" (some 0) with
  accessFlags := 1537
  interfaces := #[]
  cf := some (fileOf pool2 2 #[.nestMembers #[47, 59]] #[] 1537 66 #[] #[])
  fields := #[]
  methods := #[]
  instanceTypes := #[]
  staticTypes := #[]
  resolved := Array.replicate 131 none
  statics := none }

def pool3 : Array CpInfo := pool [(1, .methodref 2 3), (0, .class_ 4), (0, .nameAndType 5 6), (0, u "java/lang/Object"), (0, u "<init>"), (0, u "()V"), (0, .fieldref 8 9), (0, .class_ 10), (0, .nameAndType 11 12), (0, u "strikebound/cli/InPlaceText"), (0, u "chars"), (0, u "[C"), (0, .fieldref 8 14), (0, .nameAndType 15 16), (0, u "start"), (0, u "I"), (0, .fieldref 8 18), (0, .nameAndType 19 16), (0, u "length"), (0, .methodref 21 22), (0, .class_ 23), (0, .nameAndType 24 25), (0, u "java/util/Objects"), (0, u "checkIndex"), (0, u "(II)I"), (4, .class_ 31), (0, u "java/lang/String"), (0, .methodref 30 33), (0, .nameAndType 5 34), (0, u "([CII)V"), (0, .class_ 36), (0, u "java/lang/CharSequence"), (2, u "set"), (0, u "array"), (0, u "()[C"), (0, u "()I"), (0, u "charAt"), (0, u "(I)C"), (2, u "toString"), (0, u "()Ljava/lang/String;")] 2

def k3c0 : Code := { maxStack := 2, maxLocals := 1, code := prog_26_method_1_code, exceptionTable := #[], attributes := #[] }
def k3m0 : Method := { name := "<init>", desc := "()V", sig := { parameters := [], returnType := none }, accessFlags := 0, code := some k3c0 }
def k3c1 : Code := { maxStack := 3, maxLocals := 4, code := prog_26_method_2_code, exceptionTable := #[], attributes := #[] }
def k3m1 : Method := { name := "set", desc := "([CII)V", sig := { parameters := [(.array .char), .int, .int], returnType := none }, accessFlags := 0, code := some k3c1 }
def k3c2 : Code := { maxStack := 1, maxLocals := 1, code := prog_26_method_3_code, exceptionTable := #[], attributes := #[] }
def k3m2 : Method := { name := "array", desc := "()[C", sig := { parameters := [], returnType := some (.array .char) }, accessFlags := 0, code := some k3c2 }
def k3c3 : Code := { maxStack := 1, maxLocals := 1, code := prog_26_method_4_code, exceptionTable := #[], attributes := #[] }
def k3m3 : Method := { name := "start", desc := "()I", sig := { parameters := [], returnType := some .int }, accessFlags := 0, code := some k3c3 }
def k3c4 : Code := { maxStack := 1, maxLocals := 1, code := prog_26_method_5_code, exceptionTable := #[], attributes := #[] }
def k3m4 : Method := { name := "length", desc := "()I", sig := { parameters := [], returnType := some .int }, accessFlags := 1, code := some k3c4 }
def k3c5 : Code := { maxStack := 4, maxLocals := 2, code := prog_26_method_6_code, exceptionTable := #[], attributes := #[] }
def k3m5 : Method := { name := "charAt", desc := "(I)C", sig := { parameters := [.int], returnType := some .char }, accessFlags := 1, code := some k3c5 }
def k3c6 : Code := { maxStack := 5, maxLocals := 1, code := prog_26_method_8_code, exceptionTable := #[], attributes := #[] }
def k3m6 : Method := { name := "toString", desc := "()Ljava/lang/String;", sig := { parameters := [], returnType := some (.object "java/lang/String") }, accessFlags := 1, code := some k3c6 }
/-- strikebound/cli/InPlaceText -/
def k3 : Class := { plain "strikebound/cli/InPlaceText" (some 0) with
  accessFlags := 48
  interfaces := #[2]
  cf := some (fileOf pool3 8 #[] #[{ accessFlags := 0, nameIndex := 5, descriptorIndex := 6, attributes := #[] }, { accessFlags := 0, nameIndex := 39, descriptorIndex := 34, attributes := #[] }, { accessFlags := 0, nameIndex := 40, descriptorIndex := 41, attributes := #[] }, { accessFlags := 0, nameIndex := 15, descriptorIndex := 42, attributes := #[] }, { accessFlags := 1, nameIndex := 19, descriptorIndex := 42, attributes := #[] }, { accessFlags := 1, nameIndex := 43, descriptorIndex := 44, attributes := #[] }, { accessFlags := 1, nameIndex := 47, descriptorIndex := 48, attributes := #[] }] 48 2 #[35] #[{ accessFlags := 2, nameIndex := 11, descriptorIndex := 12, attributes := #[] }, { accessFlags := 2, nameIndex := 15, descriptorIndex := 16, attributes := #[] }, { accessFlags := 2, nameIndex := 19, descriptorIndex := 16, attributes := #[] }])
  fields := #[{ name := "chars", type := (.array .char), accessFlags := 2, slot := 0, constantValue := 0 }, { name := "start", type := .int, accessFlags := 2, slot := 1, constantValue := 0 }, { name := "length", type := .int, accessFlags := 2, slot := 2, constantValue := 0 }]
  methods := #[k3m0, k3m1, k3m2, k3m3, k3m4, k3m5, k3m6]
  instanceTypes := #[(.array .char), .int, .int]
  staticTypes := #[]
  resolved := Array.replicate 51 none
  statics := none }

def pool4 : Array CpInfo := pool [(1, .class_ 2), (0, u "java/io/Serializable"), (0, .class_ 4), (0, u "java/lang/Object")] 2

/-- java/io/Serializable -/
def k4 : Class := { plain "java/io/Serializable" (some 0) with
  accessFlags := 1537
  interfaces := #[]
  cf := some (fileOf pool4 1 #[] #[] 1537 3 #[] #[])
  fields := #[]
  methods := #[]
  instanceTypes := #[]
  staticTypes := #[]
  resolved := Array.replicate 7 none
  statics := none }

def pool5 : Array CpInfo := pool [(1, .class_ 2), (0, u "java/lang/Comparable"), (0, .class_ 4), (0, u "java/lang/Object")] 7

/-- java/lang/Comparable -/
def k5 : Class := { plain "java/lang/Comparable" (some 0) with
  accessFlags := 1537
  interfaces := #[]
  cf := some (fileOf pool5 1 #[] #[] 1537 3 #[] #[])
  fields := #[]
  methods := #[]
  instanceTypes := #[]
  staticTypes := #[]
  resolved := Array.replicate 12 none
  statics := none }

def pool6 : Array CpInfo := pool [(1, .class_ 2), (0, u "java/lang/constant/Constable"), (0, .class_ 4), (0, u "java/lang/Object")] 6

/-- java/lang/constant/Constable -/
def k6 : Class := { plain "java/lang/constant/Constable" (some 0) with
  accessFlags := 1537
  interfaces := #[]
  cf := some (fileOf pool6 1 #[] #[] 1537 3 #[] #[])
  fields := #[]
  methods := #[]
  instanceTypes := #[]
  staticTypes := #[]
  resolved := Array.replicate 11 none
  statics := none }

def pool7 : Array CpInfo := pool [(1, .class_ 2), (0, u "java/lang/constant/ConstantDesc"), (0, .class_ 4), (0, u "java/lang/Object")] 32

/-- java/lang/constant/ConstantDesc -/
def k7 : Class := { plain "java/lang/constant/ConstantDesc" (some 0) with
  accessFlags := 1537
  interfaces := #[]
  cf := some (fileOf pool7 1 #[] #[] 1537 3 #[] #[])
  fields := #[]
  methods := #[]
  instanceTypes := #[]
  staticTypes := #[]
  resolved := Array.replicate 37 none
  statics := none }

def pool8 : Array CpInfo := pool [(1, .methodref 2 3), (0, .class_ 4), (0, .nameAndType 5 6), (0, u "java/lang/Object"), (0, u "<init>"), (0, u "()V"), (0, .string 8), (0, u ""), (0, .fieldref 10 11), (0, .class_ 12), (0, .nameAndType 13 14), (0, u "java/lang/String"), (0, u "value"), (0, u "[B"), (0, .fieldref 10 16), (0, .nameAndType 17 18), (0, u "coder"), (0, u "B"), (2, u "hash"), (0, u "I"), (2, u "hashIsZero"), (0, u "Z"), (0, .methodref 10 28), (0, .nameAndType 5 29), (0, u "([CIILjava/lang/Void;)V"), (0, .methodref 10 31), (0, .nameAndType 32 33), (0, u "rangeCheck"), (0, u "([CII)Ljava/lang/Void;"), (0, .methodref 10 35), (0, .nameAndType 36 37), (0, u "checkBoundsOffCount"), (0, u "(III)I"), (0, .fieldref 10 39), (0, .nameAndType 40 26), (0, u "COMPACT_STRINGS"), (1, .class_ 44), (1, u "java/lang/StringUTF16"), (0, u "compress"), (1, .methodref 42 48), (0, .nameAndType 49 50), (0, u "coderFromArrayLen"), (0, u "([BI)B"), (56, .class_ 109), (1, u "java/lang/StringLatin1"), (32, u "()Z"), (34, .methodref 42 178), (0, .nameAndType 45 179), (0, u "([CII)[B"), (154, u "()I"), (0, .methodref 10 336), (0, .nameAndType 17 337), (0, u "()B"), (25, u "([BI)C"), (27, u "(II)V"), (35, u "(I)C"), (64, .methodref 10 493), (0, .nameAndType 494 142), (0, u "isLatin1"), (0, .methodref 107 496), (0, .nameAndType 497 363), (0, u "charAt"), (3, u "checkIndex"), (5, u "length"), (67, .class_ 576), (0, u "java/lang/CharSequence"), (22, u "CASE_INSENSITIVE_ORDER"), (0, u "Ljava/util/Comparator;"), (371, u "([CII)V"), (80, .fieldref 1054 1055), (0, .class_ 1056), (0, .nameAndType 1057 1058), (0, u "jdk/internal/util/Preconditions"), (0, u "SIOOBE_FORMATTER"), (0, u "Ljava/util/function/BiFunction;"), (0, .methodref 1054 1060), (0, .nameAndType 501 1061), (0, u "(IILjava/util/function/BiFunction;)I"), (2, u "(IIILjava/util/function/BiFunction;)I"), (0, .methodref 1054 1066), (0, .nameAndType 1067 1064), (0, u "checkFromIndexSize"), (33, u "serialPersistentFields"), (0, u "[Ljava/io/ObjectStreamField;"), (0, .class_ 1104), (0, u "java/lang/String$CaseInsensitiveComparator"), (1, .class_ 1107), (0, u "java/io/Serializable"), (0, .class_ 1109), (0, u "java/lang/Comparable"), (0, .class_ 1111), (0, u "java/lang/constant/Constable"), (0, .class_ 1113), (0, u "java/lang/constant/ConstantDesc"), (2, u "serialVersionUID"), (0, u "J"), (3, u "REPL"), (0, u "C"), (2, u "LATIN1"), (1, u "UTF16")] 323

def k8m0 : Method := { name := "<init>", desc := "()V", sig := { parameters := [], returnType := none }, accessFlags := 1, code := none }
def k8c1 : Code := { maxStack := 7, maxLocals := 4, code := jdk_42_method_4_code, exceptionTable := #[], attributes := #[] }
def k8m1 : Method := { name := "<init>", desc := "([CII)V", sig := { parameters := [(.array .char), .int, .int], returnType := none }, accessFlags := 1, code := some k8c1 }
def k8c2 : Code := { maxStack := 3, maxLocals := 3, code := jdk_42_method_5_code, exceptionTable := #[], attributes := #[] }
def k8m2 : Method := { name := "rangeCheck", desc := "([CII)Ljava/lang/Void;", sig := { parameters := [(.array .char), .int, .int], returnType := some (.object "java/lang/Void") }, accessFlags := 10, code := some k8c2 }
def k8c3 : Code := { maxStack := 2, maxLocals := 1, code := jdk_42_method_54_code, exceptionTable := #[], attributes := #[] }
def k8m3 : Method := { name := "length", desc := "()I", sig := { parameters := [], returnType := some .int }, accessFlags := 1, code := some k8c3 }
def k8c4 : Code := { maxStack := 2, maxLocals := 2, code := jdk_42_method_56_code, exceptionTable := #[], attributes := #[] }
def k8m4 : Method := { name := "charAt", desc := "(I)C", sig := { parameters := [.int], returnType := some .char }, accessFlags := 1, code := some k8c4 }
def k8c5 : Code := { maxStack := 4, maxLocals := 6, code := jdk_42_method_149_code, exceptionTable := #[], attributes := #[] }
def k8m5 : Method := { name := "<init>", desc := "([CIILjava/lang/Void;)V", sig := { parameters := [(.array .char), .int, .int, (.object "java/lang/Void")], returnType := none }, accessFlags := 2, code := some k8c5 }
def k8c6 : Code := { maxStack := 1, maxLocals := 1, code := jdk_42_method_152_code, exceptionTable := #[], attributes := #[] }
def k8m6 : Method := { name := "coder", desc := "()B", sig := { parameters := [], returnType := some .byte }, accessFlags := 0, code := some k8c6 }
def k8c7 : Code := { maxStack := 1, maxLocals := 1, code := jdk_42_method_154_code, exceptionTable := #[], attributes := #[] }
def k8m7 : Method := { name := "isLatin1", desc := "()Z", sig := { parameters := [], returnType := some .boolean }, accessFlags := 0, code := some k8c7 }
def k8c8 : Code := { maxStack := 3, maxLocals := 2, code := jdk_42_method_155_code, exceptionTable := #[], attributes := #[] }
def k8m8 : Method := { name := "checkIndex", desc := "(II)V", sig := { parameters := [.int, .int], returnType := none }, accessFlags := 8, code := some k8c8 }
def k8c9 : Code := { maxStack := 4, maxLocals := 3, code := jdk_42_method_157_code, exceptionTable := #[], attributes := #[] }
def k8m9 : Method := { name := "checkBoundsOffCount", desc := "(III)I", sig := { parameters := [.int, .int, .int], returnType := some .int }, accessFlags := 8, code := some k8c9 }
/-- java/lang/String -/
def k8 : Class := { plain "java/lang/String" (some 0) with
  accessFlags := 49
  interfaces := #[4, 5, 2, 6, 7]
  cf := some (fileOf pool8 10 #[.nestMembers #[1103]] #[{ accessFlags := 1, nameIndex := 5, descriptorIndex := 6, attributes := #[] }, { accessFlags := 1, nameIndex := 5, descriptorIndex := 972, attributes := #[] }, { accessFlags := 10, nameIndex := 32, descriptorIndex := 33, attributes := #[] }, { accessFlags := 1, nameIndex := 507, descriptorIndex := 334, attributes := #[] }, { accessFlags := 1, nameIndex := 497, descriptorIndex := 427, attributes := #[] }, { accessFlags := 2, nameIndex := 5, descriptorIndex := 29, attributes := #[] }, { accessFlags := 0, nameIndex := 17, descriptorIndex := 337, attributes := #[] }, { accessFlags := 0, nameIndex := 494, descriptorIndex := 142, attributes := #[] }, { accessFlags := 8, nameIndex := 501, descriptorIndex := 391, attributes := #[] }, { accessFlags := 8, nameIndex := 36, descriptorIndex := 37, attributes := #[] }] 49 2 #[1106, 1108, 575, 1110, 1112] #[{ accessFlags := 18, nameIndex := 13, descriptorIndex := 14, attributes := #[] }, { accessFlags := 18, nameIndex := 17, descriptorIndex := 18, attributes := #[] }, { accessFlags := 2, nameIndex := 21, descriptorIndex := 22, attributes := #[] }, { accessFlags := 2, nameIndex := 25, descriptorIndex := 26, attributes := #[] }, { accessFlags := 26, nameIndex := 1116, descriptorIndex := 1117, attributes := #[] }, { accessFlags := 24, nameIndex := 40, descriptorIndex := 26, attributes := #[] }, { accessFlags := 26, nameIndex := 1101, descriptorIndex := 1102, attributes := #[] }, { accessFlags := 26, nameIndex := 1121, descriptorIndex := 1122, attributes := #[] }, { accessFlags := 25, nameIndex := 599, descriptorIndex := 600, attributes := #[] }, { accessFlags := 24, nameIndex := 1125, descriptorIndex := 18, attributes := #[] }, { accessFlags := 24, nameIndex := 1127, descriptorIndex := 18, attributes := #[] }])
  fields := #[{ name := "value", type := (.array .byte), accessFlags := 18, slot := 0, constantValue := 0 }, { name := "coder", type := .byte, accessFlags := 18, slot := 1, constantValue := 0 }, { name := "hash", type := .int, accessFlags := 2, slot := 2, constantValue := 0 }, { name := "hashIsZero", type := .boolean, accessFlags := 2, slot := 3, constantValue := 0 }, { name := "serialVersionUID", type := .long, accessFlags := 26, slot := 0, constantValue := 0 }, { name := "COMPACT_STRINGS", type := .boolean, accessFlags := 24, slot := 1, constantValue := 0 }, { name := "serialPersistentFields", type := (.array (.object "java/io/ObjectStreamField")), accessFlags := 26, slot := 2, constantValue := 0 }, { name := "REPL", type := .char, accessFlags := 26, slot := 3, constantValue := 0 }, { name := "CASE_INSENSITIVE_ORDER", type := (.object "java/util/Comparator"), accessFlags := 25, slot := 4, constantValue := 0 }, { name := "LATIN1", type := .byte, accessFlags := 24, slot := 5, constantValue := 0 }, { name := "UTF16", type := .byte, accessFlags := 24, slot := 6, constantValue := 0 }]
  methods := #[k8m0, k8m1, k8m2, k8m3, k8m4, k8m5, k8m6, k8m7, k8m8, k8m9]
  instanceTypes := #[(.array .byte), .byte, .int, .boolean]
  staticTypes := #[.long, .boolean, (.array (.object "java/io/ObjectStreamField")), .char, (.object "java/util/Comparator"), .byte, .byte]
  resolved := Array.replicate 1451 none
  statics := some 0 }

def pool9 : Array CpInfo := pool [(2, .class_ 4), (1, u "java/lang/Object"), (0, u "<init>"), (0, u "()V"), (17, .class_ 26), (1, u "jdk/internal/util/Preconditions"), (6, u "checkIndex"), (15, u "checkFromIndexSize"), (5, .class_ 56), (0, u "jdk/internal/util/Preconditions$4"), (57, .class_ 115), (0, u "jdk/internal/util/Preconditions$1"), (7, u "SIOOBE_FORMATTER"), (0, u "Ljava/util/function/BiFunction;"), (0, .class_ 126), (0, u "jdk/internal/util/Preconditions$2"), (3, u "AIOOBE_FORMATTER"), (0, .class_ 132), (0, u "jdk/internal/util/Preconditions$3"), (3, u "IOOBE_FORMATTER"), (41, u "(IILjava/util/function/BiFunction;)I"), (4, u "(IIILjava/util/function/BiFunction;)I")] 10

def k9m0 : Method := { name := "<init>", desc := "()V", sig := { parameters := [], returnType := none }, accessFlags := 1, code := none }
def k9c1 : Code := { maxStack := 3, maxLocals := 3, code := jdk_41_method_11_code, exceptionTable := #[], attributes := #[] }
def k9m1 : Method := { name := "checkIndex", desc := "(IILjava/util/function/BiFunction;)I", sig := { parameters := [.int, .int, (.object "java/util/function/BiFunction")], returnType := some .int }, accessFlags := 9, code := some k9c1 }
def k9c2 : Code := { maxStack := 4, maxLocals := 4, code := jdk_41_method_13_code, exceptionTable := #[], attributes := #[] }
def k9m2 : Method := { name := "checkFromIndexSize", desc := "(IIILjava/util/function/BiFunction;)I", sig := { parameters := [.int, .int, .int, (.object "java/util/function/BiFunction")], returnType := some .int }, accessFlags := 9, code := some k9c2 }
/-- jdk/internal/util/Preconditions -/
def k9 : Class := { plain "jdk/internal/util/Preconditions" (some 0) with
  accessFlags := 33
  interfaces := #[]
  cf := some (fileOf pool9 24 #[.nestMembers #[55, 131, 125, 114]] #[{ accessFlags := 1, nameIndex := 5, descriptorIndex := 6, attributes := #[] }, { accessFlags := 9, nameIndex := 33, descriptorIndex := 178, attributes := #[] }, { accessFlags := 9, nameIndex := 49, descriptorIndex := 183, attributes := #[] }] 33 2 #[] #[{ accessFlags := 25, nameIndex := 123, descriptorIndex := 124, attributes := #[] }, { accessFlags := 25, nameIndex := 130, descriptorIndex := 124, attributes := #[] }, { accessFlags := 25, nameIndex := 136, descriptorIndex := 124, attributes := #[] }])
  fields := #[{ name := "SIOOBE_FORMATTER", type := (.object "java/util/function/BiFunction"), accessFlags := 25, slot := 0, constantValue := 0 }, { name := "AIOOBE_FORMATTER", type := (.object "java/util/function/BiFunction"), accessFlags := 25, slot := 1, constantValue := 0 }, { name := "IOOBE_FORMATTER", type := (.object "java/util/function/BiFunction"), accessFlags := 25, slot := 2, constantValue := 0 }]
  methods := #[k9m0, k9m1, k9m2]
  instanceTypes := #[]
  staticTypes := #[(.object "java/util/function/BiFunction"), (.object "java/util/function/BiFunction"), (.object "java/util/function/BiFunction")]
  resolved := Array.replicate 194 none
  statics := some 1 }

def pool10 : Array CpInfo := pool [(6, .class_ 8), (1, u "java/lang/Object"), (0, u "<init>"), (0, u "()V"), (1, .class_ 14), (1, u "java/lang/StringUTF16"), (31, u "$assertionsDisabled"), (0, u "Z"), (13, u "HI_BYTE_SHIFT"), (0, u "I"), (2, u "LO_BYTE_SHIFT"), (49, .methodref 12 116), (0, .nameAndType 117 118), (0, u "compress"), (0, u "([CI[BII)I"), (3, u "([CII)[B"), (138, u "coderFromArrayLen"), (0, u "([BI)B"), (106, .class_ 371), (1, u "java/lang/StringUTF16$LinesSpliterator"), (58, u "MAX_LENGTH"), (196, .class_ 628), (0, u "java/lang/StringUTF16$CodePointsSpliterator"), (0, .class_ 630), (0, u "java/lang/StringUTF16$CharsSpliterator")] 4

def k10m0 : Method := { name := "<init>", desc := "()V", sig := { parameters := [], returnType := none }, accessFlags := 0, code := none }
def k10c1 : Code := { maxStack := 2, maxLocals := 2, code := jdk_52_method_15_code, exceptionTable := #[], attributes := #[] }
def k10m1 : Method := { name := "coderFromArrayLen", desc := "([BI)B", sig := { parameters := [(.array .byte), .int], returnType := some .byte }, accessFlags := 8, code := some k10c1 }
def k10c2 : Code := { maxStack := 5, maxLocals := 6, code := jdk_52_method_16_code, exceptionTable := #[], attributes := #[] }
def k10m2 : Method := { name := "compress", desc := "([CII)[B", sig := { parameters := [(.array .char), .int, .int], returnType := some (.array .byte) }, accessFlags := 9, code := some k10c2 }
def k10c3 : Code := { maxStack := 3, maxLocals := 7, code := jdk_52_method_21_code, exceptionTable := #[], attributes := #[] }
def k10m3 : Method := { name := "compress", desc := "([CI[BII)I", sig := { parameters := [(.array .char), .int, (.array .byte), .int, .int], returnType := some .int }, accessFlags := 9, code := some k10c3 }
/-- java/lang/StringUTF16 -/
def k10 : Class := { plain "java/lang/StringUTF16" (some 0) with
  accessFlags := 48
  interfaces := #[]
  cf := some (fileOf pool10 12 #[.nestMembers #[627, 629, 369]] #[{ accessFlags := 0, nameIndex := 9, descriptorIndex := 10, attributes := #[] }, { accessFlags := 8, nameIndex := 261, descriptorIndex := 262, attributes := #[] }, { accessFlags := 9, nameIndex := 117, descriptorIndex := 122, attributes := #[] }, { accessFlags := 9, nameIndex := 117, descriptorIndex := 118, attributes := #[] }] 48 6 #[] #[{ accessFlags := 26, nameIndex := 61, descriptorIndex := 62, attributes := #[] }, { accessFlags := 26, nameIndex := 65, descriptorIndex := 62, attributes := #[] }, { accessFlags := 24, nameIndex := 430, descriptorIndex := 62, attributes := #[] }, { accessFlags := 4120, nameIndex := 46, descriptorIndex := 47, attributes := #[] }])
  fields := #[{ name := "HI_BYTE_SHIFT", type := .int, accessFlags := 26, slot := 0, constantValue := 0 }, { name := "LO_BYTE_SHIFT", type := .int, accessFlags := 26, slot := 1, constantValue := 0 }, { name := "MAX_LENGTH", type := .int, accessFlags := 24, slot := 2, constantValue := 0 }, { name := "$assertionsDisabled", type := .boolean, accessFlags := 4120, slot := 3, constantValue := 0 }]
  methods := #[k10m0, k10m1, k10m2, k10m3]
  instanceTypes := #[]
  staticTypes := #[.int, .int, .int, .boolean]
  resolved := Array.replicate 635 none
  statics := none }

def pool11 : Array CpInfo := pool [(2, .class_ 4), (1, u "java/lang/Object"), (0, u "<init>"), (0, u "()V"), (35, .class_ 44), (1, u "java/util/Objects"), (60, .methodref 106 107), (0, .class_ 108), (0, .nameAndType 109 110), (0, u "jdk/internal/util/Preconditions"), (0, u "checkIndex"), (0, u "(IILjava/util/function/BiFunction;)I"), (60, u "(II)I")] 12

def k11m0 : Method := { name := "<init>", desc := "()V", sig := { parameters := [], returnType := none }, accessFlags := 2, code := none }
def k11c1 : Code := { maxStack := 3, maxLocals := 2, code := jdk_31_method_17_code, exceptionTable := #[], attributes := #[] }
def k11m1 : Method := { name := "checkIndex", desc := "(II)I", sig := { parameters := [.int, .int], returnType := some .int }, accessFlags := 9, code := some k11c1 }
/-- java/util/Objects -/
def k11 : Class := { plain "java/util/Objects" (some 0) with
  accessFlags := 49
  interfaces := #[]
  cf := some (fileOf pool11 42 #[] #[{ accessFlags := 2, nameIndex := 5, descriptorIndex := 6, attributes := #[] }, { accessFlags := 9, nameIndex := 109, descriptorIndex := 171, attributes := #[] }] 49 2 #[] #[])
  fields := #[]
  methods := #[k11m0, k11m1]
  instanceTypes := #[]
  staticTypes := #[]
  resolved := Array.replicate 184 none
  statics := none }

def pool12 : Array CpInfo := pool [(1, .class_ 2), (0, u "java/lang/String"), (1, .class_ 6), (1, u "java/lang/Object"), (0, u "<init>"), (0, u "()V"), (0, .methodref 1 10), (0, .nameAndType 11 12), (0, u "checkIndex"), (0, u "(II)V"), (1, .class_ 16), (1, u "java/lang/StringLatin1"), (36, u "([BI)C"), (67, u "$assertionsDisabled"), (0, u "Z"), (98, .class_ 223), (1, u "java/lang/StringLatin1$LinesSpliterator"), (28, u "charAt"), (137, .class_ 391), (0, u "java/lang/StringLatin1$CharsSpliterator")] 3

def k12m0 : Method := { name := "<init>", desc := "()V", sig := { parameters := [], returnType := none }, accessFlags := 0, code := none }
def k12c1 : Code := { maxStack := 2, maxLocals := 2, code := jdk_43_method_2_code, exceptionTable := #[], attributes := #[] }
def k12m1 : Method := { name := "charAt", desc := "([BI)C", sig := { parameters := [(.array .byte), .int], returnType := some .char }, accessFlags := 9, code := some k12c1 }
/-- java/lang/StringLatin1 -/
def k12 : Class := { plain "java/lang/StringLatin1" (some 0) with
  accessFlags := 48
  interfaces := #[]
  cf := some (fileOf pool12 14 #[.nestMembers #[390, 221]] #[{ accessFlags := 0, nameIndex := 7, descriptorIndex := 8, attributes := #[] }, { accessFlags := 9, nameIndex := 252, descriptorIndex := 53, attributes := #[] }] 48 4 #[] #[{ accessFlags := 4120, nameIndex := 121, descriptorIndex := 122, attributes := #[] }])
  fields := #[{ name := "$assertionsDisabled", type := .boolean, accessFlags := 4120, slot := 0, constantValue := 0 }]
  methods := #[k12m0, k12m1]
  instanceTypes := #[]
  staticTypes := #[.boolean]
  resolved := Array.replicate 395 none
  statics := none }

def pool13 : Array CpInfo := pool [(9, u "<init>"), (6, .class_ 18), (1, u "java/lang/Object"), (0, u "()V"), (1, .class_ 23), (1, u "jdk/internal/util/ArraysSupport"), (0, u "LOG2_ARRAY_LONG_INDEX_SCALE"), (0, u "I"), (2, u "U"), (0, u "Ljdk/internal/misc/Unsafe;"), (8, u "BIG_ENDIAN"), (0, u "Z"), (8, u "LOG2_BYTE_BIT_SIZE"), (4, u "LOG2_ARRAY_INT_INDEX_SCALE"), (54, u "JLA"), (0, u "Ljdk/internal/access/JavaLangAccess;"), (11, u "LOG2_ARRAY_BOOLEAN_INDEX_SCALE"), (9, u "LOG2_ARRAY_BYTE_INDEX_SCALE"), (5, u "LOG2_ARRAY_CHAR_INDEX_SCALE"), (5, u "LOG2_ARRAY_SHORT_INDEX_SCALE"), (18, u "LOG2_ARRAY_FLOAT_INDEX_SCALE"), (24, u "LOG2_ARRAY_DOUBLE_INDEX_SCALE"), (89, u "T_BOOLEAN"), (2, u "T_CHAR"), (1, u "T_FLOAT"), (1, u "T_DOUBLE"), (1, u "T_BYTE"), (1, u "T_SHORT"), (1, u "T_INT"), (1, u "T_LONG"), (1, u "SOFT_MAX_ARRAY_LENGTH")] 83

def k13m0 : Method := { name := "<init>", desc := "()V", sig := { parameters := [], returnType := none }, accessFlags := 2, code := none }
/-- jdk/internal/util/ArraysSupport -/
def k13 : Class := { plain "jdk/internal/util/ArraysSupport" (some 0) with
  accessFlags := 33
  interfaces := #[]
  cf := some (fileOf pool13 21 #[] #[{ accessFlags := 2, nameIndex := 9, descriptorIndex := 19, attributes := #[] }] 33 16 #[] #[{ accessFlags := 24, nameIndex := 28, descriptorIndex := 29, attributes := #[] }, { accessFlags := 26, nameIndex := 38, descriptorIndex := 39, attributes := #[] }, { accessFlags := 25, nameIndex := 121, descriptorIndex := 25, attributes := #[] }, { accessFlags := 25, nameIndex := 131, descriptorIndex := 25, attributes := #[] }, { accessFlags := 25, nameIndex := 137, descriptorIndex := 25, attributes := #[] }, { accessFlags := 25, nameIndex := 143, descriptorIndex := 25, attributes := #[] }, { accessFlags := 25, nameIndex := 53, descriptorIndex := 25, attributes := #[] }, { accessFlags := 25, nameIndex := 24, descriptorIndex := 25, attributes := #[] }, { accessFlags := 25, nameIndex := 162, descriptorIndex := 25, attributes := #[] }, { accessFlags := 25, nameIndex := 187, descriptorIndex := 25, attributes := #[] }, { accessFlags := 26, nameIndex := 48, descriptorIndex := 25, attributes := #[] }, { accessFlags := 25, nameIndex := 277, descriptorIndex := 25, attributes := #[] }, { accessFlags := 25, nameIndex := 280, descriptorIndex := 25, attributes := #[] }, { accessFlags := 25, nameIndex := 282, descriptorIndex := 25, attributes := #[] }, { accessFlags := 25, nameIndex := 284, descriptorIndex := 25, attributes := #[] }, { accessFlags := 25, nameIndex := 286, descriptorIndex := 25, attributes := #[] }, { accessFlags := 25, nameIndex := 288, descriptorIndex := 25, attributes := #[] }, { accessFlags := 25, nameIndex := 290, descriptorIndex := 25, attributes := #[] }, { accessFlags := 25, nameIndex := 292, descriptorIndex := 25, attributes := #[] }, { accessFlags := 26, nameIndex := 108, descriptorIndex := 109, attributes := #[] }, { accessFlags := 25, nameIndex := 294, descriptorIndex := 25, attributes := #[] }])
  fields := #[{ name := "U", type := (.object "jdk/internal/misc/Unsafe"), accessFlags := 24, slot := 0, constantValue := 0 }, { name := "BIG_ENDIAN", type := .boolean, accessFlags := 26, slot := 1, constantValue := 0 }, { name := "LOG2_ARRAY_BOOLEAN_INDEX_SCALE", type := .int, accessFlags := 25, slot := 2, constantValue := 0 }, { name := "LOG2_ARRAY_BYTE_INDEX_SCALE", type := .int, accessFlags := 25, slot := 3, constantValue := 0 }, { name := "LOG2_ARRAY_CHAR_INDEX_SCALE", type := .int, accessFlags := 25, slot := 4, constantValue := 0 }, { name := "LOG2_ARRAY_SHORT_INDEX_SCALE", type := .int, accessFlags := 25, slot := 5, constantValue := 0 }, { name := "LOG2_ARRAY_INT_INDEX_SCALE", type := .int, accessFlags := 25, slot := 6, constantValue := 0 }, { name := "LOG2_ARRAY_LONG_INDEX_SCALE", type := .int, accessFlags := 25, slot := 7, constantValue := 0 }, { name := "LOG2_ARRAY_FLOAT_INDEX_SCALE", type := .int, accessFlags := 25, slot := 8, constantValue := 0 }, { name := "LOG2_ARRAY_DOUBLE_INDEX_SCALE", type := .int, accessFlags := 25, slot := 9, constantValue := 0 }, { name := "LOG2_BYTE_BIT_SIZE", type := .int, accessFlags := 26, slot := 10, constantValue := 0 }, { name := "T_BOOLEAN", type := .int, accessFlags := 25, slot := 11, constantValue := 0 }, { name := "T_CHAR", type := .int, accessFlags := 25, slot := 12, constantValue := 0 }, { name := "T_FLOAT", type := .int, accessFlags := 25, slot := 13, constantValue := 0 }, { name := "T_DOUBLE", type := .int, accessFlags := 25, slot := 14, constantValue := 0 }, { name := "T_BYTE", type := .int, accessFlags := 25, slot := 15, constantValue := 0 }, { name := "T_SHORT", type := .int, accessFlags := 25, slot := 16, constantValue := 0 }, { name := "T_INT", type := .int, accessFlags := 25, slot := 17, constantValue := 0 }, { name := "T_LONG", type := .int, accessFlags := 25, slot := 18, constantValue := 0 }, { name := "JLA", type := (.object "jdk/internal/access/JavaLangAccess"), accessFlags := 26, slot := 19, constantValue := 0 }, { name := "SOFT_MAX_ARRAY_LENGTH", type := .int, accessFlags := 25, slot := 20, constantValue := 0 }]
  methods := #[k13m0]
  instanceTypes := #[]
  staticTypes := #[(.object "jdk/internal/misc/Unsafe"), .boolean, .int, .int, .int, .int, .int, .int, .int, .int, .int, .int, .int, .int, .int, .int, .int, .int, .int, (.object "jdk/internal/access/JavaLangAccess"), .int]
  resolved := Array.replicate 378 none
  statics := none }

def pool14 : Array CpInfo := pool [(1, u "java/lang/Cloneable"), (0, .class_ 1), (0, u "java/lang/Object"), (0, .class_ 3)] 3

/-- java/lang/Cloneable -/
def k14 : Class := { plain "java/lang/Cloneable" (some 0) with
  accessFlags := 1537
  interfaces := #[]
  cf := some (fileOf pool14 2 #[] #[] 1537 4 #[] #[])
  fields := #[]
  methods := #[]
  instanceTypes := #[]
  staticTypes := #[]
  resolved := Array.replicate 8 none
  statics := none }

/-- the primitive byte -/
def k15 : Class := { plain "byte" none with kind := .primitive 'B', accessFlags := 0x411 }
/-- [B -/
def k16 : Class := { plain "[B" (some 0) with kind := .array 15 .byte, interfaces := #[14, 4], accessFlags := 1041 }

/-- the primitive char -/
def k17 : Class := { plain "char" none with kind := .primitive 'C', accessFlags := 0x411 }
/-- [C -/
def k18 : Class := { plain "[C" (some 0) with kind := .array 17 .char, interfaces := #[14, 4], accessFlags := 1041 }

/-- the primitive int -/
def k19 : Class := { plain "int" none with kind := .primitive 'I', accessFlags := 0x411 }
/-- [I -/
def k20 : Class := { plain "[I" (some 0) with kind := .array 19 .int, interfaces := #[14, 4], accessFlags := 1041 }

def heap : Heap := #[{ cls := 8, slots := #[.long 0, .int 1, .null, .int 0, .null, .int 0, .int 0], vm := .statics 8 },
  { cls := 9, slots := #[.null, .null, .null], vm := .statics 9 }]
def classes : Array Class := #[k0, k1, k2, k3, k4, k5, k6, k7, k8, k9, k10, k11, k12, k13, k14, k15, k16, k17, k18, k19, k20]
def interned : List (Array UInt16 × Addr) := []
def slotsUsed : Nat := 10
def theMethod : MethodId := ⟨1, 2⟩
def args0 : Array Value := #[.long 5, .int 6, .int 7, .int 8]
def aboutOver (below : List Frame) : State where
  vm := { classes := classes, interned := interned.toArray }
  heap := heap
  slotsUsed := slotsUsed
  threads := #[{ frames := .invoking theMethod args0 :: below }]
def below0 : List Frame := [.native { method := ⟨0, 0⟩, args := #[] }]
def about1 : State := aboutOver below0
def p0 : Program := .bare "" "" ""
def e0 : Env := launch0.env 0 0 0
theorem w_frames : about1.frames = Frame.invoking theMethod args0 :: below0 := rfl
set_option maxRecDepth 65536 in
theorem w_args : argsFit about1.vm theMethod args0 = true := by decide +kernel
set_option maxRecDepth 65536 in
theorem w_heap : heapFits about1 = true := by decide +kernel
set_option maxRecDepth 65536 in
theorem w_runnable : about1.curStatus? = some .runnable := by decide +kernel
set_option maxRecDepth 65536 in
theorem w_alone : about1.alone = true := by decide +kernel
set_option maxRecDepth 65536 in
theorem w_named : about1.methodNamed? x = some theMethod := by decide +kernel
set_option maxRecDepth 65536 in
theorem w_hears : about1.hears theMethod below0 = true := by decide +kernel
set_option maxRecDepth 65536 in
theorem w_ripe : about1.ripe theMethod args0 below0 = true := by decide +kernel
theorem w_running : about1.status = .running := rfl
set_option maxRecDepth 65536 in
theorem w_room : about1.hasRoom e0.platform room_1 = true :=
  launch0.hasRoom_least _ room_1 (by decide +kernel) (by decide +kernel) (by decide +kernel) (by decide +kernel) (by decide +kernel) (by decide +kernel)
theorem allAtoms_all (ts : List Jvm.Cond) (a : Array Jvm.Value) (st : Jvm.State) : (allAtoms ts).before a st = ts.all (fun c => c.before a st) := by
  induction ts with
  | nil => rfl
  | cons c t ih =>
    show (Jvm.Cond.and c (allAtoms t)).before a st = _
    rw [Jvm.Cond.before_and, ih, List.all_cons]
def words1 : List Jvm.Cond := Jvm.Cond.code x code maxLocals ret :: tables_1
/-- a 'code' word, met by the world's own term for the bytes: nothing is compared byte by byte -/
theorem code_word {y : MethodName} {bytes : ByteArray} {mx : Nat} {rt : Option FieldType} {a : Array Value} {s : State} {m : MethodId} {meth : Method} {c : Code} (h1 : s.methodNamed? y = some m) (h2 : s.vm.method? m = some meth) (h3 : meth.code = some c) (h4 : c.code = bytes)
    (h5 : (c.maxLocals == mx && c.exceptionTable.isEmpty && decide (c.maxStack ≤ mostOperands) && decide (meth.sig.returnType = rt) && !meth.locks && decide (parseMethodDescriptor y.desc = some meth.sig)) = true) : (Jvm.Cond.code y bytes mx rt).before a s = true := by
  simp only [Bool.and_eq_true, beq_iff_eq, Bool.not_eq_true', decide_eq_true_eq] at h5
  obtain ⟨⟨⟨⟨⟨g1, g2⟩, g3⟩, g4⟩, g5⟩, g6⟩ := h5
  simp [Cond.before, Cond.holds, Cond.value, h1, h2, h3, h4, g1, g2, g3, g4, g5, g6]
def isCode : Jvm.Cond → Bool
  | .code _ _ _ _ => true
  | _ => false
theorem all_split {L : List Jvm.Cond} {P : Jvm.Cond → Bool} (h1 : L.all (fun c => isCode c || P c) = true) (h2 : ∀ c ∈ L.filter isCode, P c = true) : L.all P = true := by
  refine List.all_eq_true.mpr fun c hc => ?_
  have h := List.all_eq_true.mp h1 c hc
  rcases Bool.eq_false_or_eq_true (isCode c) with hi | hi
  · exact h2 c (List.mem_filter.mpr ⟨hc, hi⟩)
  · simpa [hi] using h
set_option maxRecDepth 65536 in
theorem w_c0 : (Jvm.Cond.code x code maxLocals ret).before args0 about1 = true := code_word (m := ⟨1, 2⟩) (meth := k1m2) (c := k1c2) (by decide +kernel) rfl rfl rfl (by decide +kernel)
set_option maxRecDepth 65536 in
theorem w_c1 : (Jvm.Cond.code ({ cls := "strikebound/cli/InPlaceTextSetPinLaw", name := "ch", desc := "(JI)C" } : Jvm.MethodName) method_2_code (3 : Nat) (Option.some Jvm.ClassFile.FieldType.char)).before args0 about1 = true := code_word (m := ⟨1, 1⟩) (meth := k1m1) (c := k1c1) (by decide +kernel) rfl rfl rfl (by decide +kernel)
set_option maxRecDepth 65536 in
theorem w_c2 : (Jvm.Cond.code ({ cls := "strikebound/cli/InPlaceText", name := "<init>", desc := "()V" } : Jvm.MethodName) prog_26_method_1_code (1 : Nat) (Option.none : Option Jvm.ClassFile.FieldType)).before args0 about1 = true := code_word (m := ⟨3, 0⟩) (meth := k3m0) (c := k3c0) (by decide +kernel) rfl rfl rfl (by decide +kernel)
set_option maxRecDepth 65536 in
theorem w_c3 : (Jvm.Cond.code ({ cls := "java/lang/Object", name := "<init>", desc := "()V" } : Jvm.MethodName) object_method_1_code (1 : Nat) (Option.none : Option Jvm.ClassFile.FieldType)).before args0 about1 = true := code_word (m := ⟨0, 0⟩) (meth := k0m0) (c := k0c0) (by decide +kernel) rfl rfl rfl (by decide +kernel)
set_option maxRecDepth 65536 in
theorem w_c4 : (Jvm.Cond.code ({ cls := "strikebound/cli/InPlaceText", name := "set", desc := "([CII)V" } : Jvm.MethodName) prog_26_method_2_code (4 : Nat) (Option.none : Option Jvm.ClassFile.FieldType)).before args0 about1 = true := code_word (m := ⟨3, 1⟩) (meth := k3m1) (c := k3c1) (by decide +kernel) rfl rfl rfl (by decide +kernel)
set_option maxRecDepth 65536 in
theorem w_c5 : (Jvm.Cond.code ({ cls := "strikebound/cli/InPlaceText", name := "array", desc := "()[C" } : Jvm.MethodName) prog_26_method_3_code (1 : Nat) (Option.some (Jvm.ClassFile.FieldType.array Jvm.ClassFile.FieldType.char))).before args0 about1 = true := code_word (m := ⟨3, 2⟩) (meth := k3m2) (c := k3c2) (by decide +kernel) rfl rfl rfl (by decide +kernel)
set_option maxRecDepth 65536 in
theorem w_c6 : (Jvm.Cond.code ({ cls := "strikebound/cli/InPlaceText", name := "start", desc := "()I" } : Jvm.MethodName) prog_26_method_4_code (1 : Nat) (Option.some Jvm.ClassFile.FieldType.int)).before args0 about1 = true := code_word (m := ⟨3, 3⟩) (meth := k3m3) (c := k3c3) (by decide +kernel) rfl rfl rfl (by decide +kernel)
set_option maxRecDepth 65536 in
theorem w_c7 : (Jvm.Cond.code ({ cls := "strikebound/cli/InPlaceText", name := "length", desc := "()I" } : Jvm.MethodName) prog_26_method_5_code (1 : Nat) (Option.some Jvm.ClassFile.FieldType.int)).before args0 about1 = true := code_word (m := ⟨3, 4⟩) (meth := k3m4) (c := k3c4) (by decide +kernel) rfl rfl rfl (by decide +kernel)
set_option maxRecDepth 65536 in
theorem w_c8 : (Jvm.Cond.code ({ cls := "strikebound/cli/InPlaceText", name := "toString", desc := "()Ljava/lang/String;" } : Jvm.MethodName) prog_26_method_8_code (1 : Nat) (Option.some (Jvm.ClassFile.FieldType.object "java/lang/String"))).before args0 about1 = true := code_word (m := ⟨3, 6⟩) (meth := k3m6) (c := k3c6) (by decide +kernel) rfl rfl rfl (by decide +kernel)
set_option maxRecDepth 65536 in
theorem w_c9 : (Jvm.Cond.code ({ cls := "java/lang/String", name := "<init>", desc := "([CII)V" } : Jvm.MethodName) jdk_42_method_4_code (4 : Nat) (Option.none : Option Jvm.ClassFile.FieldType)).before args0 about1 = true := code_word (m := ⟨8, 1⟩) (meth := k8m1) (c := k8c1) (by decide +kernel) rfl rfl rfl (by decide +kernel)
set_option maxRecDepth 65536 in
theorem w_c10 : (Jvm.Cond.code ({ cls := "java/lang/String", name := "rangeCheck", desc := "([CII)Ljava/lang/Void;" } : Jvm.MethodName) jdk_42_method_5_code (3 : Nat) (Option.some (Jvm.ClassFile.FieldType.object "java/lang/Void"))).before args0 about1 = true := code_word (m := ⟨8, 2⟩) (meth := k8m2) (c := k8c2) (by decide +kernel) rfl rfl rfl (by decide +kernel)
set_option maxRecDepth 65536 in
theorem w_c11 : (Jvm.Cond.code ({ cls := "java/lang/String", name := "checkBoundsOffCount", desc := "(III)I" } : Jvm.MethodName) jdk_42_method_157_code (3 : Nat) (Option.some Jvm.ClassFile.FieldType.int)).before args0 about1 = true := code_word (m := ⟨8, 9⟩) (meth := k8m9) (c := k8c9) (by decide +kernel) rfl rfl rfl (by decide +kernel)
set_option maxRecDepth 65536 in
theorem w_c12 : (Jvm.Cond.code ({ cls := "jdk/internal/util/Preconditions", name := "checkFromIndexSize", desc := "(IIILjava/util/function/BiFunction;)I" } : Jvm.MethodName) jdk_41_method_13_code (4 : Nat) (Option.some Jvm.ClassFile.FieldType.int)).before args0 about1 = true := code_word (m := ⟨9, 2⟩) (meth := k9m2) (c := k9c2) (by decide +kernel) rfl rfl rfl (by decide +kernel)
set_option maxRecDepth 65536 in
theorem w_c13 : (Jvm.Cond.code ({ cls := "java/lang/String", name := "<init>", desc := "([CIILjava/lang/Void;)V" } : Jvm.MethodName) jdk_42_method_149_code (6 : Nat) (Option.none : Option Jvm.ClassFile.FieldType)).before args0 about1 = true := code_word (m := ⟨8, 5⟩) (meth := k8m5) (c := k8c5) (by decide +kernel) rfl rfl rfl (by decide +kernel)
set_option maxRecDepth 65536 in
theorem w_c14 : (Jvm.Cond.code ({ cls := "java/lang/StringUTF16", name := "compress", desc := "([CII)[B" } : Jvm.MethodName) jdk_52_method_16_code (6 : Nat) (Option.some (Jvm.ClassFile.FieldType.array Jvm.ClassFile.FieldType.byte))).before args0 about1 = true := code_word (m := ⟨10, 2⟩) (meth := k10m2) (c := k10c2) (by decide +kernel) rfl rfl rfl (by decide +kernel)
set_option maxRecDepth 65536 in
theorem w_c15 : (Jvm.Cond.code ({ cls := "java/lang/StringUTF16", name := "compress", desc := "([CI[BII)I" } : Jvm.MethodName) jdk_52_method_21_code (7 : Nat) (Option.some Jvm.ClassFile.FieldType.int)).before args0 about1 = true := code_word (m := ⟨10, 3⟩) (meth := k10m3) (c := k10c3) (by decide +kernel) rfl rfl rfl (by decide +kernel)
set_option maxRecDepth 65536 in
theorem w_c16 : (Jvm.Cond.code ({ cls := "java/lang/StringUTF16", name := "coderFromArrayLen", desc := "([BI)B" } : Jvm.MethodName) jdk_52_method_15_code (2 : Nat) (Option.some Jvm.ClassFile.FieldType.byte)).before args0 about1 = true := code_word (m := ⟨10, 1⟩) (meth := k10m1) (c := k10c1) (by decide +kernel) rfl rfl rfl (by decide +kernel)
set_option maxRecDepth 65536 in
theorem w_c17 : (Jvm.Cond.code ({ cls := "java/lang/String", name := "length", desc := "()I" } : Jvm.MethodName) jdk_42_method_54_code (1 : Nat) (Option.some Jvm.ClassFile.FieldType.int)).before args0 about1 = true := code_word (m := ⟨8, 3⟩) (meth := k8m3) (c := k8c3) (by decide +kernel) rfl rfl rfl (by decide +kernel)
set_option maxRecDepth 65536 in
theorem w_c18 : (Jvm.Cond.code ({ cls := "java/lang/String", name := "coder", desc := "()B" } : Jvm.MethodName) jdk_42_method_152_code (1 : Nat) (Option.some Jvm.ClassFile.FieldType.byte)).before args0 about1 = true := code_word (m := ⟨8, 6⟩) (meth := k8m6) (c := k8c6) (by decide +kernel) rfl rfl rfl (by decide +kernel)
set_option maxRecDepth 65536 in
theorem w_c19 : (Jvm.Cond.code ({ cls := "strikebound/cli/InPlaceText", name := "charAt", desc := "(I)C" } : Jvm.MethodName) prog_26_method_6_code (2 : Nat) (Option.some Jvm.ClassFile.FieldType.char)).before args0 about1 = true := code_word (m := ⟨3, 5⟩) (meth := k3m5) (c := k3c5) (by decide +kernel) rfl rfl rfl (by decide +kernel)
set_option maxRecDepth 65536 in
theorem w_c20 : (Jvm.Cond.code ({ cls := "java/util/Objects", name := "checkIndex", desc := "(II)I" } : Jvm.MethodName) jdk_31_method_17_code (2 : Nat) (Option.some Jvm.ClassFile.FieldType.int)).before args0 about1 = true := code_word (m := ⟨11, 1⟩) (meth := k11m1) (c := k11c1) (by decide +kernel) rfl rfl rfl (by decide +kernel)
set_option maxRecDepth 65536 in
theorem w_c21 : (Jvm.Cond.code ({ cls := "jdk/internal/util/Preconditions", name := "checkIndex", desc := "(IILjava/util/function/BiFunction;)I" } : Jvm.MethodName) jdk_41_method_11_code (3 : Nat) (Option.some Jvm.ClassFile.FieldType.int)).before args0 about1 = true := code_word (m := ⟨9, 1⟩) (meth := k9m1) (c := k9c1) (by decide +kernel) rfl rfl rfl (by decide +kernel)
set_option maxRecDepth 65536 in
theorem w_c22 : (Jvm.Cond.code ({ cls := "java/lang/String", name := "charAt", desc := "(I)C" } : Jvm.MethodName) jdk_42_method_56_code (2 : Nat) (Option.some Jvm.ClassFile.FieldType.char)).before args0 about1 = true := code_word (m := ⟨8, 4⟩) (meth := k8m4) (c := k8c4) (by decide +kernel) rfl rfl rfl (by decide +kernel)
set_option maxRecDepth 65536 in
theorem w_c23 : (Jvm.Cond.code ({ cls := "java/lang/String", name := "isLatin1", desc := "()Z" } : Jvm.MethodName) jdk_42_method_154_code (1 : Nat) (Option.some Jvm.ClassFile.FieldType.boolean)).before args0 about1 = true := code_word (m := ⟨8, 7⟩) (meth := k8m7) (c := k8c7) (by decide +kernel) rfl rfl rfl (by decide +kernel)
set_option maxRecDepth 65536 in
theorem w_c24 : (Jvm.Cond.code ({ cls := "java/lang/StringLatin1", name := "charAt", desc := "([BI)C" } : Jvm.MethodName) jdk_43_method_2_code (2 : Nat) (Option.some Jvm.ClassFile.FieldType.char)).before args0 about1 = true := code_word (m := ⟨12, 1⟩) (meth := k12m1) (c := k12c1) (by decide +kernel) rfl rfl rfl (by decide +kernel)
set_option maxRecDepth 65536 in
theorem w_c25 : (Jvm.Cond.code ({ cls := "java/lang/String", name := "checkIndex", desc := "(II)V" } : Jvm.MethodName) jdk_42_method_155_code (2 : Nat) (Option.none : Option Jvm.ClassFile.FieldType)).before args0 about1 = true := code_word (m := ⟨8, 8⟩) (meth := k8m8) (c := k8c8) (by decide +kernel) rfl rfl rfl (by decide +kernel)
def codes1 : List Jvm.Cond := [Jvm.Cond.code x code maxLocals ret, Jvm.Cond.code ({ cls := "strikebound/cli/InPlaceTextSetPinLaw", name := "ch", desc := "(JI)C" } : Jvm.MethodName) method_2_code (3 : Nat) (Option.some Jvm.ClassFile.FieldType.char), Jvm.Cond.code ({ cls := "strikebound/cli/InPlaceText", name := "<init>", desc := "()V" } : Jvm.MethodName) prog_26_method_1_code (1 : Nat) (Option.none : Option Jvm.ClassFile.FieldType), Jvm.Cond.code ({ cls := "java/lang/Object", name := "<init>", desc := "()V" } : Jvm.MethodName) object_method_1_code (1 : Nat) (Option.none : Option Jvm.ClassFile.FieldType), Jvm.Cond.code ({ cls := "strikebound/cli/InPlaceText", name := "set", desc := "([CII)V" } : Jvm.MethodName) prog_26_method_2_code (4 : Nat) (Option.none : Option Jvm.ClassFile.FieldType), Jvm.Cond.code ({ cls := "strikebound/cli/InPlaceText", name := "array", desc := "()[C" } : Jvm.MethodName) prog_26_method_3_code (1 : Nat) (Option.some (Jvm.ClassFile.FieldType.array Jvm.ClassFile.FieldType.char)), Jvm.Cond.code ({ cls := "strikebound/cli/InPlaceText", name := "start", desc := "()I" } : Jvm.MethodName) prog_26_method_4_code (1 : Nat) (Option.some Jvm.ClassFile.FieldType.int), Jvm.Cond.code ({ cls := "strikebound/cli/InPlaceText", name := "length", desc := "()I" } : Jvm.MethodName) prog_26_method_5_code (1 : Nat) (Option.some Jvm.ClassFile.FieldType.int), Jvm.Cond.code ({ cls := "strikebound/cli/InPlaceText", name := "toString", desc := "()Ljava/lang/String;" } : Jvm.MethodName) prog_26_method_8_code (1 : Nat) (Option.some (Jvm.ClassFile.FieldType.object "java/lang/String")), Jvm.Cond.code ({ cls := "java/lang/String", name := "<init>", desc := "([CII)V" } : Jvm.MethodName) jdk_42_method_4_code (4 : Nat) (Option.none : Option Jvm.ClassFile.FieldType), Jvm.Cond.code ({ cls := "java/lang/String", name := "rangeCheck", desc := "([CII)Ljava/lang/Void;" } : Jvm.MethodName) jdk_42_method_5_code (3 : Nat) (Option.some (Jvm.ClassFile.FieldType.object "java/lang/Void")), Jvm.Cond.code ({ cls := "java/lang/String", name := "checkBoundsOffCount", desc := "(III)I" } : Jvm.MethodName) jdk_42_method_157_code (3 : Nat) (Option.some Jvm.ClassFile.FieldType.int), Jvm.Cond.code ({ cls := "jdk/internal/util/Preconditions", name := "checkFromIndexSize", desc := "(IIILjava/util/function/BiFunction;)I" } : Jvm.MethodName) jdk_41_method_13_code (4 : Nat) (Option.some Jvm.ClassFile.FieldType.int), Jvm.Cond.code ({ cls := "java/lang/String", name := "<init>", desc := "([CIILjava/lang/Void;)V" } : Jvm.MethodName) jdk_42_method_149_code (6 : Nat) (Option.none : Option Jvm.ClassFile.FieldType), Jvm.Cond.code ({ cls := "java/lang/StringUTF16", name := "compress", desc := "([CII)[B" } : Jvm.MethodName) jdk_52_method_16_code (6 : Nat) (Option.some (Jvm.ClassFile.FieldType.array Jvm.ClassFile.FieldType.byte)), Jvm.Cond.code ({ cls := "java/lang/StringUTF16", name := "compress", desc := "([CI[BII)I" } : Jvm.MethodName) jdk_52_method_21_code (7 : Nat) (Option.some Jvm.ClassFile.FieldType.int), Jvm.Cond.code ({ cls := "java/lang/StringUTF16", name := "coderFromArrayLen", desc := "([BI)B" } : Jvm.MethodName) jdk_52_method_15_code (2 : Nat) (Option.some Jvm.ClassFile.FieldType.byte), Jvm.Cond.code ({ cls := "java/lang/String", name := "length", desc := "()I" } : Jvm.MethodName) jdk_42_method_54_code (1 : Nat) (Option.some Jvm.ClassFile.FieldType.int), Jvm.Cond.code ({ cls := "java/lang/String", name := "coder", desc := "()B" } : Jvm.MethodName) jdk_42_method_152_code (1 : Nat) (Option.some Jvm.ClassFile.FieldType.byte), Jvm.Cond.code ({ cls := "strikebound/cli/InPlaceText", name := "charAt", desc := "(I)C" } : Jvm.MethodName) prog_26_method_6_code (2 : Nat) (Option.some Jvm.ClassFile.FieldType.char), Jvm.Cond.code ({ cls := "java/util/Objects", name := "checkIndex", desc := "(II)I" } : Jvm.MethodName) jdk_31_method_17_code (2 : Nat) (Option.some Jvm.ClassFile.FieldType.int), Jvm.Cond.code ({ cls := "jdk/internal/util/Preconditions", name := "checkIndex", desc := "(IILjava/util/function/BiFunction;)I" } : Jvm.MethodName) jdk_41_method_11_code (3 : Nat) (Option.some Jvm.ClassFile.FieldType.int), Jvm.Cond.code ({ cls := "java/lang/String", name := "charAt", desc := "(I)C" } : Jvm.MethodName) jdk_42_method_56_code (2 : Nat) (Option.some Jvm.ClassFile.FieldType.char), Jvm.Cond.code ({ cls := "java/lang/String", name := "isLatin1", desc := "()Z" } : Jvm.MethodName) jdk_42_method_154_code (1 : Nat) (Option.some Jvm.ClassFile.FieldType.boolean), Jvm.Cond.code ({ cls := "java/lang/StringLatin1", name := "charAt", desc := "([BI)C" } : Jvm.MethodName) jdk_43_method_2_code (2 : Nat) (Option.some Jvm.ClassFile.FieldType.char), Jvm.Cond.code ({ cls := "java/lang/String", name := "checkIndex", desc := "(II)V" } : Jvm.MethodName) jdk_42_method_155_code (2 : Nat) (Option.none : Option Jvm.ClassFile.FieldType)]
set_option maxRecDepth 65536 in
theorem codes_eq : words1.filter isCode = codes1 := rfl
theorem w_codes : ∀ c ∈ words1.filter isCode, c.before args0 about1 = true := by
  rw [codes_eq]
  intro c hc
  simp only [codes1, List.mem_cons, List.not_mem_nil, or_false] at hc
  rcases hc with rfl | rfl | rfl | rfl | rfl | rfl | rfl | rfl | rfl | rfl | rfl | rfl | rfl | rfl | rfl | rfl | rfl | rfl | rfl | rfl | rfl | rfl | rfl | rfl | rfl | rfl
  · exact w_c0
  · exact w_c1
  · exact w_c2
  · exact w_c3
  · exact w_c4
  · exact w_c5
  · exact w_c6
  · exact w_c7
  · exact w_c8
  · exact w_c9
  · exact w_c10
  · exact w_c11
  · exact w_c12
  · exact w_c13
  · exact w_c14
  · exact w_c15
  · exact w_c16
  · exact w_c17
  · exact w_c18
  · exact w_c19
  · exact w_c20
  · exact w_c21
  · exact w_c22
  · exact w_c23
  · exact w_c24
  · exact w_c25
set_option maxRecDepth 65536 in
theorem w_t1 : (words1.take 24).all (fun c => isCode c || c.before args0 about1) = true := by decide +kernel
set_option maxRecDepth 65536 in
theorem w_t2 : ((words1.drop 24).take 24).all (fun c => isCode c || c.before args0 about1) = true := by decide +kernel
set_option maxRecDepth 65536 in
theorem w_t3 : (((words1.drop 24).drop 24).take 24).all (fun c => isCode c || c.before args0 about1) = true := by decide +kernel
set_option maxRecDepth 65536 in
theorem w_t4 : ((((words1.drop 24).drop 24).drop 24).take 24).all (fun c => isCode c || c.before args0 about1) = true := by decide +kernel
set_option maxRecDepth 65536 in
theorem w_t5 : (((((words1.drop 24).drop 24).drop 24).drop 24).take 24).all (fun c => isCode c || c.before args0 about1) = true := by decide +kernel
set_option maxRecDepth 65536 in
theorem w_t6 : (((((words1.drop 24).drop 24).drop 24).drop 24).drop 24).all (fun c => isCode c || c.before args0 about1) = true := by decide +kernel
theorem w_tables : (allAtoms (Jvm.Cond.code x code maxLocals ret :: tables_1)).before args0 about1 = true := by
  rw [allAtoms_all]
  show words1.all (fun c => c.before args0 about1) = true
  refine all_split ?_ w_codes
  rw [← List.take_append_drop 24 words1, List.all_append, w_t1, ← List.take_append_drop 24 (words1.drop 24), List.all_append, w_t2, ← List.take_append_drop 24 ((words1.drop 24).drop 24), List.all_append, w_t3, ← List.take_append_drop 24 (((words1.drop 24).drop 24).drop 24), List.all_append, w_t4, ← List.take_append_drop 24 ((((words1.drop 24).drop 24).drop 24).drop 24), List.all_append, w_t5, w_t6]
  rfl
set_option maxRecDepth 65536 in
theorem w_rest : rest_1_c.before args0 about1 = true := by decide +kernel
set_option maxRecDepth 65536 in
theorem w_case : (Jvm.Cond.and given_1 narrow_1).before args0 about1 = true := by decide +kernel
set_option maxRecDepth 65536 in
theorem w_consts : constsHeld consts_1 about1 := Jvm.Lit.constsHeldB_iff.mp (by decide +kernel)
theorem w_applies : (headSpec (Jvm.Cond.code x code maxLocals ret :: tables_1) room_1).applies x e0.platform about1 = true :=
  (Spec.applies_iff w_frames).mpr ⟨w_running, w_runnable, w_alone, w_named, w_hears, w_ripe, w_room, w_tables⟩
theorem atStart : AtStart classFile x code maxLocals ret World_1 tables_1 room_1 Calls_1 rest_1 Pre_1 launch0 p0 e0 about1 theMethod args0 below0 :=
  ⟨lists_1, trivial, launch0.admits_env _ _ _, launch0.least_env, fairChoices_fair.cas, fairChoices_fair.clock, w_frames, w_args, w_heap, w_applies, ⟨w_consts, trivial⟩, w_rest, w_case⟩
end start1
theorem witness_1 : WitnessClaimed_1 := ⟨start1.p0, start1.e0, start1.about1, start1.theMethod, start1.args0, start1.below0, start1.atStart⟩
end Jvm.Pilot.@@N@@
