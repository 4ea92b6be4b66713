import JvmDerived
import JvmDerived.Pilot.@@N@@Statement
import JvmDerived.Pilot.@@N@@Code
set_option linter.unusedVariables false
set_option linter.unusedSimpArgs false
namespace Jvm.Pilot.@@N@@
open Jvm Jvm.ClassFile Sem Op Lib Jvm.Free Jvm.Stand Jvm.LawKit Jvm.RoadKit Bundle Jvm.Pilot.@@N@@.Jvm.D
/-- whatever is reached from v is reached from u -/
abbrev To (tb : Tables) (e : Env) (below : List Frame) (u v : State) : Prop := ∀ t, Steps tb e below v t → Steps tb e below u t
/-- a body's contract: called with as' over the heap h0 it returns, and Q holds of what it returns, of the heap and of the places written -/
abbrev Con (l : Launch) (Z : State) (y : MethodName) (bs : ByteArray) (ml : Nat) (rt : Option FieldType) (ws : List Jvm.Cond) (R : Room) (as' : Array Value) (h0 : Heap) (Q : Option Value → Heap → List Loc → Prop) : Prop :=
  MetFree l y (head1 (Jvm.Cond.code y bs ml rt :: ws) R) (fun a U => a = as' ∧ Z.Warmed39 U.vm ∧ U.heap = h0) (fun _ _ _ _ _ => True) (fun _ U o U' => ∃ v L, o = .returned v ∧ Q v U'.heap L ∧ FrameEnd U o U' L R.cells R.slots)
/-- the walk from S0 has ended well -/
def Fin (p : Program) (e : Env) (below : List Frame) (s : State) (R : Room) (S0 : State) (Q : Option Value → Heap → List Loc → Prop) : Prop :=
  ∃ s₂ o, Steps p.tables e below S0 s₂ ∧ s₂.status = .running ∧ Ended s₂ below o ∧ ∃ v L, o = .returned v ∧ Q v s₂.heap L ∧ FrameEnd s o s₂ L R.cells R.slots
def slotsOf : List Value → List Slot
  | [] => []
  | v :: r => if v.category = 2 then .val v :: .second :: slotsOf r else .val v :: slotsOf r
theorem foldl_slots (L : List Value) : ∀ acc : Array Slot, L.foldl (fun acc v => if v.category = 2 then (acc.push (Slot.val v)).push Slot.second else acc.push (Slot.val v)) acc = acc ++ (slotsOf L).toArray := by
  induction L with
  | nil => intro acc; simp [slotsOf]
  | cons v r ih =>
    intro acc
    rw [List.foldl_cons, ih]
    by_cases h : v.category = 2
    · simp [slotsOf, h]
    · simp [slotsOf, h]
theorem entry_eq {m : MethodId} {L : List Value} {ml : Nat} {Ls : List Slot} (h : slotsOf L ++ List.replicate (ml - (slotsOf L).length) Slot.unset = Ls) : entryFrame m L.toArray ml = mkF m 0 Ls.toArray [] := by
  subst h
  have e : argsToLocals L.toArray ml = (slotsOf L ++ List.replicate (ml - (slotsOf L).length) Slot.unset).toArray := by
    show (L.toArray.foldl (init := #[]) fun acc v => if v.category = 2 then (acc.push (Slot.val v)).push Slot.second else acc.push (Slot.val v)) ++ Array.replicate (ml - (L.toArray.foldl (init := #[]) fun acc v => if v.category = 2 then (acc.push (Slot.val v)).push Slot.second else acc.push (Slot.val v)).size) Slot.unset = _
    rw [List.foldl_toArray, foldl_slots]
    simp
  show ({ method := m, pc := 0, locals := argsToLocals L.toArray ml, stack := [], locked := none } : JFrame) = _
  rw [e]
section Own
variable {p : Program} {l : Launch} {e : Env} {R : Room} {s : State} {m : MethodId} {args : Array Value} {below : List Frame} {meth : Method} {c : Code} {T S0 : State} {locs : List Loc} {cells slots : Nat} {Z : State} {a0 : Array Value} {h : Heap} {Q : Option Value → Heap → List Loc → Prop}
theorem enter {y : MethodName} {bs : ByteArray} {ml : Nat} {rt : Option FieldType} {ws : List Jvm.Cond} {as' : Array Value} {h0 : Heap} {Ls : Array Slot} (hpl : plainFor y = true) (hef : ∀ m, entryFrame m as' ml = mkF m 0 Ls [])
    (body : ∀ (p : Program) (e : Env) (s : State) (m : MethodId) (below : List Frame) (meth : Method) (c : Code) (s₁ S0 : State), p.tables.exec = Jvm.exec → c.code = bs → c.maxLocals = ml → meth.sig.returnType = rt → meth.locks = false → meth.name = y.name →
      s.vm.findClass y.cls = some m.cls → Z.Warmed39 s.vm → Stand p l e R s m as' below meth c s₁ [] 0 0 → s₁.heap = h0 → To p.tables e below S0 (s₁.setTop (mkF m 0 Ls [])) → Fin p e below s R S0 Q) : Con l Z y bs ml rt ws R as' h0 Q := by
  refine MetFree.of_bodySF hpl hisR ?_
  intro p e s m args below meth c s₁ Bd hml0 hP hK
  obtain ⟨rfl, hZ, hh⟩ := hP
  exact body p e s m below meth c s₁ _ Bd.exec Bd.bytes hml0 Bd.returns Bd.notSynchronized (name_of_methodNamed Bd.named Bd.method).1 (findClass_of_methodNamed Bd.named) hZ (Stand.of_body Bd) (by rw [← hh, Bd.state]; rfl) (fun t k => castTop (hef m) k)
theorem retV (X : Stand p l e R s m args below meth c T locs cells slots) (hx : p.tables.exec = Jvm.exec) {pc : Nat} {Ls : Array Slot} {w : Value} {t : FieldType} {i : Instr} {rest : List Value} (hret : meth.sig.returnType = some t) (hlk : meth.locks = false) (hn : narrow t w = w)
    (hi : (i = .ireturn ∧ (t = .int ∨ t = .boolean ∨ t = .byte ∨ t = .char ∨ t = .short) ∧ ∃ z, w = .int z) ∨ (i = .lreturn ∧ t = .long ∧ ∃ z, w = .long z) ∨ (i = .dreturn ∧ t = .double ∧ ∃ z, w = .double z) ∨ (i = .freturn ∧ t = .float ∧ ∃ z, w = .float z) ∨ (i = .areturn ∧ t.isReference = true ∧ w.isRef = true))
    (hd : decode c.code pc = .ok (i, 1)) (k : To p.tables e below S0 (T.setTop (mkF m pc Ls (w :: rest)))) (hQ : Q (some w) T.heap locs) (hc : cells ≤ R.cells) (hs : slots ≤ R.slots) : Fin p e below s R S0 Q := by
  obtain ⟨fs, hr, hrun, hended, hW, hsame⟩ := X.leave (v := some w) (fun h => by rw [hret] at h; cases h) hlk
  exact ⟨_, _, k _ (retOut X hx hret hn hi hd hr), hrun, hended, _, _, rfl, hQ, ⟨_, rfl⟩, hW, hsame.mono hc hs⟩
theorem retInt (X : Stand p l e R s m args below meth c T locs cells slots) (hx : p.tables.exec = Jvm.exec) {pc : Nat} {Ls : Array Slot} {z : Int32} {t : FieldType} {rest : List Value} (hret : meth.sig.returnType = some t) (hlk : meth.locks = false) (ht : t = .int ∨ t = .boolean ∨ t = .byte ∨ t = .char ∨ t = .short) (hn : narrow t (.int z) = .int z)
    (hd : decode c.code pc = .ok (.ireturn, 1)) (k : To p.tables e below S0 (T.setTop (mkF m pc Ls (.int z :: rest)))) (hQ : Q (some (.int z)) T.heap locs) (hc : cells ≤ R.cells) (hs : slots ≤ R.slots) : Fin p e below s R S0 Q :=
  retV X hx hret hlk hn (Or.inl ⟨rfl, ht, z, rfl⟩) hd k hQ hc hs
theorem retRef (X : Stand p l e R s m args below meth c T locs cells slots) (hx : p.tables.exec = Jvm.exec) {pc : Nat} {Ls : Array Slot} {w : Value} {t : FieldType} {rest : List Value} (hret : meth.sig.returnType = some t) (hlk : meth.locks = false) (ht : t.isReference = true) (hw : w.isRef = true)
    (hd : decode c.code pc = .ok (.areturn, 1)) (k : To p.tables e below S0 (T.setTop (mkF m pc Ls (w :: rest)))) (hQ : Q (some w) T.heap locs) (hc : cells ≤ R.cells) (hs : slots ≤ R.slots) : Fin p e below s R S0 Q :=
  retV X hx hret hlk (by rcases ref_cases hw with rfl | ⟨z, rfl⟩ <;> cases t <;> first | rfl | (cases ht; done)) (Or.inr (Or.inr (Or.inr (Or.inr ⟨rfl, ht, hw⟩)))) hd k hQ hc hs
theorem retLong (X : Stand p l e R s m args below meth c T locs cells slots) (hx : p.tables.exec = Jvm.exec) {pc : Nat} {Ls : Array Slot} {z : Int64} {rest : List Value} (hret : meth.sig.returnType = some .long) (hlk : meth.locks = false)
    (hd : decode c.code pc = .ok (.lreturn, 1)) (k : To p.tables e below S0 (T.setTop (mkF m pc Ls (.long z :: rest)))) (hQ : Q (some (.long z)) T.heap locs) (hc : cells ≤ R.cells) (hs : slots ≤ R.slots) : Fin p e below s R S0 Q :=
  retV X hx hret hlk rfl (Or.inr (Or.inl ⟨rfl, rfl, z, rfl⟩)) hd k hQ hc hs
theorem retVoid (X : Stand p l e R s m args below meth c T locs cells slots) (hx : p.tables.exec = Jvm.exec) {pc : Nat} {Ls : Array Slot} (hret : meth.sig.returnType = none) (hlk : meth.locks = false)
    (hd : decode c.code pc = .ok (.return_, 1)) (k : To p.tables e below S0 (T.setTop (mkF m pc Ls []))) (hQ : Q none T.heap locs) (hc : cells ≤ R.cells) (hs : slots ≤ R.slots) : Fin p e below s R S0 Q := by
  obtain ⟨fs, hr, hrun, hended, hW, hsame⟩ := X.leave (v := none) (fun _ => rfl) hlk
  exact ⟨_, _, k _ (X.returnOut hx hret hd hr), hrun, hended, _, _, rfl, hQ, ⟨_, rfl⟩, hW, hsame.mono hc hs⟩
theorem backC {y : MethodName} {bs : ByteArray} {ml : Nat} {rt : Option FieldType} {rm : Room} {len W : Nat} {as' : Array Value} (hM : Con l Z y bs ml rt [] rm as' h Q) (hZ : Z.Warmed39 s.vm) (wc : (Cond.code y bs ml rt).before a0 Z = true) (wz : (Cond.initialized y.cls).before a0 Z = true) (hf : rm.frames + 1 ≤ R.frames) (hl : W + (ml + 11) + rm.locals ≤ R.locals) :
    Back l R p e below s args y len W (fun A a => a = as' ∧ A.U.heap = h ∧ A.cells + rm.cells ≤ R.cells ∧ A.slots + rm.slots ≤ R.slots) (fun A _ v B => ∃ L, Q v B.U.heap L ∧ B.locs = A.locs ++ L ∧ B.cells = A.cells + rm.cells ∧ B.slots = A.slots + rm.slots) :=
  backOf (Q := Q) hM hZ wc wz hf hl
/-! calls by a contract -/
theorem callS' (X : Stand p l e R s m args below meth c T locs cells slots) (hx : p.tables.exec = Jvm.exec) (hZ : Z.Warmed39 s.vm) {own : String} {index : Nat} {y : MethodName} {bs : ByteArray} {ml : Nat} {rt : Option FieldType} {cc ss W : Nat} {as' : Array Value} {Q : Option Value → Heap → List Loc → Prop}
    (hown : s.vm.findClass own = some m.cls) (w1 : (Cond.methodLink own index y).before a0 Z = true) (w2 : (Cond.static y).before a0 Z = true) (w3 : (Cond.initialized y.cls).before a0 Z = true) (w4 : (Cond.code y bs ml rt).before a0 Z = true) (hy : y.cls ≠ "java/lang/invoke/MethodHandle" ∧ y.cls ≠ "java/lang/invoke/VarHandle")
    (hK : Back l R p e below s args y 3 W (fun A a => a = as' ∧ A.U.heap = h ∧ A.cells + cc ≤ R.cells ∧ A.slots + ss ≤ R.slots) (fun A _ v B => ∃ L, Q v B.U.heap L ∧ B.locs = A.locs ++ L ∧ B.cells = A.cells + cc ∧ B.slots = A.slots + ss)) (eT : T.heap = h) {pc : Nat} {Ls : Array Slot} {st argsL rest : List Value} (hst : st = argsL.reverse ++ rest) (has : argsL.toArray = as') {ps : List FieldType} {r : Option FieldType} (hpd : parseMethodDescriptor y.desc = some ⟨ps, r⟩) (hlen : argsL.length = ps.length) (hsize : Ls.size = c.maxLocals)
    (hd : decode c.code pc = .ok (.invokestatic index, 3)) (hW : (rest.map fun v => v.category).sum ≤ W) (hc : cells + cc ≤ R.cells) (hs : slots + ss ≤ R.slots) (k : To p.tables e below S0 (T.setTop (mkF m pc Ls st))) :
    ∃ v T' L, Stand p l e R s m args below meth c T' (locs ++ L) (cells + cc) (slots + ss) ∧ Q v T'.heap L ∧ To p.tables e below S0 (T'.setTop (mkF m (pc + 3) Ls (v.toList ++ rest))) := by
  obtain ⟨v, vm₁, ⟨T', L', k', n'⟩, -, X', ⟨L, hQ, q1, q2, q3⟩, stp⟩ := Jvm.LawKit.callS X hx hown (mvT hZ w1) (mvT hZ w2) (mvT hZ w3) (mvT hZ w4) hy hK (g := mkF m pc Ls st) rfl hsize (argsL := argsL) (rest := rest) (lenOf hpd hlen) hst (by show 2 * 0 + _ ≤ _; omega) hd (fun _ _ => ⟨has, eT, hc, hs⟩)
  dsimp only [Pt.U, Pt.locs, Pt.cells, Pt.slots] at X' q1 q2 q3 stp hQ
  subst q1 q2 q3
  exact ⟨v, T', L, X', hQ, fun t q => k t (stp t q)⟩
theorem callC' (X : Stand p l e R s m args below meth c T locs cells slots) (hx : p.tables.exec = Jvm.exec) (hZ : Z.Warmed39 s.vm) {own : String} {index : Nat} {y : MethodName} {bs : ByteArray} {ml : Nat} {cc ss W : Nat} {as' : Array Value} {Q : Option Value → Heap → List Loc → Prop}
    (hy1 : y.name = "<init>") (hown : s.vm.findClass own = some m.cls) (w1 : (Cond.methodLink own index y).before a0 Z = true) (w2 : (Cond.instanceMethod y).before a0 Z = true) (w4 : (Cond.code y bs ml none).before a0 Z = true) (hy : y.cls ≠ "java/lang/invoke/MethodHandle" ∧ y.cls ≠ "java/lang/invoke/VarHandle")
    (hK : Back l R p e below s args y 3 W (fun A a => a = as' ∧ A.U.heap = h ∧ A.cells + cc ≤ R.cells ∧ A.slots + ss ≤ R.slots) (fun A _ v B => ∃ L, Q v B.U.heap L ∧ B.locs = A.locs ++ L ∧ B.cells = A.cells + cc ∧ B.slots = A.slots + ss)) (eT : T.heap = h) {pc : Nat} {Ls : Array Slot} {a : Addr} {st argsL rest : List Value} (hst : st = argsL.reverse ++ .ref a :: rest) (has : (.ref a :: argsL).toArray = as') {ps : List FieldType} {r : Option FieldType} (hpd : parseMethodDescriptor y.desc = some ⟨ps, r⟩) (hlen : argsL.length = ps.length) (hsize : Ls.size = c.maxLocals)
    (hd : decode c.code pc = .ok (.invokespecial index, 3)) (hW : (rest.map fun v => v.category).sum ≤ W) (hc : cells + cc ≤ R.cells) (hs : slots + ss ≤ R.slots) (k : To p.tables e below S0 (T.setTop (mkF m pc Ls st))) :
    ∃ v T' L, Stand p l e R s m args below meth c T' (locs ++ L) (cells + cc) (slots + ss) ∧ Q v T'.heap L ∧ To p.tables e below S0 (T'.setTop (mkF m (pc + 3) Ls (v.toList ++ rest))) := by
  obtain ⟨v, vm₁, ⟨T', L', k', n'⟩, -, X', ⟨L, hQ, q1, q2, q3⟩, stp⟩ := X.specialBack hx hy1 hown (mvT hZ w1) (mvT hZ w2) (mvT hZ w4) hy hK (g := mkF m pc Ls st) rfl hsize (Steps.refl _) (a := a) (argsL := argsL) (rest := rest) (lenOf hpd hlen) hst (by show 2 * 0 + _ ≤ _; omega) hd (fun _ _ => ⟨has, eT, hc, hs⟩)
  dsimp only [Pt.U, Pt.locs, Pt.cells, Pt.slots] at X' q1 q2 q3 stp hQ
  subst q1 q2 q3
  exact ⟨v, T', L, X', hQ, fun t q => k t (stp.trans q)⟩
theorem callV' (X : Stand p l e R s m args below meth c T locs cells slots) (hx : p.tables.exec = Jvm.exec) (hZ : Z.Warmed39 s.vm) {own C : String} {index : Nat} {y z : MethodName} {cc ss W : Nat} {as' : Array Value} {Q : Option Value → Heap → List Loc → Prop}
    (hown : s.vm.findClass own = some m.cls) (w1 : (Cond.methodLink own index y).before a0 Z = true) (w2 : (Cond.declares y).before a0 Z = true) (hnf : NotFace s y) (w5 : (Cond.selects C y z).before a0 Z = true) (w6 : (Cond.instanceMethod z).before a0 Z = true)
    (hy : y.cls ≠ "java/lang/invoke/MethodHandle" ∧ y.cls ≠ "java/lang/invoke/VarHandle") {b : Addr} (E : Exa Z h b C)
    (hK : Back l R p e below s args z 3 W (fun A a => a = as' ∧ A.U.heap = h ∧ A.cells + cc ≤ R.cells ∧ A.slots + ss ≤ R.slots) (fun A _ v B => ∃ L, Q v B.U.heap L ∧ B.locs = A.locs ++ L ∧ B.cells = A.cells + cc ∧ B.slots = A.slots + ss)) (eT : T.heap = h) {pc : Nat} {Ls : Array Slot} {st argsL rest : List Value} (hst : st = argsL.reverse ++ .ref b :: rest) (has : (.ref b :: argsL).toArray = as') {ps : List FieldType} {r : Option FieldType} (hpd : parseMethodDescriptor y.desc = some ⟨ps, r⟩) (hlen : argsL.length = ps.length) (hsize : Ls.size = c.maxLocals)
    (hd : decode c.code pc = .ok (.invokevirtual index, 3)) (hW : (rest.map fun v => v.category).sum ≤ W) (hc : cells + cc ≤ R.cells) (hs : slots + ss ≤ R.slots) (k : To p.tables e below S0 (T.setTop (mkF m pc Ls st))) :
    ∃ v T' L, Stand p l e R s m args below meth c T' (locs ++ L) (cells + cc) (slots + ss) ∧ Q v T'.heap L ∧ To p.tables e below S0 (T'.setTop (mkF m (pc + 3) Ls (v.toList ++ rest))) := by
  obtain ⟨cq, kq, qa, qb, qc⟩ := isOf hZ eT E
  obtain ⟨v, vm₁, ⟨T', L', k', n'⟩, -, X', ⟨L, hQ, q1, q2, q3⟩, stp⟩ := X.virtualBack hx hown (mvT hZ w1) (mvT hZ w2) hnf (mvT hZ w5) (mvT hZ w6) hy hK qa qc (g := mkF m pc Ls st) rfl hsize (Steps.refl _) (argsL := argsL) (rest := rest) (lenOf hpd hlen) hst (by show 2 * 0 + _ ≤ _; omega) hd (fun _ _ => ⟨has, eT, hc, hs⟩)
  dsimp only [Pt.U, Pt.locs, Pt.cells, Pt.slots] at X' q1 q2 q3 stp hQ
  subst q1 q2 q3
  exact ⟨v, T', L, X', hQ, fun t q => k t (stp.trans q)⟩
theorem callU' (X : Stand p l e R s m args below meth c T locs cells slots) (hx : p.tables.exec = Jvm.exec) (hZ : Z.Warmed39 s.vm) {own C owner : String} {index : Nat} {y z : MethodName} {cc ss W : Nat} {as' : Array Value} {Q : Option Value → Heap → List Loc → Prop}
    (hown : s.vm.findClass own = some m.cls) (w1 : (Cond.methodLink own index y).before a0 Z = true) (w7 : (Cond.sameMethod y.cls owner y.name y.desc).before a0 Z = true) (w2 : (Cond.declares ⟨owner, y.name, y.desc⟩).before a0 Z = true) (w5 : (Cond.selects C y z).before a0 Z = true) (w6 : (Cond.instanceMethod z).before a0 Z = true)
    (hy : owner ≠ "java/lang/invoke/MethodHandle" ∧ owner ≠ "java/lang/invoke/VarHandle") {b : Addr} (E : Exa Z h b C)
    (hK : Back l R p e below s args z 3 W (fun A a => a = as' ∧ A.U.heap = h ∧ A.cells + cc ≤ R.cells ∧ A.slots + ss ≤ R.slots) (fun A _ v B => ∃ L, Q v B.U.heap L ∧ B.locs = A.locs ++ L ∧ B.cells = A.cells + cc ∧ B.slots = A.slots + ss)) (eT : T.heap = h) {pc : Nat} {Ls : Array Slot} {st argsL rest : List Value} (hst : st = argsL.reverse ++ .ref b :: rest) (has : (.ref b :: argsL).toArray = as') {ps : List FieldType} {r : Option FieldType} (hpd : parseMethodDescriptor y.desc = some ⟨ps, r⟩) (hlen : argsL.length = ps.length) (hsize : Ls.size = c.maxLocals)
    (hd : decode c.code pc = .ok (.invokevirtual index, 3)) (hW : (rest.map fun v => v.category).sum ≤ W) (hc : cells + cc ≤ R.cells) (hs : slots + ss ≤ R.slots) (k : To p.tables e below S0 (T.setTop (mkF m pc Ls st))) :
    ∃ v T' L, Stand p l e R s m args below meth c T' (locs ++ L) (cells + cc) (slots + ss) ∧ Q v T'.heap L ∧ To p.tables e below S0 (T'.setTop (mkF m (pc + 3) Ls (v.toList ++ rest))) := by
  obtain ⟨cq, kq, qa, qb, qc⟩ := isOf hZ eT E
  obtain ⟨v, vm₁, ⟨T', L', k', n'⟩, -, X', ⟨L, hQ, q1, q2, q3⟩, stp⟩ := X.virtualBackUp hx hown (mvT hZ w1) (mvT hZ w7) (mvT hZ w2) hy (mvT hZ w5) (mvT hZ w6) hK qa qc (g := mkF m pc Ls st) rfl hsize (Steps.refl _) (argsL := argsL) (rest := rest) (lenOf hpd hlen) hst (by show 2 * 0 + _ ≤ _; omega) hd (fun _ _ => ⟨has, eT, hc, hs⟩)
  dsimp only [Pt.U, Pt.locs, Pt.cells, Pt.slots] at X' q1 q2 q3 stp hQ
  subst q1 q2 q3
  exact ⟨v, T', L, X', hQ, fun t q => k t (stp.trans q)⟩
theorem callI' (X : Stand p l e R s m args below meth c T locs cells slots) (hx : p.tables.exec = Jvm.exec) (hZ : Z.Warmed39 s.vm) {own C : String} {index count : Nat} {y z : MethodName} {cc ss W : Nat} {as' : Array Value} {Q : Option Value → Heap → List Loc → Prop}
    (hown : s.vm.findClass own = some m.cls) (w1 : (Cond.methodLink own index y).before a0 Z = true) (w2 : (Cond.declares y).before a0 Z = true) (w7 : (Cond.interfaceMethod y.cls y.cls y.name y.desc).before a0 Z = true) (hd7 : ((Cond.interfaceMethod y.cls y.cls y.name y.desc).onTables && (Cond.interfaceMethod y.cls y.cls y.name y.desc).keepsFace) = true) (w5 : (Cond.selects C y z).before a0 Z = true) (w6 : (Cond.instanceMethod z).before a0 Z = true) (w8 : (Cond.publicMethod z).before a0 Z = true) (w9 : (Cond.unhidden C y.name y.desc).before a0 Z = true) (w10 : (Cond.castable C y.cls).before a0 Z = true)
    (hy : y.cls ≠ "java/lang/invoke/MethodHandle" ∧ y.cls ≠ "java/lang/invoke/VarHandle") {b : Addr} (E : Exa Z h b C)
    (hK : Back l R p e below s args z 5 W (fun A a => a = as' ∧ A.U.heap = h ∧ A.cells + cc ≤ R.cells ∧ A.slots + ss ≤ R.slots) (fun A _ v B => ∃ L, Q v B.U.heap L ∧ B.locs = A.locs ++ L ∧ B.cells = A.cells + cc ∧ B.slots = A.slots + ss)) (eT : T.heap = h) {pc : Nat} {Ls : Array Slot} {st argsL rest : List Value} (hst : st = argsL.reverse ++ .ref b :: rest) (has : (.ref b :: argsL).toArray = as') {ps : List FieldType} {r : Option FieldType} (hpd : parseMethodDescriptor y.desc = some ⟨ps, r⟩) (hlen : argsL.length = ps.length) (hsize : Ls.size = c.maxLocals)
    (hd : decode c.code pc = .ok (.invokeinterface index count, 5)) (hW : (rest.map fun v => v.category).sum ≤ W) (hc : cells + cc ≤ R.cells) (hs : slots + ss ≤ R.slots) (k : To p.tables e below S0 (T.setTop (mkF m pc Ls st))) :
    ∃ v T' L, Stand p l e R s m args below meth c T' (locs ++ L) (cells + cc) (slots + ss) ∧ Q v T'.heap L ∧ To p.tables e below S0 (T'.setTop (mkF m (pc + 5) Ls (v.toList ++ rest))) := by
  obtain ⟨cq, kq, qa, qb, qc⟩ := isOf hZ eT E
  obtain ⟨v, vm₁, ⟨T', L', k', n'⟩, -, X', ⟨L, hQ, q1, q2, q3⟩, stp⟩ := X.interfaceBack hx hown (mvT hZ w1) (mvT hZ w2) (mvT hZ w7 hd7) (mvT hZ w5) (mvT hZ w6) (mvT hZ w8) (mvT hZ w9) (mvT hZ w10) hy hK qa qb qc (g := mkF m pc Ls st) rfl hsize (Steps.refl _) (argsL := argsL) (rest := rest) (lenOf hpd hlen) hst (by show 2 * 0 + _ ≤ _; omega) hd (fun _ _ => ⟨has, eT, hc, hs⟩)
  dsimp only [Pt.U, Pt.locs, Pt.cells, Pt.slots] at X' q1 q2 q3 stp hQ
  subst q1 q2 q3
  exact ⟨v, T', L, X', hQ, fun t q => k t (stp.trans q)⟩
theorem staOld {n0 : Nat} {C n d : String} {v : Value} (F : Sta Z Z.heap C n d v) (O : Old Z n0 h) : Sta Z h C n d v := F.ext O.2
theorem exaOld {n0 : Nat} {C : String} {a : Addr} (F : Exa Z Z.heap a C) (O : Old Z n0 h) : Exa Z h a C := F.ext O.2
theorem fldOld {n0 : Nat} {C n d : String} {a : Addr} {v : Value} (F : Fld Z Z.heap a C n d v) (O : Old Z n0 h) : Fld Z h a C n d v := F.ext O.2
theorem joinT (X : Stand p l e R s m args below meth c T locs cells slots) (eT : T.heap = h) (F : JFrame) {G : Prop} (br : (∀ T', Stand p l e R s m args below meth c T' locs cells slots → T'.heap = h → To p.tables e below S0 (T'.setTop F) → G) → G)
    (rest : ∀ T', Stand p l e R s m args below meth c T' locs cells slots → T'.heap = h → To p.tables e below S0 (T'.setTop F) → G) : G := br rest
theorem own_m255 (c : Int32) : ¬ (c &&& 255) < (0 : Int32) ∧ ¬ (255 : Int32) < (c &&& 255) := by
  have h : (c &&& 255).toBitVec.toNat ≤ 255 := by
    rw [Int32.toBitVec_and, BitVec.toNat_and]; exact Nat.and_le_right
  have h2 : (c &&& 255).toInt = ((c &&& 255).toBitVec.toNat : Int) := by
    show (c &&& 255).toBitVec.toInt = _
    rw [BitVec.toInt_eq_toNat_of_lt (by omega)]
  rw [Int32.lt_iff_toInt_lt, Int32.lt_iff_toInt_lt, h2, show (0 : Int32).toInt = 0 from rfl, show (255 : Int32).toInt = 255 by decide]
  omega
theorem own_and255_of {v : Int32} (h : ¬ v < (0 : Int32) ∧ ¬ (255 : Int32) < v) : v &&& 255 = v := by
  rw [Int32.lt_iff_toInt_lt, Int32.lt_iff_toInt_lt, show (0 : Int32).toInt = 0 from rfl, show (255 : Int32).toInt = 255 by decide] at h
  have e : v.toInt = (v.toBitVec.toNat : Int) := by
    show v.toBitVec.toInt = _
    have h1 : ¬ v.toBitVec.toInt < 0 := h.1
    rw [BitVec.toInt_eq_toNat_cond] at h1 ⊢
    split <;> rename_i q
    · rfl
    · rw [if_neg q] at h1; have := v.toBitVec.isLt; omega
  apply Int32.toBitVec_inj.mp
  apply BitVec.eq_of_toNat_eq
  rw [Int32.toBitVec_and, BitVec.toNat_and, show (255 : Int32).toBitVec.toNat = 2 ^ 8 - 1 from rfl, Nat.and_two_pow_sub_one_eq_mod]
  omega
theorem own_narc {v : Int32} (h : ¬ v < (0 : Int32) ∧ ¬ (255 : Int32) < v) : nar .char v = v := by
  have e := own_and255_of h
  rw [← e]; exact i2c_mask v
theorem own_fitc {v : Int32} (h : ¬ v < (0 : Int32) ∧ ¬ (255 : Int32) < v) : fits .char (.int v) = true := by
  have q := fits_nar_char v; rw [own_narc h] at q; exact q
theorem own_b255 {v : Int32} (h : ¬ v < (0 : Int32) ∧ ¬ (255 : Int32) < v) : (nar .byte (v.toInt8.toInt32)) &&& (255 : Int32) = v := by
  refine Eq.trans ?_ (own_and255_of h)
  have e : (v.toInt8.toInt32).toInt8 = v.toInt8 := by
    apply Int8.toBitVec_inj.mp; rw [Int32.toBitVec_toInt8, Int8.toBitVec_toInt32, BitVec.signExtend_eq_setWidth_of_le _ (by omega)]
    apply BitVec.eq_of_toNat_eq
    rw [BitVec.toNat_setWidth, BitVec.toNat_signExtend]
    have := v.toInt8.toBitVec.isLt
    simp only [BitVec.toNat_setWidth]
    split <;> omega
  show (v.toInt8.toInt32).toInt8.toInt32 &&& 255 = v &&& 255
  rw [e]
  apply Int32.toBitVec_inj.mp
  apply BitVec.eq_of_toNat_eq
  rw [Int32.toBitVec_and, Int32.toBitVec_and, BitVec.toNat_and, BitVec.toNat_and, show (255 : Int32).toBitVec.toNat = 2 ^ 8 - 1 from rfl, Nat.and_two_pow_sub_one_eq_mod, Nat.and_two_pow_sub_one_eq_mod, Int8.toBitVec_toInt32, Int32.toBitVec_toInt8, BitVec.toNat_signExtend]
  have h1 := v.toBitVec.isLt
  simp only [BitVec.toNat_setWidth, BitVec.toNat_signExtend]
  split <;> split <;> omega
theorem own_narrowc (x : Int32) : narrow .char (.int (x &&& 255)) = .int (x &&& 255) := congrArg Value.int (own_narc (own_m255 x))
theorem adr_lt {a b : Nat} (h : @LT.lt Nat instLTNat a b) : a < b := h
theorem adr_ne {a b : Nat} (h : ¬ a = b) : a ≠ b := h
theorem own_nz {s : State} {args : Array Value} {t : Term} {z : Int32} (e : t.eval args s none [] s = some (.int z)) (h : (Jvm.Cond.not (.eq t (.int 0))).value args s none s [] = some true) : ¬ z = (0 : Int32) := fun q => by
  subst q; have h2 := not_v h; simp [Cond.value, e, Term.eval] at h2
theorem fits_isref {C : String} {w : Value} (h : w.isRef = true) : fits (.object C) w = true := by rcases ref_cases h with rfl | ⟨z, rfl⟩ <;> rfl
theorem narrow_ref {t : FieldType} {w : Value} (h : w.isRef = true) : narrow t w = w := by rcases ref_cases h with rfl | ⟨z, rfl⟩ <;> cases t <;> rfl
end Own
/-! the wide family: walks that load String constants -/
section Wide
variable {p : Program} {l : Launch} {e : Env} {R : Room} {s : State} {m : MethodId} {args : Array Value} {below : List Frame} {meth : Method} {c : Code} {T S0 : State} {locs : List Loc} {cells slots : Nat} {Z : State} {a0 : Array Value} {h h0 : Heap} {Q : Option Value → Heap → List Loc → Prop} {EL : List (String × Nat)} {vm vm0 : Vm} {sf : List Addr} {n : Nat}
abbrev ConW (l : Launch) (Z : State) (EL : List (String × Nat)) (y : MethodName) (bs : ByteArray) (ml : Nat) (rt : Option FieldType) (ws : List Jvm.Cond) (R : Room) (as' : Array Value) (h0 : Heap) (sf : List Addr) (Q : Option Value → Heap → List Loc → Prop) : Prop :=
  MetFree l y (head1 (Jvm.Cond.code y bs ml rt :: ws) R) (fun a U => a = as' ∧ Z.Warmed39 U.vm ∧ U.heap = h0 ∧ CHv Z EL U.vm h0 ∧ ∀ x ∈ sf, Safe Z EL U.vm h0 x) (fun _ _ _ _ _ => True)
    (fun _ U o U' => ∃ v L, o = .returned v ∧ Q v U'.heap L ∧ CHr Z EL U.vm U.heap U'.vm U'.heap ∧ ReturnedEndW U o U' L R.cells R.slots)
def FinW (p : Program) (e : Env) (below : List Frame) (s : State) (R : Room) (S0 : State) (Z : State) (EL : List (String × Nat)) (vm0 : Vm) (h0 : Heap) (Q : Option Value → Heap → List Loc → Prop) : Prop :=
  ∃ s₂ o, Steps p.tables e below S0 s₂ ∧ s₂.status = .running ∧ Ended s₂ below o ∧ ∃ v L, o = .returned v ∧ Q v s₂.heap L ∧ CHr Z EL vm0 h0 s₂.vm s₂.heap ∧ ReturnedEndW s o s₂ L R.cells R.slots
theorem enterW {y : MethodName} {bs : ByteArray} {ml : Nat} {rt : Option FieldType} {ws : List Jvm.Cond} {as' : Array Value} {Ls : Array Slot} (hpl : plainFor y = true) (hef : ∀ m, entryFrame m as' ml = mkF m 0 Ls [])
    (body : ∀ (p : Program) (e : Env) (s : State) (m : MethodId) (below : List Frame) (meth : Method) (c : Code) (s₁ S0 : State) (vm0 : Vm), p.tables.exec = Jvm.exec → c.code = bs → c.maxLocals = ml → meth.sig.returnType = rt → meth.locks = false → meth.name = y.name →
      vm0.findClass y.cls = some m.cls → Z.Warmed39 vm0 → Stand p l e R (s.setVm vm0) m as' below meth c s₁ [] 0 0 → s₁.heap = h0 → To p.tables e below S0 (s₁.setTop (mkF m 0 Ls [])) → CHr Z EL vm0 h0 vm0 h0 → (∀ x ∈ sf, Safe Z EL vm0 h0 x) → s.Since vm0 h0.size → FinW p e below s R S0 Z EL vm0 h0 Q) : ConW l Z EL y bs ml rt ws R as' h0 sf Q := by
  refine MetFree.of_bodySF hpl hisR ?_
  intro p e s m args below meth c s₁ Bd hml0 hP hK
  obtain ⟨rfl, hZ, hh, hC, hsf⟩ := hP
  subst hh
  exact body p e s m below meth c s₁ _ s.vm Bd.exec Bd.bytes hml0 Bd.returns Bd.notSynchronized (name_of_methodNamed Bd.named Bd.method).1 (findClass_of_methodNamed Bd.named) hZ (show Stand p l e R s m _ below meth c s₁ [] 0 0 from Stand.of_body Bd) (by rw [Bd.state]; rfl) (fun t k => castTop (hef m) k) (CHr.refl hC) hsf ((State.WarmedH.refl s).since _)
theorem endW_mono {s t : State} {o : Outcome} {L : List Loc} {k n k' n' : Nat} (h : ReturnedEndW s o t L k n) (hk : k ≤ k') (hn : n ≤ n') : ReturnedEndW s o t L k' n' := ⟨h.1, h.2.1, h.2.2.1, h.2.2.2.mono hk hn⟩
theorem retVW (X : Stand p l e R (s.setVm vm) m args below meth c T locs cells slots) (hx : p.tables.exec = Jvm.exec) (hZ : Z.Warmed39 vm) (hEL : EW Z a0 EL) (hS : s.Since vm n) (hn0 : n ≤ h.size) (C : CHr Z EL vm0 h0 vm h) (eT : T.heap = h) {pc : Nat} {Ls : Array Slot} {w : Value} {t : FieldType} {i : Instr} {rest : List Value} (hret : meth.sig.returnType = some t) (hlk : meth.locks = false) (hn : narrow t w = w)
    (hi : (i = .ireturn ∧ (t = .int ∨ t = .boolean ∨ t = .byte ∨ t = .char ∨ t = .short) ∧ ∃ z, w = .int z) ∨ (i = .lreturn ∧ t = .long ∧ ∃ z, w = .long z) ∨ (i = .dreturn ∧ t = .double ∧ ∃ z, w = .double z) ∨ (i = .freturn ∧ t = .float ∧ ∃ z, w = .float z) ∨ (i = .areturn ∧ t.isReference = true ∧ w.isRef = true))
    (hd : decode c.code pc = .ok (i, 1)) (k : To p.tables e below S0 (T.setTop (mkF m pc Ls (w :: rest)))) (hQ : Q (some w) h locs) (hc : cells ≤ R.cells) (hs : slots ≤ R.slots) : FinW p e below s R S0 Z EL vm0 h0 Q := by
  subst eT
  obtain ⟨fs, hr, hrun, hended, hend⟩ := leaveW X hS hn0 (v := some w) (fun h => by rw [hret] at h; cases h) hlk
  have A := C.trans (CHv.at X hZ hEL C.1)
  exact ⟨_, _, k _ (retOut X hx hret hn hi hd hr), hrun, hended, _, _, rfl, hQ, A, endW_mono hend hc hs⟩
theorem retIntW (X : Stand p l e R (s.setVm vm) m args below meth c T locs cells slots) (hx : p.tables.exec = Jvm.exec) (hZ : Z.Warmed39 vm) (hEL : EW Z a0 EL) (hS : s.Since vm n) (hn0 : n ≤ h.size) (C : CHr Z EL vm0 h0 vm h) (eT : T.heap = h) {pc : Nat} {Ls : Array Slot} {z : Int32} {t : FieldType} {rest : List Value} (hret : meth.sig.returnType = some t) (hlk : meth.locks = false) (ht : t = .int ∨ t = .boolean ∨ t = .byte ∨ t = .char ∨ t = .short) (hn : narrow t (.int z) = .int z)
    (hd : decode c.code pc = .ok (.ireturn, 1)) (k : To p.tables e below S0 (T.setTop (mkF m pc Ls (.int z :: rest)))) (hQ : Q (some (.int z)) h locs) (hc : cells ≤ R.cells) (hs : slots ≤ R.slots) : FinW p e below s R S0 Z EL vm0 h0 Q :=
  retVW X hx hZ hEL hS hn0 C eT hret hlk hn (Or.inl ⟨rfl, ht, z, rfl⟩) hd k hQ hc hs
theorem retRefW (X : Stand p l e R (s.setVm vm) m args below meth c T locs cells slots) (hx : p.tables.exec = Jvm.exec) (hZ : Z.Warmed39 vm) (hEL : EW Z a0 EL) (hS : s.Since vm n) (hn0 : n ≤ h.size) (C : CHr Z EL vm0 h0 vm h) (eT : T.heap = h) {pc : Nat} {Ls : Array Slot} {w : Value} {t : FieldType} {rest : List Value} (hret : meth.sig.returnType = some t) (hlk : meth.locks = false) (ht : t.isReference = true) (hw : w.isRef = true)
    (hd : decode c.code pc = .ok (.areturn, 1)) (k : To p.tables e below S0 (T.setTop (mkF m pc Ls (w :: rest)))) (hQ : Q (some w) h locs) (hc : cells ≤ R.cells) (hs : slots ≤ R.slots) : FinW p e below s R S0 Z EL vm0 h0 Q :=
  retVW X hx hZ hEL hS hn0 C eT hret hlk (narrow_ref hw) (Or.inr (Or.inr (Or.inr (Or.inr ⟨rfl, ht, hw⟩)))) hd k hQ hc hs
theorem retVoidW (X : Stand p l e R (s.setVm vm) m args below meth c T locs cells slots) (hx : p.tables.exec = Jvm.exec) (hZ : Z.Warmed39 vm) (hEL : EW Z a0 EL) (hS : s.Since vm n) (hn0 : n ≤ h.size) (C : CHr Z EL vm0 h0 vm h) (eT : T.heap = h) {pc : Nat} {Ls : Array Slot} (hret : meth.sig.returnType = none) (hlk : meth.locks = false)
    (hd : decode c.code pc = .ok (.return_, 1)) (k : To p.tables e below S0 (T.setTop (mkF m pc Ls []))) (hQ : Q none h locs) (hc : cells ≤ R.cells) (hs : slots ≤ R.slots) : FinW p e below s R S0 Z EL vm0 h0 Q := by
  subst eT
  obtain ⟨fs, hr, hrun, hended, hend⟩ := leaveW X hS hn0 (v := none) (fun _ => rfl) hlk
  have A := C.trans (CHv.at X hZ hEL C.1)
  exact ⟨_, _, k _ (X.returnOut hx hret hd hr), hrun, hended, _, _, rfl, hQ, A, endW_mono hend hc hs⟩
theorem backOfW {y : MethodName} {bs : ByteArray} {ml : Nat} {rt : Option FieldType} {rm : Room} {len W : Nat} {as' : Array Value} (hM : ConW l Z EL y bs ml rt [] rm as' h sf Q) (hZ : Z.Warmed39 vm) (wc : (Cond.code y bs ml rt).before a0 Z = true) (wz : (Cond.initialized y.cls).before a0 Z = true)
    (hf : rm.frames + 1 ≤ R.frames) (hl : W + (ml + 11) + rm.locals ≤ R.locals) (hEL : EW Z a0 EL) (H : CHv Z EL vm h) (hsf : ∀ x ∈ sf, x < h.size ∧ Safe Z EL vm h x) :
    BackS l R p e below (s.setVm vm) args y len W (fun A a => a = as' ∧ A.U.heap = h ∧ A.cells + rm.cells ≤ R.cells ∧ A.slots + rm.slots ≤ R.slots)
      (fun A _ v B => ∃ L, Q v B.U.heap L ∧ B.locs = A.locs ++ L ∧ B.cells = A.cells + rm.cells ∧ B.slots = A.slots + rm.slots ∧ CHr Z EL vm h B.U.vm B.U.heap) :=
  BackS.of_freeW (bytes := bs) (maxL := ml) (ret := rt) (E := fun _ first o t L k n => k = rm.cells ∧ n = rm.slots ∧ (∃ v, o = .returned v ∧ Q v t.heap L) ∧ CHr Z EL first.vm first.heap t.vm t.heap) hM hf hl
    (fun m meth c A a Y hp => have hU : Z.Warmed39 A.U.vm := wtrans (s := s.setVm vm) hZ Y.warmed
      ⟨by show (Cond.and _ .tt).before a A.U = true; rw [Cond.before_and, mv hU wc]; rfl, mv hU wc, mv hU wz, hp.2.2.1, hp.2.2.2⟩)
    (fun m meth c A a g mk Y hp => ⟨hp.1, wtrans (s := s.setVm vm) hZ Y.warmed, hp.2.1, (CHv.at Y hZ hEL H).1, fun x hx => (CHv.at Y hZ hEL H).safe (hsf x hx).1 (hsf x hx).2⟩) (fun _ _ _ _ _ _ _ _ _ => trivial)
    (fun _ _ _ _ ⟨v, L, h1, h2, h3, h4⟩ => ⟨L, _, _, h4, rfl, rfl, ⟨v, h1, h2⟩, h3⟩)
    (fun m meth c A a g mk v t L k n Y hp _ _ ⟨e1, e2, ⟨v', e3, e4⟩, e5⟩ => by
      cases e3; subst e1 e2
      refine ⟨L, e4, rfl, rfl, rfl, (CHv.at Y hZ hEL H).trans ?_⟩
      rw [← hp.2.1]; exact e5)
/-- what lies behind a call that may intern -/
abbrev BehW (p : Program) (l : Launch) (e : Env) (R : Room) (s : State) (m : MethodId) (args : Array Value) (below : List Frame) (meth : Method) (c : Code) (Z : State) (EL : List (String × Nat)) (vm : Vm) (h : Heap) (locs : List Loc) (cells slots cc ss : Nat) (own : String) (Q : Option Value → Heap → List Loc → Prop) (S0 : State) (pc : Nat) (Ls : Array Slot) (rest : List Value) : Prop :=
  ∃ v T' L, Stand p l e R (s.setVm T'.vm) m args below meth c T' (locs ++ L) (cells + cc) (slots + ss) ∧ Q v T'.heap L ∧ To p.tables e below S0 (T'.setTop (mkF m pc Ls (v.toList ++ rest))) ∧ CHr Z EL vm h T'.vm T'.heap ∧ s.Since T'.vm T'.heap.size ∧ Z.Warmed39 T'.vm ∧ T'.vm.findClass own = some m.cls
theorem behW {own : String} {cc ss : Nat} {pc : Nat} {Ls : Array Slot} {rest : List Value} {v : Option Value} {T' : State} {L : List Loc} (hZ : Z.Warmed39 vm) (hown : vm.findClass own = some m.cls) (hS : s.Since vm n) (hn : n ≤ h.size) (X' : Stand p l e R ((s.setVm vm).setVm T'.vm) m args below meth c T' (locs ++ L) (cells + cc) (slots + ss)) (hS' : (s.setVm vm).Since T'.vm T'.heap.size) (hg : h.size ≤ T'.heap.size)
    (hQ : Q v T'.heap L) (hC : CHr Z EL vm h T'.vm T'.heap) (k : To p.tables e below S0 (T'.setTop (mkF m pc Ls (v.toList ++ rest)))) : BehW p l e R s m args below meth c Z EL vm h locs cells slots cc ss own Q S0 pc Ls rest :=
  ⟨v, T', L, X', hQ, k, hC, hS.trans hS' (Nat.le_trans hn hg), State.Warmed39.trans (t := s.setVm vm) hZ hS'.1, by rw [hS'.1.alike.findClass]; exact hown⟩
theorem callSW (X : Stand p l e R (s.setVm vm) m args below meth c T locs cells slots) (hx : p.tables.exec = Jvm.exec) (hZ : Z.Warmed39 vm) {own : String} {index : Nat} {y : MethodName} {bs : ByteArray} {ml : Nat} {rt : Option FieldType} {cc ss W : Nat} {as' : Array Value}
    (hown : vm.findClass own = some m.cls) (hS : s.Since vm n) (hn : n ≤ h.size) (w1 : (Cond.methodLink own index y).before a0 Z = true) (w2 : (Cond.static y).before a0 Z = true) (w3 : (Cond.initialized y.cls).before a0 Z = true) (w4 : (Cond.code y bs ml rt).before a0 Z = true) (hy : y.cls ≠ "java/lang/invoke/MethodHandle" ∧ y.cls ≠ "java/lang/invoke/VarHandle")
    (hK : BackS l R p e below (s.setVm vm) args y 3 W (fun A a => a = as' ∧ A.U.heap = h ∧ A.cells + cc ≤ R.cells ∧ A.slots + ss ≤ R.slots) (fun A _ v B => ∃ L, Q v B.U.heap L ∧ B.locs = A.locs ++ L ∧ B.cells = A.cells + cc ∧ B.slots = A.slots + ss ∧ CHr Z EL vm h B.U.vm B.U.heap)) (eT : T.heap = h) {pc : Nat} {Ls : Array Slot} {st argsL rest : List Value} (hst : st = argsL.reverse ++ rest) (has : argsL.toArray = as') {ps : List FieldType} {r : Option FieldType} (hpd : parseMethodDescriptor y.desc = some ⟨ps, r⟩) (hlen : argsL.length = ps.length) (hsize : Ls.size = c.maxLocals)
    (hd : decode c.code pc = .ok (.invokestatic index, 3)) (hW : (rest.map fun v => v.category).sum ≤ W) (hc : cells + cc ≤ R.cells) (hs : slots + ss ≤ R.slots) (k : To p.tables e below S0 (T.setTop (mkF m pc Ls st))) :
    BehW p l e R s m args below meth c Z EL vm h locs cells slots cc ss own Q S0 (pc + 3) Ls rest := by
  obtain ⟨v, vm₁, ⟨T', L', k', n'⟩, -, X', hS', hg, ⟨L, hQ, q1, q2, q3, hC⟩, stp⟩ := callSS X hx hown (mvT (s := s.setVm vm) hZ w1) (mvT (s := s.setVm vm) hZ w2) (mvT (s := s.setVm vm) hZ w3) (mvT (s := s.setVm vm) hZ w4) hy hK (g := mkF m pc Ls st) rfl hsize (argsL := argsL) (rest := rest) (lenOf hpd hlen) hst (by show 2 * 0 + _ ≤ _; omega) hd (fun _ _ => ⟨has, eT, hc, hs⟩)
  dsimp only [Pt.U, Pt.locs, Pt.cells, Pt.slots] at X' q1 q2 q3 stp hQ hS' hg hC
  subst q1 q2 q3
  exact behW hZ hown hS hn X' hS' (eT ▸ hg) hQ hC fun t q => k t (stp.trans q)
theorem callCW (X : Stand p l e R (s.setVm vm) m args below meth c T locs cells slots) (hx : p.tables.exec = Jvm.exec) (hZ : Z.Warmed39 vm) {own : String} {index : Nat} {y : MethodName} {bs : ByteArray} {ml : Nat} {cc ss W : Nat} {as' : Array Value}
    (hy1 : y.name = "<init>") (hown : vm.findClass own = some m.cls) (hS : s.Since vm n) (hn : n ≤ h.size) (w1 : (Cond.methodLink own index y).before a0 Z = true) (w2 : (Cond.instanceMethod y).before a0 Z = true) (w4 : (Cond.code y bs ml none).before a0 Z = true) (hy : y.cls ≠ "java/lang/invoke/MethodHandle" ∧ y.cls ≠ "java/lang/invoke/VarHandle")
    (hK : BackS l R p e below (s.setVm vm) args y 3 W (fun A a => a = as' ∧ A.U.heap = h ∧ A.cells + cc ≤ R.cells ∧ A.slots + ss ≤ R.slots) (fun A _ v B => ∃ L, Q v B.U.heap L ∧ B.locs = A.locs ++ L ∧ B.cells = A.cells + cc ∧ B.slots = A.slots + ss ∧ CHr Z EL vm h B.U.vm B.U.heap)) (eT : T.heap = h) {pc : Nat} {Ls : Array Slot} {a : Addr} {st argsL rest : List Value} (hst : st = argsL.reverse ++ .ref a :: rest) (has : (.ref a :: argsL).toArray = as') {ps : List FieldType} {r : Option FieldType} (hpd : parseMethodDescriptor y.desc = some ⟨ps, r⟩) (hlen : argsL.length = ps.length) (hsize : Ls.size = c.maxLocals)
    (hd : decode c.code pc = .ok (.invokespecial index, 3)) (hW : (rest.map fun v => v.category).sum ≤ W) (hc : cells + cc ≤ R.cells) (hs : slots + ss ≤ R.slots) (k : To p.tables e below S0 (T.setTop (mkF m pc Ls st))) :
    BehW p l e R s m args below meth c Z EL vm h locs cells slots cc ss own Q S0 (pc + 3) Ls rest := by
  obtain ⟨v, vm₁, ⟨T', L', k', n'⟩, -, X', hS', hg, ⟨L, hQ, q1, q2, q3, hC⟩, stp⟩ := specialBackS X hx hy1 hown (mvT (s := s.setVm vm) hZ w1) (mvT (s := s.setVm vm) hZ w2) (mvT (s := s.setVm vm) hZ w4) hy hK (g := mkF m pc Ls st) rfl hsize (Steps.refl _) (a := a) (argsL := argsL) (rest := rest) (lenOf hpd hlen) hst (by show 2 * 0 + _ ≤ _; omega) hd (fun _ _ => ⟨has, eT, hc, hs⟩)
  dsimp only [Pt.U, Pt.locs, Pt.cells, Pt.slots] at X' q1 q2 q3 stp hQ hS' hg hC
  subst q1 q2 q3
  exact behW hZ hown hS hn X' hS' (eT ▸ hg) hQ hC fun t q => k t (stp.trans q)
theorem callVW (X : Stand p l e R (s.setVm vm) m args below meth c T locs cells slots) (hx : p.tables.exec = Jvm.exec) (hZ : Z.Warmed39 vm) {own C : String} {index : Nat} {y z : MethodName} {cc ss W : Nat} {as' : Array Value}
    (hown : vm.findClass own = some m.cls) (hS : s.Since vm n) (hn : n ≤ h.size) (w1 : (Cond.methodLink own index y).before a0 Z = true) (w2 : (Cond.declares y).before a0 Z = true) (hnf : NotFace (s.setVm vm) y) (w5 : (Cond.selects C y z).before a0 Z = true) (w6 : (Cond.instanceMethod z).before a0 Z = true)
    (hy : y.cls ≠ "java/lang/invoke/MethodHandle" ∧ y.cls ≠ "java/lang/invoke/VarHandle") {b : Addr} (E : Exa Z h b C)
    (hK : BackS l R p e below (s.setVm vm) args z 3 W (fun A a => a = as' ∧ A.U.heap = h ∧ A.cells + cc ≤ R.cells ∧ A.slots + ss ≤ R.slots) (fun A _ v B => ∃ L, Q v B.U.heap L ∧ B.locs = A.locs ++ L ∧ B.cells = A.cells + cc ∧ B.slots = A.slots + ss ∧ CHr Z EL vm h B.U.vm B.U.heap)) (eT : T.heap = h) {pc : Nat} {Ls : Array Slot} {st argsL rest : List Value} (hst : st = argsL.reverse ++ .ref b :: rest) (has : (.ref b :: argsL).toArray = as') {ps : List FieldType} {r : Option FieldType} (hpd : parseMethodDescriptor y.desc = some ⟨ps, r⟩) (hlen : argsL.length = ps.length) (hsize : Ls.size = c.maxLocals)
    (hd : decode c.code pc = .ok (.invokevirtual index, 3)) (hW : (rest.map fun v => v.category).sum ≤ W) (hc : cells + cc ≤ R.cells) (hs : slots + ss ≤ R.slots) (k : To p.tables e below S0 (T.setTop (mkF m pc Ls st))) :
    BehW p l e R s m args below meth c Z EL vm h locs cells slots cc ss own Q S0 (pc + 3) Ls rest := by
  obtain ⟨cq, kq, qa, qb, qc⟩ := isOf (s := s.setVm vm) hZ eT E
  obtain ⟨v, vm₁, ⟨T', L', k', n'⟩, -, X', hS', hg, ⟨L, hQ, q1, q2, q3, hC⟩, stp⟩ := virtualBackS X hx hown (mvT (s := s.setVm vm) hZ w1) (mvT (s := s.setVm vm) hZ w2) hnf (mvT (s := s.setVm vm) hZ w5) (mvT (s := s.setVm vm) hZ w6) hy hK qa qc (g := mkF m pc Ls st) rfl hsize (Steps.refl _) (argsL := argsL) (rest := rest) (lenOf hpd hlen) hst (by show 2 * 0 + _ ≤ _; omega) hd (fun _ _ => ⟨has, eT, hc, hs⟩)
  dsimp only [Pt.U, Pt.locs, Pt.cells, Pt.slots] at X' q1 q2 q3 stp hQ hS' hg hC
  subst q1 q2 q3
  exact behW hZ hown hS hn X' hS' (eT ▸ hg) hQ hC fun t q => k t (stp.trans q)
end Wide
abbrev own_EL : List (String × Nat) := consts_1
theorem own_EW {Z : State} {a0 : Array Value} (hw : ∀ d ∈ tables_1, d.before a0 Z = true) : EW Z a0 own_EL := (EW.cons (hw _ (List.mem_of_getElem? (i := 18) rfl)) (by decide) EW.nil)
theorem own_wS {Z : State} {a0 : Array Value} (hw : ∀ d ∈ tables_1, d.before a0 Z = true) : ∀ a ∈ Bundle.stringAtoms, a.before a0 Z = true := fun a ha => by
  simp only [Bundle.stringAtoms, List.mem_cons, List.not_mem_nil, or_false] at ha
  rcases ha with rfl | rfl | rfl | rfl | rfl | rfl | rfl
  · exact (hw _ (List.mem_of_getElem? (i := 7) rfl))
  · exact (hw _ (List.mem_of_getElem? (i := 6) rfl))
  · exact (hw _ (List.mem_of_getElem? (i := 19) rfl))
  · exact (hw _ (List.mem_of_getElem? (i := 20) rfl))
  · exact (hw _ (List.mem_of_getElem? (i := 21) rfl))
  · exact (hw _ (List.mem_of_getElem? (i := 22) rfl))
  · exact (hw _ (List.mem_of_getElem? (i := 23) rfl))
theorem d_jdk_52_method_21_code_0 : decode jdk_52_method_21_code 0 = .ok (.iconst 0, 1) := by decide +kernel
theorem d_jdk_52_method_21_code_1 : decode jdk_52_method_21_code 1 = .ok (.istore 5, 2) := by decide +kernel
theorem d_jdk_52_method_21_code_3 : decode jdk_52_method_21_code 3 = .ok (.iload 5, 2) := by decide +kernel
theorem d_jdk_52_method_21_code_5 : decode jdk_52_method_21_code 5 = .ok (.iload 4, 2) := by decide +kernel
theorem d_jdk_52_method_21_code_7 : decode jdk_52_method_21_code 7 = .ok (.if_icmp .ge 37, 3) := by decide +kernel
theorem d_jdk_52_method_21_code_10 : decode jdk_52_method_21_code 10 = .ok (.aload_n 0, 1) := by decide +kernel
theorem d_jdk_52_method_21_code_11 : decode jdk_52_method_21_code 11 = .ok (.iload_n 1, 1) := by decide +kernel
theorem d_jdk_52_method_21_code_12 : decode jdk_52_method_21_code 12 = .ok (.caload, 1) := by decide +kernel
theorem d_jdk_52_method_21_code_13 : decode jdk_52_method_21_code 13 = .ok (.istore 6, 2) := by decide +kernel
theorem d_jdk_52_method_21_code_15 : decode jdk_52_method_21_code 15 = .ok (.iload 6, 2) := by decide +kernel
theorem d_jdk_52_method_21_code_17 : decode jdk_52_method_21_code 17 = .ok (.sipush 255, 3) := by decide +kernel
theorem d_jdk_52_method_21_code_20 : decode jdk_52_method_21_code 20 = .ok (.if_icmp .le 6, 3) := by decide +kernel
theorem d_jdk_52_method_21_code_23 : decode jdk_52_method_21_code 23 = .ok (.iload 5, 2) := by decide +kernel
theorem d_jdk_52_method_21_code_25 : decode jdk_52_method_21_code 25 = .ok (.ireturn, 1) := by decide +kernel
theorem d_jdk_52_method_21_code_26 : decode jdk_52_method_21_code 26 = .ok (.aload_n 2, 1) := by decide +kernel
theorem d_jdk_52_method_21_code_27 : decode jdk_52_method_21_code 27 = .ok (.iload_n 3, 1) := by decide +kernel
theorem d_jdk_52_method_21_code_28 : decode jdk_52_method_21_code 28 = .ok (.iload 6, 2) := by decide +kernel
theorem d_jdk_52_method_21_code_30 : decode jdk_52_method_21_code 30 = .ok (.i2b, 1) := by decide +kernel
theorem d_jdk_52_method_21_code_31 : decode jdk_52_method_21_code 31 = .ok (.bastore, 1) := by decide +kernel
theorem d_jdk_52_method_21_code_32 : decode jdk_52_method_21_code 32 = .ok (.iinc 1 1, 3) := by decide +kernel
theorem d_jdk_52_method_21_code_35 : decode jdk_52_method_21_code 35 = .ok (.iinc 3 1, 3) := by decide +kernel
theorem d_jdk_52_method_21_code_38 : decode jdk_52_method_21_code 38 = .ok (.iinc 5 1, 3) := by decide +kernel
theorem d_jdk_52_method_21_code_41 : decode jdk_52_method_21_code 41 = .ok (.goto (-38), 3) := by decide +kernel
theorem d_jdk_52_method_21_code_44 : decode jdk_52_method_21_code 44 = .ok (.iload 4, 2) := by decide +kernel
theorem d_jdk_52_method_21_code_46 : decode jdk_52_method_21_code 46 = .ok (.ireturn, 1) := by decide +kernel
theorem pn_0 : plainName "java/lang/StringUTF16" = true := by first | (simp [plainName, overriddenIn]; done) | decide +kernel
set_option maxRecDepth 65536 in
set_option maxHeartbeats 40000000 in
theorem rm_c5_1 (l : Launch) (Z : State) (a0 : Array Value) (hw : ∀ d ∈ tables_1, d.before a0 Z = true) (b : Addr) (kb : ClassId) (t : Addr) (kt : ClassId) (d0 : Int32) (h0 : Heap) (n0 : Nat) (hn0 : n0 ≤ h0.size) (P0 : Arv Z h0 b kb .char (1 : Int32) [(.int d0)] (.int (0 : Int32))) (P1 : Arv Z h0 t kt .byte (1 : Int32) [(.int (0 : Int32))] (.int (0 : Int32))) (ga : n0 ≤ t) (nbt : ¬ (@Eq Nat b t)) (hd0 : ¬ d0 < (0 : Int32) ∧ ¬ (255 : Int32) < d0) :
    Con l Z (⟨"java/lang/StringUTF16", "compress", "([CI[BII)I"⟩ : MethodName) jdk_52_method_21_code 7 (some .int) [] ({ frames := 0, cells := 0, slots := 0, locals := 0 } : Room) #[(.ref b), (.int (0 : Int32)), (.ref t), (.int (0 : Int32)), (.int (1 : Int32))] h0 (fun v h L => v = some (.int (1 : Int32)) ∧ Fr n0 L ∧ Keep h0 h [t] ∧ Arv Z h t kt .byte (1 : Int32) [(.int (nar .byte (d0.toInt8.toInt32)))] (.int (0 : Int32))) := by
  refine enter (Ls := #[.val (.ref b), .val (.int (0 : Int32)), .val (.ref t), .val (.int (0 : Int32)), .val (.int (1 : Int32)), .unset, .unset]) (plainFor_of_name pn_0) (fun m => by exact entry_eq rfl) ?_
  intro p e s m below meth cd_ s₁ S0 hx hby hml hret hlk hnm hown hZ X0 e0 k0
  have N0 := Fr.nil n0
  have k1 : To p.tables e below S0 (s₁.setTop (mkF m 12 #[.val (.ref b), .val (.int (0 : Int32)), .val (.ref t), .val (.int (0 : Int32)), .val (.int (1 : Int32)), .val (.int (0 : Int32)), .unset] [(.int (0 : Int32)), (.ref b)])) := fun tt hq => k0 tt (by
    show Steps _ _ _ (s₁.setTop (mkF m 0 #[.val (.ref b), .val (.int (0 : Int32)), .val (.ref t), .val (.int (0 : Int32)), .val (.int (1 : Int32)), .unset, .unset] [])) _
    refine XS.iconst X0.here hx rfl (hb hby d_jdk_52_method_21_code_0) ?_
    show Steps _ _ _ (s₁.setTop (mkF m 1 #[.val (.ref b), .val (.int (0 : Int32)), .val (.ref t), .val (.int (0 : Int32)), .val (.int (1 : Int32)), .unset, .unset] [(.int (0 : Int32))])) _
    refine XS.istore X0.here hx rfl (hb hby d_jdk_52_method_21_code_1) rfl (l' := #[.val (.ref b), .val (.int (0 : Int32)), .val (.ref t), .val (.int (0 : Int32)), .val (.int (1 : Int32)), .val (.int (0 : Int32)), .unset]) rfl ?_
    show Steps _ _ _ (s₁.setTop (mkF m 3 #[.val (.ref b), .val (.int (0 : Int32)), .val (.ref t), .val (.int (0 : Int32)), .val (.int (1 : Int32)), .val (.int (0 : Int32)), .unset] [])) _
    refine XS.iload X0.here hx rfl (hb hby d_jdk_52_method_21_code_3) rfl ?_
    show Steps _ _ _ (s₁.setTop (mkF m 5 #[.val (.ref b), .val (.int (0 : Int32)), .val (.ref t), .val (.int (0 : Int32)), .val (.int (1 : Int32)), .val (.int (0 : Int32)), .unset] [(.int (0 : Int32))])) _
    refine XS.iload X0.here hx rfl (hb hby d_jdk_52_method_21_code_5) rfl ?_
    show Steps _ _ _ (s₁.setTop (mkF m 7 #[.val (.ref b), .val (.int (0 : Int32)), .val (.ref t), .val (.int (0 : Int32)), .val (.int (1 : Int32)), .val (.int (0 : Int32)), .unset] [(.int (1 : Int32)), (.int (0 : Int32))])) _
    refine XS.icmpNo X0.here hx rfl (hb hby d_jdk_52_method_21_code_7) rfl (tlt (by decide)).2.1 ?_
    show Steps _ _ _ (s₁.setTop (mkF m 10 #[.val (.ref b), .val (.int (0 : Int32)), .val (.ref t), .val (.int (0 : Int32)), .val (.int (1 : Int32)), .val (.int (0 : Int32)), .unset] [])) _
    refine XS.aloadN X0.here hx rfl (hb hby d_jdk_52_method_21_code_10) rfl rfl ?_
    show Steps _ _ _ (s₁.setTop (mkF m 11 #[.val (.ref b), .val (.int (0 : Int32)), .val (.ref t), .val (.int (0 : Int32)), .val (.int (1 : Int32)), .val (.int (0 : Int32)), .unset] [(.ref b)])) _
    refine XS.iloadN X0.here hx rfl (hb hby d_jdk_52_method_21_code_11) rfl ?_
    show Steps _ _ _ (s₁.setTop (mkF m 12 #[.val (.ref b), .val (.int (0 : Int32)), .val (.ref t), .val (.int (0 : Int32)), .val (.int (1 : Int32)), .val (.int (0 : Int32)), .unset] [(.int (0 : Int32)), (.ref b)])) _
    exact hq)
  obtain ⟨cl2, Ar2, -, S2, -, G2, -⟩ := id P0
  have hi2 := inb_of (j := (0 : Int32)) S2 ⟨by decide, by decide⟩
  have st2 := fun tt => X0.caload hx (j := (0 : Int32)) (v := (.int d0)) (by rw [e0]; exact Ar2.1) (State.isArrayOf_alike hZ.alike Ar2.2.1) Ar2.2.2 hi2 (G2.at hi2 rfl) (g := (mkF m 12 #[.val (.ref b), .val (.int (0 : Int32)), .val (.ref t), .val (.int (0 : Int32)), .val (.int (1 : Int32)), .val (.int (0 : Int32)), .unset] [(.int (0 : Int32)), (.ref b)])) rfl rfl (hb hby d_jdk_52_method_21_code_12) tt
  have k2 : To p.tables e below S0 (s₁.setTop (mkF m 13 #[.val (.ref b), .val (.int (0 : Int32)), .val (.ref t), .val (.int (0 : Int32)), .val (.int (1 : Int32)), .val (.int (0 : Int32)), .unset] [(.int d0)])) := fun tt hq => k1 tt (st2 tt hq)
  have k3 : To p.tables e below S0 (s₁.setTop (mkF m 31 #[.val (.ref b), .val (.int (0 : Int32)), .val (.ref t), .val (.int (0 : Int32)), .val (.int (1 : Int32)), .val (.int (0 : Int32)), .val (.int d0)] [(.int (d0.toInt8.toInt32)), (.int (0 : Int32)), (.ref t)])) := fun tt hq => k2 tt (by
    show Steps _ _ _ (s₁.setTop (mkF m 13 #[.val (.ref b), .val (.int (0 : Int32)), .val (.ref t), .val (.int (0 : Int32)), .val (.int (1 : Int32)), .val (.int (0 : Int32)), .unset] [(.int d0)])) _
    refine XS.istore X0.here hx rfl (hb hby d_jdk_52_method_21_code_13) rfl (l' := #[.val (.ref b), .val (.int (0 : Int32)), .val (.ref t), .val (.int (0 : Int32)), .val (.int (1 : Int32)), .val (.int (0 : Int32)), .val (.int d0)]) rfl ?_
    show Steps _ _ _ (s₁.setTop (mkF m 15 #[.val (.ref b), .val (.int (0 : Int32)), .val (.ref t), .val (.int (0 : Int32)), .val (.int (1 : Int32)), .val (.int (0 : Int32)), .val (.int d0)] [])) _
    refine XS.iload X0.here hx rfl (hb hby d_jdk_52_method_21_code_15) rfl ?_
    show Steps _ _ _ (s₁.setTop (mkF m 17 #[.val (.ref b), .val (.int (0 : Int32)), .val (.ref t), .val (.int (0 : Int32)), .val (.int (1 : Int32)), .val (.int (0 : Int32)), .val (.int d0)] [(.int d0)])) _
    refine XS.sipush X0.here hx rfl (hb hby d_jdk_52_method_21_code_17) ?_
    show Steps _ _ _ (s₁.setTop (mkF m 20 #[.val (.ref b), .val (.int (0 : Int32)), .val (.ref t), .val (.int (0 : Int32)), .val (.int (1 : Int32)), .val (.int (0 : Int32)), .val (.int d0)] [(.int (255 : Int32)), (.int d0)])) _
    refine XS.icmpYes X0.here hx rfl (pc0 := 20) (pc' := 26) rfl (hb hby d_jdk_52_method_21_code_20) rfl (flt hd0.2).2.2.2 (by decide) (by decide) ?_
    show Steps _ _ _ (s₁.setTop (mkF m 26 #[.val (.ref b), .val (.int (0 : Int32)), .val (.ref t), .val (.int (0 : Int32)), .val (.int (1 : Int32)), .val (.int (0 : Int32)), .val (.int d0)] [])) _
    refine XS.aloadN X0.here hx rfl (hb hby d_jdk_52_method_21_code_26) rfl rfl ?_
    show Steps _ _ _ (s₁.setTop (mkF m 27 #[.val (.ref b), .val (.int (0 : Int32)), .val (.ref t), .val (.int (0 : Int32)), .val (.int (1 : Int32)), .val (.int (0 : Int32)), .val (.int d0)] [(.ref t)])) _
    refine XS.iloadN X0.here hx rfl (hb hby d_jdk_52_method_21_code_27) rfl ?_
    show Steps _ _ _ (s₁.setTop (mkF m 28 #[.val (.ref b), .val (.int (0 : Int32)), .val (.ref t), .val (.int (0 : Int32)), .val (.int (1 : Int32)), .val (.int (0 : Int32)), .val (.int d0)] [(.int (0 : Int32)), (.ref t)])) _
    refine XS.iload X0.here hx rfl (hb hby d_jdk_52_method_21_code_28) rfl ?_
    show Steps _ _ _ (s₁.setTop (mkF m 30 #[.val (.ref b), .val (.int (0 : Int32)), .val (.ref t), .val (.int (0 : Int32)), .val (.int (1 : Int32)), .val (.int (0 : Int32)), .val (.int d0)] [(.int d0), (.int (0 : Int32)), (.ref t)])) _
    refine XS.i2b X0.here hx rfl (hb hby d_jdk_52_method_21_code_30) rfl ?_
    show Steps _ _ _ (s₁.setTop (mkF m 31 #[.val (.ref b), .val (.int (0 : Int32)), .val (.ref t), .val (.int (0 : Int32)), .val (.int (1 : Int32)), .val (.int (0 : Int32)), .val (.int d0)] [(.int (d0.toInt8.toInt32)), (.int (0 : Int32)), (.ref t)])) _
    exact hq)
  obtain ⟨cl4, Ar4, q4, S4, M4, G4, J4⟩ := id P1
  obtain ⟨T4, h4, X4, e4, W4, st4⟩ := stB X0 hx hZ e0 Ar4 (j := (0 : Int32)) (inb_of S4 ⟨by decide, by decide⟩) (g := (mkF m 31 #[.val (.ref b), .val (.int (0 : Int32)), .val (.ref t), .val (.int (0 : Int32)), .val (.int (1 : Int32)), .val (.int (0 : Int32)), .val (.int d0)] [(.int (d0.toInt8.toInt32)), (.int (0 : Int32)), (.ref t)])) rfl rfl (hb hby d_jdk_52_method_21_code_31)
  have k4 : To p.tables e below S0 (T4.setTop (mkF m 32 #[.val (.ref b), .val (.int (0 : Int32)), .val (.ref t), .val (.int (0 : Int32)), .val (.int (1 : Int32)), .val (.int (0 : Int32)), .val (.int d0)] [])) := fun tt hq => k3 tt (st4 tt hq)
  have z4 : h4.size = h0.size := W4.size
  have V4 : Arv Z h4 t kt .byte (1 : Int32) [(.int (nar .byte (d0.toInt8.toInt32)))] (.int (0 : Int32)) := Arv.set Ar4 q4 S4 M4 G4 J4 (fits_nar_byte _) W4 0 rfl (Nat.le_of_ble_eq_true rfl)
  have N4 := Fr.snoc X4 N0 (by omega : n0 ≤ t)
  have k5 : To p.tables e below S0 (T4.setTop (mkF m 46 #[.val (.ref b), .val (.int (1 : Int32)), .val (.ref t), .val (.int (1 : Int32)), .val (.int (1 : Int32)), .val (.int (1 : Int32)), .val (.int d0)] [(.int (1 : Int32))])) := fun tt hq => k4 tt (by
    show Steps _ _ _ (T4.setTop (mkF m 32 #[.val (.ref b), .val (.int (0 : Int32)), .val (.ref t), .val (.int (0 : Int32)), .val (.int (1 : Int32)), .val (.int (0 : Int32)), .val (.int d0)] [])) _
    refine XS.iinc X4.here hx rfl (hb hby d_jdk_52_method_21_code_32) rfl (l' := #[.val (.ref b), .val (.int (1 : Int32)), .val (.ref t), .val (.int (0 : Int32)), .val (.int (1 : Int32)), .val (.int (0 : Int32)), .val (.int d0)]) rfl ?_
    show Steps _ _ _ (T4.setTop (mkF m 35 #[.val (.ref b), .val (.int (1 : Int32)), .val (.ref t), .val (.int (0 : Int32)), .val (.int (1 : Int32)), .val (.int (0 : Int32)), .val (.int d0)] [])) _
    refine XS.iinc X4.here hx rfl (hb hby d_jdk_52_method_21_code_35) rfl (l' := #[.val (.ref b), .val (.int (1 : Int32)), .val (.ref t), .val (.int (1 : Int32)), .val (.int (1 : Int32)), .val (.int (0 : Int32)), .val (.int d0)]) rfl ?_
    show Steps _ _ _ (T4.setTop (mkF m 38 #[.val (.ref b), .val (.int (1 : Int32)), .val (.ref t), .val (.int (1 : Int32)), .val (.int (1 : Int32)), .val (.int (0 : Int32)), .val (.int d0)] [])) _
    refine XS.iinc X4.here hx rfl (hb hby d_jdk_52_method_21_code_38) rfl (l' := #[.val (.ref b), .val (.int (1 : Int32)), .val (.ref t), .val (.int (1 : Int32)), .val (.int (1 : Int32)), .val (.int (1 : Int32)), .val (.int d0)]) rfl ?_
    show Steps _ _ _ (T4.setTop (mkF m 41 #[.val (.ref b), .val (.int (1 : Int32)), .val (.ref t), .val (.int (1 : Int32)), .val (.int (1 : Int32)), .val (.int (1 : Int32)), .val (.int d0)] [])) _
    refine XS.goto X4.here hx rfl (pc0 := 41) (pc' := 3) rfl (hb hby d_jdk_52_method_21_code_41) (by decide) (by decide) ?_
    show Steps _ _ _ (T4.setTop (mkF m 3 #[.val (.ref b), .val (.int (1 : Int32)), .val (.ref t), .val (.int (1 : Int32)), .val (.int (1 : Int32)), .val (.int (1 : Int32)), .val (.int d0)] [])) _
    refine XS.iload X4.here hx rfl (hb hby d_jdk_52_method_21_code_3) rfl ?_
    show Steps _ _ _ (T4.setTop (mkF m 5 #[.val (.ref b), .val (.int (1 : Int32)), .val (.ref t), .val (.int (1 : Int32)), .val (.int (1 : Int32)), .val (.int (1 : Int32)), .val (.int d0)] [(.int (1 : Int32))])) _
    refine XS.iload X4.here hx rfl (hb hby d_jdk_52_method_21_code_5) rfl ?_
    show Steps _ _ _ (T4.setTop (mkF m 7 #[.val (.ref b), .val (.int (1 : Int32)), .val (.ref t), .val (.int (1 : Int32)), .val (.int (1 : Int32)), .val (.int (1 : Int32)), .val (.int d0)] [(.int (1 : Int32)), (.int (1 : Int32))])) _
    refine XS.icmpYes X4.here hx rfl (pc0 := 7) (pc' := 44) rfl (hb hby d_jdk_52_method_21_code_7) rfl (flt (by decide)).2.1 (by decide) (by decide) ?_
    show Steps _ _ _ (T4.setTop (mkF m 44 #[.val (.ref b), .val (.int (1 : Int32)), .val (.ref t), .val (.int (1 : Int32)), .val (.int (1 : Int32)), .val (.int (1 : Int32)), .val (.int d0)] [])) _
    refine XS.iload X4.here hx rfl (hb hby d_jdk_52_method_21_code_44) rfl ?_
    show Steps _ _ _ (T4.setTop (mkF m 46 #[.val (.ref b), .val (.int (1 : Int32)), .val (.ref t), .val (.int (1 : Int32)), .val (.int (1 : Int32)), .val (.int (1 : Int32)), .val (.int d0)] [(.int (1 : Int32))])) _
    exact hq)
  have hE := e4
  refine retInt X4 hx hret hlk (by simp) rfl (hb hby d_jdk_52_method_21_code_46) k5 ?_ (by decide) (by decide)
  try rw [hE]
  exact ⟨rfl, N4, ((Keep.refl h0 [t]).wr W4 (Or.inl (by simp))), V4⟩
theorem d_jdk_52_method_16_code_0 : decode jdk_52_method_16_code 0 = .ok (.iload_n 2, 1) := by decide +kernel
theorem d_jdk_52_method_16_code_1 : decode jdk_52_method_16_code 1 = .ok (.newarray .byte, 2) := by decide +kernel
theorem d_jdk_52_method_16_code_3 : decode jdk_52_method_16_code 3 = .ok (.astore_n 3, 1) := by decide +kernel
theorem d_jdk_52_method_16_code_4 : decode jdk_52_method_16_code 4 = .ok (.aload_n 0, 1) := by decide +kernel
theorem d_jdk_52_method_16_code_5 : decode jdk_52_method_16_code 5 = .ok (.iload_n 1, 1) := by decide +kernel
theorem d_jdk_52_method_16_code_6 : decode jdk_52_method_16_code 6 = .ok (.aload_n 3, 1) := by decide +kernel
theorem d_jdk_52_method_16_code_7 : decode jdk_52_method_16_code 7 = .ok (.iconst 0, 1) := by decide +kernel
theorem d_jdk_52_method_16_code_8 : decode jdk_52_method_16_code 8 = .ok (.iload_n 2, 1) := by decide +kernel
theorem d_jdk_52_method_16_code_9 : decode jdk_52_method_16_code 9 = .ok (.invokestatic 115, 3) := by decide +kernel
theorem d_jdk_52_method_16_code_12 : decode jdk_52_method_16_code 12 = .ok (.istore 4, 2) := by decide +kernel
theorem d_jdk_52_method_16_code_14 : decode jdk_52_method_16_code 14 = .ok (.iload 4, 2) := by decide +kernel
theorem d_jdk_52_method_16_code_16 : decode jdk_52_method_16_code 16 = .ok (.iload_n 2, 1) := by decide +kernel
theorem d_jdk_52_method_16_code_17 : decode jdk_52_method_16_code 17 = .ok (.if_icmp .eq 40, 3) := by decide +kernel
theorem d_jdk_52_method_16_code_20 : decode jdk_52_method_16_code 20 = .ok (.aload_n 0, 1) := by decide +kernel
theorem d_jdk_52_method_16_code_21 : decode jdk_52_method_16_code 21 = .ok (.iload_n 1, 1) := by decide +kernel
theorem d_jdk_52_method_16_code_22 : decode jdk_52_method_16_code 22 = .ok (.iload_n 2, 1) := by decide +kernel
theorem d_jdk_52_method_16_code_23 : decode jdk_52_method_16_code 23 = .ok (.invokestatic 119, 3) := by decide +kernel
theorem d_jdk_52_method_16_code_26 : decode jdk_52_method_16_code 26 = .ok (.astore 5, 2) := by decide +kernel
theorem d_jdk_52_method_16_code_28 : decode jdk_52_method_16_code 28 = .ok (.aload 5, 2) := by decide +kernel
theorem d_jdk_52_method_16_code_30 : decode jdk_52_method_16_code 30 = .ok (.iload 4, 2) := by decide +kernel
theorem d_jdk_52_method_16_code_32 : decode jdk_52_method_16_code 32 = .ok (.invokestatic 71, 3) := by decide +kernel
theorem d_jdk_52_method_16_code_35 : decode jdk_52_method_16_code 35 = .ok (.sipush 255, 3) := by decide +kernel
theorem d_jdk_52_method_16_code_38 : decode jdk_52_method_16_code 38 = .ok (.if_icmp .gt 16, 3) := by decide +kernel
theorem d_jdk_52_method_16_code_41 : decode jdk_52_method_16_code 41 = .ok (.aload 5, 2) := by decide +kernel
theorem d_jdk_52_method_16_code_43 : decode jdk_52_method_16_code 43 = .ok (.iconst 0, 1) := by decide +kernel
theorem d_jdk_52_method_16_code_44 : decode jdk_52_method_16_code 44 = .ok (.aload_n 3, 1) := by decide +kernel
theorem d_jdk_52_method_16_code_45 : decode jdk_52_method_16_code 45 = .ok (.iconst 0, 1) := by decide +kernel
theorem d_jdk_52_method_16_code_46 : decode jdk_52_method_16_code 46 = .ok (.iload_n 2, 1) := by decide +kernel
theorem d_jdk_52_method_16_code_47 : decode jdk_52_method_16_code 47 = .ok (.invokestatic 123, 3) := by decide +kernel
theorem d_jdk_52_method_16_code_50 : decode jdk_52_method_16_code 50 = .ok (.iload_n 2, 1) := by decide +kernel
theorem d_jdk_52_method_16_code_51 : decode jdk_52_method_16_code 51 = .ok (.if_icmp .eq 6, 3) := by decide +kernel
theorem d_jdk_52_method_16_code_54 : decode jdk_52_method_16_code 54 = .ok (.aload 5, 2) := by decide +kernel
theorem d_jdk_52_method_16_code_56 : decode jdk_52_method_16_code 56 = .ok (.areturn, 1) := by decide +kernel
theorem d_jdk_52_method_16_code_57 : decode jdk_52_method_16_code 57 = .ok (.aload_n 3, 1) := by decide +kernel
theorem d_jdk_52_method_16_code_58 : decode jdk_52_method_16_code 58 = .ok (.areturn, 1) := by decide +kernel
theorem pd_0 : parseMethodDescriptor "([CI[BII)I" = some ⟨[(.array .char), .int, (.array .byte), .int, .int], some .int⟩ := by decide +kernel
set_option maxRecDepth 65536 in
set_option maxHeartbeats 40000000 in
theorem rm_c3_1 (l : Launch) (Z : State) (a0 : Array Value) (hw : ∀ d ∈ tables_1, d.before a0 Z = true) (b : Addr) (kb : ClassId) (d0 : Int32) (h0 : Heap) (n0 : Nat) (hn0 : n0 ≤ h0.size) (P0 : Arv Z h0 b kb .char (1 : Int32) [(.int d0)] (.int (0 : Int32))) (yb : @LT.lt Nat instLTNat b h0.size) (hd0 : ¬ d0 < (0 : Int32) ∧ ¬ (255 : Int32) < d0) :
    Con l Z (⟨"java/lang/StringUTF16", "compress", "([CII)[B"⟩ : MethodName) jdk_52_method_16_code 6 (some (.array .byte)) [] ({ frames := 1, cells := 1, slots := 1, locals := 18 } : Room) #[(.ref b), (.int (0 : Int32)), (.int (1 : Int32))] h0 (fun v h L => ∃ (t : Addr) (k : ClassId), v = some (.ref t) ∧ Fr n0 L ∧ h0.size ≤ t ∧ Keep h0 h [] ∧ Arv Z h t k .byte (1 : Int32) [(.int (nar .byte (d0.toInt8.toInt32)))] (.int (0 : Int32))) := by
  refine enter (Ls := #[.val (.ref b), .val (.int (0 : Int32)), .val (.int (1 : Int32)), .unset, .unset, .unset]) (plainFor_of_name pn_0) (fun m => by exact entry_eq rfl) ?_
  intro p e s m below meth cd_ s₁ S0 hx hby hml hret hlk hnm hown hZ X0 e0 k0
  have N0 := Fr.nil n0
  have k1 : To p.tables e below S0 (s₁.setTop (mkF m 1 #[.val (.ref b), .val (.int (0 : Int32)), .val (.int (1 : Int32)), .unset, .unset, .unset] [(.int (1 : Int32))])) := fun tt hq => k0 tt (by
    show Steps _ _ _ (s₁.setTop (mkF m 0 #[.val (.ref b), .val (.int (0 : Int32)), .val (.int (1 : Int32)), .unset, .unset, .unset] [])) _
    refine XS.iloadN X0.here hx rfl (hb hby d_jdk_52_method_16_code_0) rfl ?_
    show Steps _ _ _ (s₁.setTop (mkF m 1 #[.val (.ref b), .val (.int (0 : Int32)), .val (.int (1 : Int32)), .unset, .unset, .unset] [(.int (1 : Int32))])) _
    exact hq)
  obtain ⟨T2, h2, c2, X2, e2, E2, A2, st2⟩ := newP X0 hx hZ (hw _ (List.mem_of_getElem? (i := 19) rfl)) e0 (g := (mkF m 1 #[.val (.ref b), .val (.int (0 : Int32)), .val (.int (1 : Int32)), .unset, .unset, .unset] [(.int (1 : Int32))])) rfl (hb hby d_jdk_52_method_16_code_1) rfl (by decide) (cap := 1) (by decide) (by decide) (by decide) (by decide)
  obtain ⟨b2, g2⟩ : ∃ z, z = h0.size := ⟨_, rfl⟩
  rw [← g2] at A2 st2
  have k2 : To p.tables e below S0 (T2.setTop (mkF m 3 #[.val (.ref b), .val (.int (0 : Int32)), .val (.int (1 : Int32)), .unset, .unset, .unset] [(.ref b2)])) := fun tt hq => k1 tt (st2 tt hq)
  have z2 : h0.size ≤ h2.size := E2.1
  have V2 : Arv Z h2 b2 c2 .byte (1 : Int32) [(.int (0 : Int32))] (.int (0 : Int32)) := (Arv.new A2 (by decide)).pad (pad_rep [] (.int (0 : Int32)) 1)
  have y2 : @LT.lt Nat instLTNat b2 h2.size := V2.lt
  have k3 : To p.tables e below S0 (T2.setTop (mkF m 9 #[.val (.ref b), .val (.int (0 : Int32)), .val (.int (1 : Int32)), .val (.ref b2), .unset, .unset] [(.int (1 : Int32)), (.int (0 : Int32)), (.ref b2), (.int (0 : Int32)), (.ref b)])) := fun tt hq => k2 tt (by
    show Steps _ _ _ (T2.setTop (mkF m 3 #[.val (.ref b), .val (.int (0 : Int32)), .val (.int (1 : Int32)), .unset, .unset, .unset] [(.ref b2)])) _
    refine XS.astoreN X2.here hx rfl (hb hby d_jdk_52_method_16_code_3) rfl rfl (l' := #[.val (.ref b), .val (.int (0 : Int32)), .val (.int (1 : Int32)), .val (.ref b2), .unset, .unset]) rfl ?_
    show Steps _ _ _ (T2.setTop (mkF m 4 #[.val (.ref b), .val (.int (0 : Int32)), .val (.int (1 : Int32)), .val (.ref b2), .unset, .unset] [])) _
    refine XS.aloadN X2.here hx rfl (hb hby d_jdk_52_method_16_code_4) rfl rfl ?_
    show Steps _ _ _ (T2.setTop (mkF m 5 #[.val (.ref b), .val (.int (0 : Int32)), .val (.int (1 : Int32)), .val (.ref b2), .unset, .unset] [(.ref b)])) _
    refine XS.iloadN X2.here hx rfl (hb hby d_jdk_52_method_16_code_5) rfl ?_
    show Steps _ _ _ (T2.setTop (mkF m 6 #[.val (.ref b), .val (.int (0 : Int32)), .val (.int (1 : Int32)), .val (.ref b2), .unset, .unset] [(.int (0 : Int32)), (.ref b)])) _
    refine XS.aloadN X2.here hx rfl (hb hby d_jdk_52_method_16_code_6) rfl rfl ?_
    show Steps _ _ _ (T2.setTop (mkF m 7 #[.val (.ref b), .val (.int (0 : Int32)), .val (.int (1 : Int32)), .val (.ref b2), .unset, .unset] [(.ref b2), (.int (0 : Int32)), (.ref b)])) _
    refine XS.iconst X2.here hx rfl (hb hby d_jdk_52_method_16_code_7) ?_
    show Steps _ _ _ (T2.setTop (mkF m 8 #[.val (.ref b), .val (.int (0 : Int32)), .val (.int (1 : Int32)), .val (.ref b2), .unset, .unset] [(.int (0 : Int32)), (.ref b2), (.int (0 : Int32)), (.ref b)])) _
    refine XS.iloadN X2.here hx rfl (hb hby d_jdk_52_method_16_code_8) rfl ?_
    show Steps _ _ _ (T2.setTop (mkF m 9 #[.val (.ref b), .val (.int (0 : Int32)), .val (.int (1 : Int32)), .val (.ref b2), .unset, .unset] [(.int (1 : Int32)), (.int (0 : Int32)), (.ref b2), (.int (0 : Int32)), (.ref b)])) _
    exact hq)
  have f4 : Arv Z h2 b kb .char (1 : Int32) [(.int d0)] (.int (0 : Int32)) := (P0.ext E2)
  obtain ⟨_, T5, L5, X5, ⟨rfl, Nq5, Kq5, V5⟩, k5a⟩ := callS' X2 hx hZ (y := (⟨"java/lang/StringUTF16", "compress", "([CI[BII)I"⟩ : MethodName)) hown (hw _ (List.mem_of_getElem? (i := 95) rfl)) (hw _ (List.mem_of_getElem? (i := 96) rfl)) (hw _ (List.mem_of_getElem? (i := 93) rfl)) (hw _ (List.mem_of_getElem? (i := 97) rfl)) (by decide) (backC (W := 0) (rm_c5_1 l Z a0 hw b kb b2 c2 d0 h2 n0 (by omega) f4 V2 (by omega) (by omega) hd0) hZ (hw _ (List.mem_of_getElem? (i := 97) rfl)) (hw _ (List.mem_of_getElem? (i := 93) rfl)) (by decide) (by decide)) e2 (argsL := [(.ref b), (.int (0 : Int32)), (.ref b2), (.int (0 : Int32)), (.int (1 : Int32))]) (rest := []) rfl rfl pd_0 rfl (by rw [hml]; rfl) (hb hby d_jdk_52_method_16_code_9) (Nat.le_of_eq rfl) (by decide) (by decide) k3
  have k5 : To p.tables e below S0 (T5.setTop (mkF m 12 #[.val (.ref b), .val (.int (0 : Int32)), .val (.int (1 : Int32)), .val (.ref b2), .unset, .unset] [(.int (1 : Int32))])) := k5a
  have N5 := N0.app Nq5
  obtain ⟨h5, e5⟩ : ∃ z, T5.heap = z := ⟨_, rfl⟩
  rw [e5] at Kq5 V5
  have z5 : h2.size ≤ h5.size := Kq5.1
  have k6 : To p.tables e below S0 (T5.setTop (mkF m 58 #[.val (.ref b), .val (.int (0 : Int32)), .val (.int (1 : Int32)), .val (.ref b2), .val (.int (1 : Int32)), .unset] [(.ref b2)])) := fun tt hq => k5 tt (by
    show Steps _ _ _ (T5.setTop (mkF m 12 #[.val (.ref b), .val (.int (0 : Int32)), .val (.int (1 : Int32)), .val (.ref b2), .unset, .unset] [(.int (1 : Int32))])) _
    refine XS.istore X5.here hx rfl (hb hby d_jdk_52_method_16_code_12) rfl (l' := #[.val (.ref b), .val (.int (0 : Int32)), .val (.int (1 : Int32)), .val (.ref b2), .val (.int (1 : Int32)), .unset]) rfl ?_
    show Steps _ _ _ (T5.setTop (mkF m 14 #[.val (.ref b), .val (.int (0 : Int32)), .val (.int (1 : Int32)), .val (.ref b2), .val (.int (1 : Int32)), .unset] [])) _
    refine XS.iload X5.here hx rfl (hb hby d_jdk_52_method_16_code_14) rfl ?_
    show Steps _ _ _ (T5.setTop (mkF m 16 #[.val (.ref b), .val (.int (0 : Int32)), .val (.int (1 : Int32)), .val (.ref b2), .val (.int (1 : Int32)), .unset] [(.int (1 : Int32))])) _
    refine XS.iloadN X5.here hx rfl (hb hby d_jdk_52_method_16_code_16) rfl ?_
    show Steps _ _ _ (T5.setTop (mkF m 17 #[.val (.ref b), .val (.int (0 : Int32)), .val (.int (1 : Int32)), .val (.ref b2), .val (.int (1 : Int32)), .unset] [(.int (1 : Int32)), (.int (1 : Int32))])) _
    refine XS.icmpYes X5.here hx rfl (pc0 := 17) (pc' := 57) rfl (hb hby d_jdk_52_method_16_code_17) rfl (teq (by decide)).1 (by decide) (by decide) ?_
    show Steps _ _ _ (T5.setTop (mkF m 57 #[.val (.ref b), .val (.int (0 : Int32)), .val (.int (1 : Int32)), .val (.ref b2), .val (.int (1 : Int32)), .unset] [])) _
    refine XS.aloadN X5.here hx rfl (hb hby d_jdk_52_method_16_code_57) rfl rfl ?_
    show Steps _ _ _ (T5.setTop (mkF m 58 #[.val (.ref b), .val (.int (0 : Int32)), .val (.int (1 : Int32)), .val (.ref b2), .val (.int (1 : Int32)), .unset] [(.ref b2)])) _
    exact hq)
  have hE := e5
  refine retRef X5 hx hret hlk rfl rfl (hb hby d_jdk_52_method_16_code_58) k6 ?_ (by decide) (by decide)
  try rw [hE]
  exact ⟨b2, _, rfl, N5, (by omega), (((Keep.refl h0 []).ext E2).trans Kq5 (allS (Or.inr (by omega)) all0)), V5⟩
theorem d_jdk_52_method_15_code_0 : decode jdk_52_method_15_code 0 = .ok (.iload_n 1, 1) := by decide +kernel
theorem d_jdk_52_method_15_code_1 : decode jdk_52_method_15_code 1 = .ok (.aload_n 0, 1) := by decide +kernel
theorem d_jdk_52_method_15_code_2 : decode jdk_52_method_15_code 2 = .ok (.arraylength, 1) := by decide +kernel
theorem d_jdk_52_method_15_code_3 : decode jdk_52_method_15_code 3 = .ok (.isub, 1) := by decide +kernel
theorem d_jdk_52_method_15_code_4 : decode jdk_52_method_15_code 4 = .ok (.bipush 31, 2) := by decide +kernel
theorem d_jdk_52_method_15_code_6 : decode jdk_52_method_15_code 6 = .ok (.iushr, 1) := by decide +kernel
theorem d_jdk_52_method_15_code_7 : decode jdk_52_method_15_code 7 = .ok (.i2b, 1) := by decide +kernel
theorem d_jdk_52_method_15_code_8 : decode jdk_52_method_15_code 8 = .ok (.ireturn, 1) := by decide +kernel
set_option maxRecDepth 65536 in
set_option maxHeartbeats 40000000 in
theorem rm_cl_1 (l : Launch) (Z : State) (a0 : Array Value) (hw : ∀ d ∈ tables_1, d.before a0 Z = true) (t : Addr) (kt : ClassId) (d0 : Int32) (h0 : Heap) (n0 : Nat) (hn0 : n0 ≤ h0.size) (P0 : Arv Z h0 t kt .byte (1 : Int32) [(.int d0)] (.int (0 : Int32))) :
    Con l Z (⟨"java/lang/StringUTF16", "coderFromArrayLen", "([BI)B"⟩ : MethodName) jdk_52_method_15_code 2 (some .byte) [] ({ frames := 0, cells := 0, slots := 0, locals := 0 } : Room) #[(.ref t), (.int (1 : Int32))] h0 (fun v h L => v = some (.int (0 : Int32)) ∧ Fr n0 L ∧ h = h0) := by
  refine enter (Ls := #[.val (.ref t), .val (.int (1 : Int32))]) (plainFor_of_name pn_0) (fun m => by exact entry_eq rfl) ?_
  intro p e s m below meth cd_ s₁ S0 hx hby hml hret hlk hnm hown hZ X0 e0 k0
  have N0 := Fr.nil n0
  have k1 : To p.tables e below S0 (s₁.setTop (mkF m 2 #[.val (.ref t), .val (.int (1 : Int32))] [(.ref t), (.int (1 : Int32))])) := fun tt hq => k0 tt (by
    show Steps _ _ _ (s₁.setTop (mkF m 0 #[.val (.ref t), .val (.int (1 : Int32))] [])) _
    refine XS.iloadN X0.here hx rfl (hb hby d_jdk_52_method_15_code_0) rfl ?_
    show Steps _ _ _ (s₁.setTop (mkF m 1 #[.val (.ref t), .val (.int (1 : Int32))] [(.int (1 : Int32))])) _
    refine XS.aloadN X0.here hx rfl (hb hby d_jdk_52_method_15_code_1) rfl rfl ?_
    show Steps _ _ _ (s₁.setTop (mkF m 2 #[.val (.ref t), .val (.int (1 : Int32))] [(.ref t), (.int (1 : Int32))])) _
    exact hq)
  obtain ⟨cl2, Ar2, -, S2, M2, -, -⟩ := id P0
  have st2 := fun tt => X0.arraylength hx (by rw [e0]; exact Ar2.1) (State.isArrayOf_alike hZ.alike Ar2.2.1) (g := (mkF m 2 #[.val (.ref t), .val (.int (1 : Int32))] [(.ref t), (.int (1 : Int32))])) rfl rfl (hb hby d_jdk_52_method_15_code_2) tt
  rw [len_of S2 M2] at st2
  have k2 : To p.tables e below S0 (s₁.setTop (mkF m 3 #[.val (.ref t), .val (.int (1 : Int32))] [(.int (1 : Int32)), (.int (1 : Int32))])) := fun tt hq => k1 tt (st2 tt hq)
  have k3 : To p.tables e below S0 (s₁.setTop (mkF m 8 #[.val (.ref t), .val (.int (1 : Int32))] [(.int (0 : Int32))])) := fun tt hq => k2 tt (by
    show Steps _ _ _ (s₁.setTop (mkF m 3 #[.val (.ref t), .val (.int (1 : Int32))] [(.int (1 : Int32)), (.int (1 : Int32))])) _
    refine XS.isub X0.here hx rfl (hb hby d_jdk_52_method_15_code_3) rfl ?_
    show Steps _ _ _ (s₁.setTop (mkF m 4 #[.val (.ref t), .val (.int (1 : Int32))] [(.int (0 : Int32))])) _
    refine XS.bipush X0.here hx rfl (hb hby d_jdk_52_method_15_code_4) ?_
    show Steps _ _ _ (s₁.setTop (mkF m 6 #[.val (.ref t), .val (.int (1 : Int32))] [(.int (31 : Int32)), (.int (0 : Int32))])) _
    refine XS.iushr X0.here hx rfl (hb hby d_jdk_52_method_15_code_6) rfl ?_
    show Steps _ _ _ (s₁.setTop (mkF m 7 #[.val (.ref t), .val (.int (1 : Int32))] [(.int (0 : Int32))])) _
    refine XS.i2b X0.here hx rfl (hb hby d_jdk_52_method_15_code_7) rfl ?_
    show Steps _ _ _ (s₁.setTop (mkF m 8 #[.val (.ref t), .val (.int (1 : Int32))] [(.int (0 : Int32))])) _
    exact hq)
  have hE := e0
  refine retInt X0 hx hret hlk (by simp) rfl (hb hby d_jdk_52_method_15_code_8) k3 ?_ (by decide) (by decide)
  try rw [hE]
  exact ⟨rfl, N0, rfl⟩
theorem d_jdk_42_method_149_code_0 : decode jdk_42_method_149_code 0 = .ok (.aload_n 0, 1) := by decide +kernel
theorem d_jdk_42_method_149_code_1 : decode jdk_42_method_149_code 1 = .ok (.invokespecial 1, 3) := by decide +kernel
theorem d_jdk_42_method_149_code_4 : decode jdk_42_method_149_code 4 = .ok (.iload_n 3, 1) := by decide +kernel
theorem d_jdk_42_method_149_code_5 : decode jdk_42_method_149_code 5 = .ok (.ifCond .ne 22, 3) := by decide +kernel
theorem d_jdk_42_method_149_code_8 : decode jdk_42_method_149_code 8 = .ok (.aload_n 0, 1) := by decide +kernel
theorem d_jdk_42_method_149_code_9 : decode jdk_42_method_149_code 9 = .ok (.ldc 7, 2) := by decide +kernel
theorem d_jdk_42_method_149_code_11 : decode jdk_42_method_149_code 11 = .ok (.getfield 9, 3) := by decide +kernel
theorem d_jdk_42_method_149_code_14 : decode jdk_42_method_149_code 14 = .ok (.putfield 9, 3) := by decide +kernel
theorem d_jdk_42_method_149_code_17 : decode jdk_42_method_149_code 17 = .ok (.aload_n 0, 1) := by decide +kernel
theorem d_jdk_42_method_149_code_18 : decode jdk_42_method_149_code 18 = .ok (.ldc 7, 2) := by decide +kernel
theorem d_jdk_42_method_149_code_20 : decode jdk_42_method_149_code 20 = .ok (.getfield 15, 3) := by decide +kernel
theorem d_jdk_42_method_149_code_23 : decode jdk_42_method_149_code 23 = .ok (.putfield 15, 3) := by decide +kernel
theorem d_jdk_42_method_149_code_26 : decode jdk_42_method_149_code 26 = .ok (.return_, 1) := by decide +kernel
theorem d_jdk_42_method_149_code_27 : decode jdk_42_method_149_code 27 = .ok (.getstatic 38, 3) := by decide +kernel
theorem d_jdk_42_method_149_code_30 : decode jdk_42_method_149_code 30 = .ok (.ifCond .eq 28, 3) := by decide +kernel
theorem d_jdk_42_method_149_code_33 : decode jdk_42_method_149_code 33 = .ok (.aload_n 1, 1) := by decide +kernel
theorem d_jdk_42_method_149_code_34 : decode jdk_42_method_149_code 34 = .ok (.iload_n 2, 1) := by decide +kernel
theorem d_jdk_42_method_149_code_35 : decode jdk_42_method_149_code 35 = .ok (.iload_n 3, 1) := by decide +kernel
theorem d_jdk_42_method_149_code_36 : decode jdk_42_method_149_code 36 = .ok (.invokestatic 177, 3) := by decide +kernel
theorem d_jdk_42_method_149_code_39 : decode jdk_42_method_149_code 39 = .ok (.astore 5, 2) := by decide +kernel
theorem d_jdk_42_method_149_code_41 : decode jdk_42_method_149_code 41 = .ok (.aload_n 0, 1) := by decide +kernel
theorem d_jdk_42_method_149_code_42 : decode jdk_42_method_149_code 42 = .ok (.aload 5, 2) := by decide +kernel
theorem d_jdk_42_method_149_code_44 : decode jdk_42_method_149_code 44 = .ok (.iload_n 3, 1) := by decide +kernel
theorem d_jdk_42_method_149_code_45 : decode jdk_42_method_149_code 45 = .ok (.invokestatic 47, 3) := by decide +kernel
theorem d_jdk_42_method_149_code_48 : decode jdk_42_method_149_code 48 = .ok (.putfield 15, 3) := by decide +kernel
theorem d_jdk_42_method_149_code_51 : decode jdk_42_method_149_code 51 = .ok (.aload_n 0, 1) := by decide +kernel
theorem d_jdk_42_method_149_code_52 : decode jdk_42_method_149_code 52 = .ok (.aload 5, 2) := by decide +kernel
theorem d_jdk_42_method_149_code_54 : decode jdk_42_method_149_code 54 = .ok (.putfield 9, 3) := by decide +kernel
theorem d_jdk_42_method_149_code_57 : decode jdk_42_method_149_code 57 = .ok (.return_, 1) := by decide +kernel
theorem d_jdk_42_method_149_code_58 : decode jdk_42_method_149_code 58 = .ok (.aload_n 0, 1) := by decide +kernel
theorem d_jdk_42_method_149_code_59 : decode jdk_42_method_149_code 59 = .ok (.iconst 1, 1) := by decide +kernel
theorem d_jdk_42_method_149_code_60 : decode jdk_42_method_149_code 60 = .ok (.putfield 15, 3) := by decide +kernel
theorem d_jdk_42_method_149_code_63 : decode jdk_42_method_149_code 63 = .ok (.aload_n 0, 1) := by decide +kernel
theorem d_jdk_42_method_149_code_64 : decode jdk_42_method_149_code 64 = .ok (.aload_n 1, 1) := by decide +kernel
theorem d_jdk_42_method_149_code_65 : decode jdk_42_method_149_code 65 = .ok (.iload_n 2, 1) := by decide +kernel
theorem d_jdk_42_method_149_code_66 : decode jdk_42_method_149_code 66 = .ok (.iload_n 3, 1) := by decide +kernel
theorem d_jdk_42_method_149_code_67 : decode jdk_42_method_149_code 67 = .ok (.invokestatic 180, 3) := by decide +kernel
theorem d_jdk_42_method_149_code_70 : decode jdk_42_method_149_code 70 = .ok (.putfield 9, 3) := by decide +kernel
theorem d_jdk_42_method_149_code_73 : decode jdk_42_method_149_code 73 = .ok (.return_, 1) := by decide +kernel
theorem pn_1 : plainName "java/lang/String" = true := by first | (simp [plainName, overriddenIn]; done) | decide +kernel
theorem pd_1 : parseMethodDescriptor "([CII)[B" = some ⟨[(.array .char), .int, .int], some (.array .byte)⟩ := by decide +kernel
theorem pd_2 : parseMethodDescriptor "([BI)B" = some ⟨[(.array .byte), .int], some .byte⟩ := by decide +kernel
set_option maxRecDepth 65536 in
set_option maxHeartbeats 40000000 in
theorem rm_n4_1 (l : Launch) (Z : State) (a0 : Array Value) (hw : ∀ d ∈ tables_1, d.before a0 Z = true) (zc : Int32) (a : Addr) (b : Addr) (kb : ClassId) (u1 : Value) (u2 : Value) (d0 : Int32) (h0 : Heap) (n0 : Nat) (hn0 : n0 ≤ h0.size) (S_c : Sta Z Z.heap "java/lang/String" "COMPACT_STRINGS" "Z" (.int zc)) (hzc : ¬ zc = (0 : Int32)) (O0 : Old Z n0 h0) (E0 : Exa Z h0 a "java/lang/String") (F1 : Fld Z h0 a "java/lang/String" "value" "[B" u1) (F2 : Fld Z h0 a "java/lang/String" "coder" "B" u2) (P0 : Arv Z h0 b kb .char (1 : Int32) [(.int d0)] (.int (0 : Int32))) (ga : n0 ≤ a) (ya : @LT.lt Nat instLTNat a h0.size) (yb : @LT.lt Nat instLTNat b h0.size) (nab : ¬ (@Eq Nat b a)) (hd0 : ¬ d0 < (0 : Int32) ∧ ¬ (255 : Int32) < d0) :
    Con l Z (⟨"java/lang/String", "<init>", "([CIILjava/lang/Void;)V"⟩ : MethodName) jdk_42_method_149_code 6 none [] ({ frames := 2, cells := 1, slots := 1, locals := 35 } : Room) #[(.ref a), (.ref b), (.int (0 : Int32)), (.int (1 : Int32)), .null] h0 (fun v h L => v = none ∧ Fr n0 L ∧ Keep h0 h [a] ∧ ∃ (t : Addr) (k : ClassId), h0.size ≤ t ∧ Exa Z h a "java/lang/String" ∧ Fld Z h a "java/lang/String" "value" "[B" (.ref t) ∧ Fld Z h a "java/lang/String" "coder" "B" (.int (0 : Int32)) ∧ Arv Z h t k .byte (1 : Int32) [(.int (nar .byte (d0.toInt8.toInt32)))] (.int (0 : Int32))) := by
  refine enter (Ls := #[.val (.ref a), .val (.ref b), .val (.int (0 : Int32)), .val (.int (1 : Int32)), .val .null, .unset]) (plainFor_of_name pn_1) (fun m => by exact entry_eq rfl) ?_
  intro p e s m below meth cd_ s₁ S0 hx hby hml hret hlk hnm hown hZ X0 e0 k0
  have N0 := Fr.nil n0
  have k1 : To p.tables e below S0 (s₁.setTop (mkF m 1 #[.val (.ref a), .val (.ref b), .val (.int (0 : Int32)), .val (.int (1 : Int32)), .val .null, .unset] [(.ref a)])) := fun tt hq => k0 tt (by
    show Steps _ _ _ (s₁.setTop (mkF m 0 #[.val (.ref a), .val (.ref b), .val (.int (0 : Int32)), .val (.int (1 : Int32)), .val .null, .unset] [])) _
    refine XS.aloadN X0.here hx rfl (hb hby d_jdk_42_method_149_code_0) rfl rfl ?_
    show Steps _ _ _ (s₁.setTop (mkF m 1 #[.val (.ref a), .val (.ref b), .val (.int (0 : Int32)), .val (.int (1 : Int32)), .val .null, .unset] [(.ref a)])) _
    exact hq)
  obtain ⟨T2, X2, e2, st2⟩ := initO X0 hx hZ hown (hw _ (List.mem_of_getElem? (i := 15) rfl)) (hw _ (List.mem_of_getElem? (i := 16) rfl)) (hw _ (List.mem_of_getElem? (i := 17) rfl)) e0 (g := (mkF m 1 #[.val (.ref a), .val (.ref b), .val (.int (0 : Int32)), .val (.int (1 : Int32)), .val .null, .unset] [(.ref a)])) rfl (by rw [hml]; rfl) rfl (hb hby d_jdk_42_method_149_code_1) (by decide) (W := 0) (by show 2 * 0 + _ ≤ _; exact Nat.le_of_eq rfl) (by decide)
  have k2 : To p.tables e below S0 (T2.setTop (mkF m 4 #[.val (.ref a), .val (.ref b), .val (.int (0 : Int32)), .val (.int (1 : Int32)), .val .null, .unset] [])) := fun tt hq => k1 tt (st2 tt hq)
  have k3 : To p.tables e below S0 (T2.setTop (mkF m 27 #[.val (.ref a), .val (.ref b), .val (.int (0 : Int32)), .val (.int (1 : Int32)), .val .null, .unset] [])) := fun tt hq => k2 tt (by
    show Steps _ _ _ (T2.setTop (mkF m 4 #[.val (.ref a), .val (.ref b), .val (.int (0 : Int32)), .val (.int (1 : Int32)), .val .null, .unset] [])) _
    refine XS.iloadN X2.here hx rfl (hb hby d_jdk_42_method_149_code_4) rfl ?_
    show Steps _ _ _ (T2.setTop (mkF m 5 #[.val (.ref a), .val (.ref b), .val (.int (0 : Int32)), .val (.int (1 : Int32)), .val .null, .unset] [(.int (1 : Int32))])) _
    refine XS.ifYes X2.here hx rfl (pc0 := 5) (pc' := 27) rfl (hb hby d_jdk_42_method_149_code_5) rfl ((if0 _ _).trans (feq (by decide)).2) (by decide) (by decide) ?_
    show Steps _ _ _ (T2.setTop (mkF m 27 #[.val (.ref a), .val (.ref b), .val (.int (0 : Int32)), .val (.int (1 : Int32)), .val .null, .unset] [])) _
    exact hq)
  obtain ⟨T4, X4, e4, st4⟩ := getS2 X2 hx hZ hown (host := "") (Or.inl (hw _ (List.mem_of_getElem? (i := 90) rfl))) Via.refl e2 (staOld S_c O0) (g := (mkF m 27 #[.val (.ref a), .val (.ref b), .val (.int (0 : Int32)), .val (.int (1 : Int32)), .val .null, .unset] [])) rfl (hb hby d_jdk_42_method_149_code_27)
  have k4 : To p.tables e below S0 (T4.setTop (mkF m 30 #[.val (.ref a), .val (.ref b), .val (.int (0 : Int32)), .val (.int (1 : Int32)), .val .null, .unset] [(.int zc)])) := fun tt hq => k3 tt (st4 tt hq)
  have k5 : To p.tables e below S0 (T4.setTop (mkF m 36 #[.val (.ref a), .val (.ref b), .val (.int (0 : Int32)), .val (.int (1 : Int32)), .val .null, .unset] [(.int (1 : Int32)), (.int (0 : Int32)), (.ref b)])) := fun tt hq => k4 tt (by
    show Steps _ _ _ (T4.setTop (mkF m 30 #[.val (.ref a), .val (.ref b), .val (.int (0 : Int32)), .val (.int (1 : Int32)), .val .null, .unset] [(.int zc)])) _
    refine XS.ifNo X4.here hx rfl (hb hby d_jdk_42_method_149_code_30) rfl ((if0 _ _).trans (feq hzc).1) ?_
    show Steps _ _ _ (T4.setTop (mkF m 33 #[.val (.ref a), .val (.ref b), .val (.int (0 : Int32)), .val (.int (1 : Int32)), .val .null, .unset] [])) _
    refine XS.aloadN X4.here hx rfl (hb hby d_jdk_42_method_149_code_33) rfl rfl ?_
    show Steps _ _ _ (T4.setTop (mkF m 34 #[.val (.ref a), .val (.ref b), .val (.int (0 : Int32)), .val (.int (1 : Int32)), .val .null, .unset] [(.ref b)])) _
    refine XS.iloadN X4.here hx rfl (hb hby d_jdk_42_method_149_code_34) rfl ?_
    show Steps _ _ _ (T4.setTop (mkF m 35 #[.val (.ref a), .val (.ref b), .val (.int (0 : Int32)), .val (.int (1 : Int32)), .val .null, .unset] [(.int (0 : Int32)), (.ref b)])) _
    refine XS.iloadN X4.here hx rfl (hb hby d_jdk_42_method_149_code_35) rfl ?_
    show Steps _ _ _ (T4.setTop (mkF m 36 #[.val (.ref a), .val (.ref b), .val (.int (0 : Int32)), .val (.int (1 : Int32)), .val .null, .unset] [(.int (1 : Int32)), (.int (0 : Int32)), (.ref b)])) _
    exact hq)
  obtain ⟨_, T6, L6, X6, ⟨t6, kt6, rfl, Nq6, gt6, Kq6, V6⟩, k6a⟩ := callS' X4 hx hZ (y := (⟨"java/lang/StringUTF16", "compress", "([CII)[B"⟩ : MethodName)) hown (hw _ (List.mem_of_getElem? (i := 91) rfl)) (hw _ (List.mem_of_getElem? (i := 92) rfl)) (hw _ (List.mem_of_getElem? (i := 93) rfl)) (hw _ (List.mem_of_getElem? (i := 94) rfl)) (by decide) (backC (W := 0) (rm_c3_1 l Z a0 hw b kb d0 h0 n0 (by omega) P0 (by omega) hd0) hZ (hw _ (List.mem_of_getElem? (i := 94) rfl)) (hw _ (List.mem_of_getElem? (i := 93) rfl)) (by decide) (by decide)) e4 (argsL := [(.ref b), (.int (0 : Int32)), (.int (1 : Int32))]) (rest := []) rfl rfl pd_1 rfl (by rw [hml]; rfl) (hb hby d_jdk_42_method_149_code_36) (Nat.le_of_eq rfl) (by decide) (by decide) k5
  have k6 : To p.tables e below S0 (T6.setTop (mkF m 39 #[.val (.ref a), .val (.ref b), .val (.int (0 : Int32)), .val (.int (1 : Int32)), .val .null, .unset] [(.ref t6)])) := k6a
  have N6 := N0.app Nq6
  obtain ⟨h6, e6⟩ : ∃ z, T6.heap = z := ⟨_, rfl⟩
  rw [e6] at Kq6 V6
  have z6 : h0.size ≤ h6.size := Kq6.1
  have y6 : @LT.lt Nat instLTNat t6 h6.size := V6.lt
  have k7 : To p.tables e below S0 (T6.setTop (mkF m 45 #[.val (.ref a), .val (.ref b), .val (.int (0 : Int32)), .val (.int (1 : Int32)), .val .null, .val (.ref t6)] [(.int (1 : Int32)), (.ref t6), (.ref a)])) := fun tt hq => k6 tt (by
    show Steps _ _ _ (T6.setTop (mkF m 39 #[.val (.ref a), .val (.ref b), .val (.int (0 : Int32)), .val (.int (1 : Int32)), .val .null, .unset] [(.ref t6)])) _
    refine XS.astore X6.here hx rfl (hb hby d_jdk_42_method_149_code_39) rfl rfl (l' := #[.val (.ref a), .val (.ref b), .val (.int (0 : Int32)), .val (.int (1 : Int32)), .val .null, .val (.ref t6)]) rfl ?_
    show Steps _ _ _ (T6.setTop (mkF m 41 #[.val (.ref a), .val (.ref b), .val (.int (0 : Int32)), .val (.int (1 : Int32)), .val .null, .val (.ref t6)] [])) _
    refine XS.aloadN X6.here hx rfl (hb hby d_jdk_42_method_149_code_41) rfl rfl ?_
    show Steps _ _ _ (T6.setTop (mkF m 42 #[.val (.ref a), .val (.ref b), .val (.int (0 : Int32)), .val (.int (1 : Int32)), .val .null, .val (.ref t6)] [(.ref a)])) _
    refine XS.aload X6.here hx rfl (hb hby d_jdk_42_method_149_code_42) rfl rfl ?_
    show Steps _ _ _ (T6.setTop (mkF m 44 #[.val (.ref a), .val (.ref b), .val (.int (0 : Int32)), .val (.int (1 : Int32)), .val .null, .val (.ref t6)] [(.ref t6), (.ref a)])) _
    refine XS.iloadN X6.here hx rfl (hb hby d_jdk_42_method_149_code_44) rfl ?_
    show Steps _ _ _ (T6.setTop (mkF m 45 #[.val (.ref a), .val (.ref b), .val (.int (0 : Int32)), .val (.int (1 : Int32)), .val .null, .val (.ref t6)] [(.int (1 : Int32)), (.ref t6), (.ref a)])) _
    exact hq)
  obtain ⟨_, T8, L8, X8, ⟨rfl, Nq8, eq8⟩, k8a⟩ := callS' X6 hx hZ (y := (⟨"java/lang/StringUTF16", "coderFromArrayLen", "([BI)B"⟩ : MethodName)) hown (hw _ (List.mem_of_getElem? (i := 98) rfl)) (hw _ (List.mem_of_getElem? (i := 99) rfl)) (hw _ (List.mem_of_getElem? (i := 93) rfl)) (hw _ (List.mem_of_getElem? (i := 100) rfl)) (by decide) (backC (W := 1) (rm_cl_1 l Z a0 hw t6 kt6 (nar .byte (d0.toInt8.toInt32)) h6 n0 (by omega) V6) hZ (hw _ (List.mem_of_getElem? (i := 100) rfl)) (hw _ (List.mem_of_getElem? (i := 93) rfl)) (by decide) (by decide)) e6 (argsL := [(.ref t6), (.int (1 : Int32))]) (rest := [(.ref a)]) rfl rfl pd_2 rfl (by rw [hml]; rfl) (hb hby d_jdk_42_method_149_code_45) (Nat.le_of_eq rfl) (by decide) (by decide) k7
  have k8 : To p.tables e below S0 (T8.setTop (mkF m 48 #[.val (.ref a), .val (.ref b), .val (.int (0 : Int32)), .val (.int (1 : Int32)), .val .null, .val (.ref t6)] [(.int (0 : Int32)), (.ref a)])) := k8a
  have N8 := N6.app Nq8
  have e8 : T8.heap = h6 := eq8
  have f9 : Exa Z h6 a "java/lang/String" := (E0.keep Kq6)
  have f10 : Fld Z h6 a "java/lang/String" "coder" "B" u2 := (F2.keep Kq6 nin0)
  obtain ⟨T11, h11, X11, e11, W11, st11⟩ := putF X8 hx hZ hown (host := "") (Or.inl (hw _ (List.mem_of_getElem? (i := 25) rfl))) Via.refl e8 f10 f9 (Or.inr ⟨(hw _ (List.mem_of_getElem? (i := 21) rfl)), rfl, hnm⟩) (hw _ (List.mem_of_getElem? (i := 6) rfl)) (ty := .byte) (by decide) rfl rfl (g := (mkF m 48 #[.val (.ref a), .val (.ref b), .val (.int (0 : Int32)), .val (.int (1 : Int32)), .val .null, .val (.ref t6)] [(.int (0 : Int32)), (.ref a)])) rfl rfl (hb hby d_jdk_42_method_149_code_48)
  have k11 : To p.tables e below S0 (T11.setTop (mkF m 51 #[.val (.ref a), .val (.ref b), .val (.int (0 : Int32)), .val (.int (1 : Int32)), .val .null, .val (.ref t6)] [])) := fun tt hq => k8 tt (st11 tt hq)
  have z11 : h11.size = h6.size := W11.size
  have F11 := f10.same W11
  have N11 := Fr.snoc X11 N8 (by omega : n0 ≤ a)
  have f12 : Exa Z h11 a "java/lang/String" := (f9.wr W11)
  have f13 : Fld Z h11 a "java/lang/String" "value" "[B" u1 := ((F1.keep Kq6 nin0).other W11 (Or.inr (slot_ne (Or.inr (hw _ (List.mem_of_getElem? (i := 20) rfl))) (Or.inr (hw _ (List.mem_of_getElem? (i := 21) rfl))) (by decide) (t := (.array .byte)) (t' := .byte) (by decide) (by decide))))
  have k14 : To p.tables e below S0 (T11.setTop (mkF m 54 #[.val (.ref a), .val (.ref b), .val (.int (0 : Int32)), .val (.int (1 : Int32)), .val .null, .val (.ref t6)] [(.ref t6), (.ref a)])) := fun tt hq => k11 tt (by
    show Steps _ _ _ (T11.setTop (mkF m 51 #[.val (.ref a), .val (.ref b), .val (.int (0 : Int32)), .val (.int (1 : Int32)), .val .null, .val (.ref t6)] [])) _
    refine XS.aloadN X11.here hx rfl (hb hby d_jdk_42_method_149_code_51) rfl rfl ?_
    show Steps _ _ _ (T11.setTop (mkF m 52 #[.val (.ref a), .val (.ref b), .val (.int (0 : Int32)), .val (.int (1 : Int32)), .val .null, .val (.ref t6)] [(.ref a)])) _
    refine XS.aload X11.here hx rfl (hb hby d_jdk_42_method_149_code_52) rfl rfl ?_
    show Steps _ _ _ (T11.setTop (mkF m 54 #[.val (.ref a), .val (.ref b), .val (.int (0 : Int32)), .val (.int (1 : Int32)), .val .null, .val (.ref t6)] [(.ref t6), (.ref a)])) _
    exact hq)
  obtain ⟨T15, h15, X15, e15, W15, st15⟩ := putF X11 hx hZ hown (host := "") (Or.inl (hw _ (List.mem_of_getElem? (i := 24) rfl))) Via.refl e11 f13 f12 (Or.inr ⟨(hw _ (List.mem_of_getElem? (i := 20) rfl)), rfl, hnm⟩) (hw _ (List.mem_of_getElem? (i := 6) rfl)) (ty := (.array .byte)) (by decide) rfl rfl (g := (mkF m 54 #[.val (.ref a), .val (.ref b), .val (.int (0 : Int32)), .val (.int (1 : Int32)), .val .null, .val (.ref t6)] [(.ref t6), (.ref a)])) rfl rfl (hb hby d_jdk_42_method_149_code_54)
  have k15 : To p.tables e below S0 (T15.setTop (mkF m 57 #[.val (.ref a), .val (.ref b), .val (.int (0 : Int32)), .val (.int (1 : Int32)), .val .null, .val (.ref t6)] [])) := fun tt hq => k14 tt (st15 tt hq)
  have z15 : h15.size = h11.size := W15.size
  have F15 := f13.same W15
  have N15 := Fr.snoc X15 N11 (by omega : n0 ≤ a)
  have f16 : Exa Z h15 a "java/lang/String" := (f12.wr W15)
  have f17 : Fld Z h15 a "java/lang/String" "coder" "B" (.int (0 : Int32)) := (F11.other W15 (Or.inr (slot_ne (Or.inr (hw _ (List.mem_of_getElem? (i := 21) rfl))) (Or.inr (hw _ (List.mem_of_getElem? (i := 20) rfl))) (by decide) (t := .byte) (t' := (.array .byte)) (by decide) (by decide))))
  have f18 : Arv Z h15 t6 kt6 .byte (1 : Int32) [(.int (nar .byte (d0.toInt8.toInt32)))] (.int (0 : Int32)) := ((V6.other W11 (adr_ne (by omega))).other W15 (adr_ne (by omega)))
  have hE := e15
  refine retVoid X15 hx hret hlk (hb hby d_jdk_42_method_149_code_57) k15 ?_ (by decide) (by decide)
  try rw [hE]
  exact ⟨rfl, N15, ((((Keep.refl h0 [a]).trans Kq6 all0).wr W11 (Or.inl (by simp))).wr W15 (Or.inl (by simp))), t6, kt6, (by omega), f16, F15, f17, f18⟩
theorem d_jdk_42_method_3_code_0 : decode jdk_42_method_3_code 0 = .ok (.aload_n 0, 1) := by decide +kernel
theorem d_jdk_42_method_3_code_1 : decode jdk_42_method_3_code 1 = .ok (.aload_n 1, 1) := by decide +kernel
theorem d_jdk_42_method_3_code_2 : decode jdk_42_method_3_code 2 = .ok (.iconst 0, 1) := by decide +kernel
theorem d_jdk_42_method_3_code_3 : decode jdk_42_method_3_code 3 = .ok (.aload_n 1, 1) := by decide +kernel
theorem d_jdk_42_method_3_code_4 : decode jdk_42_method_3_code 4 = .ok (.arraylength, 1) := by decide +kernel
theorem d_jdk_42_method_3_code_5 : decode jdk_42_method_3_code 5 = .ok (.aconst_null, 1) := by decide +kernel
theorem d_jdk_42_method_3_code_6 : decode jdk_42_method_3_code 6 = .ok (.invokespecial 27, 3) := by decide +kernel
theorem d_jdk_42_method_3_code_9 : decode jdk_42_method_3_code 9 = .ok (.return_, 1) := by decide +kernel
theorem pd_3 : parseMethodDescriptor "([CIILjava/lang/Void;)V" = some ⟨[(.array .char), .int, .int, (.object "java/lang/Void")], none⟩ := by decide +kernel
set_option maxRecDepth 65536 in
set_option maxHeartbeats 40000000 in
theorem rm_n1_1 (l : Launch) (Z : State) (a0 : Array Value) (hw : ∀ d ∈ tables_1, d.before a0 Z = true) (zc : Int32) (a : Addr) (b : Addr) (kb : ClassId) (u1 : Value) (u2 : Value) (d0 : Int32) (h0 : Heap) (n0 : Nat) (hn0 : n0 ≤ h0.size) (S_c : Sta Z Z.heap "java/lang/String" "COMPACT_STRINGS" "Z" (.int zc)) (hzc : ¬ zc = (0 : Int32)) (O0 : Old Z n0 h0) (E0 : Exa Z h0 a "java/lang/String") (F1 : Fld Z h0 a "java/lang/String" "value" "[B" u1) (F2 : Fld Z h0 a "java/lang/String" "coder" "B" u2) (P0 : Arv Z h0 b kb .char (1 : Int32) [(.int d0)] (.int (0 : Int32))) (ga : n0 ≤ a) (ya : @LT.lt Nat instLTNat a h0.size) (yb : @LT.lt Nat instLTNat b h0.size) (nab : ¬ (@Eq Nat b a)) (hd0 : ¬ d0 < (0 : Int32) ∧ ¬ (255 : Int32) < d0) :
    Con l Z (⟨"java/lang/String", "<init>", "([C)V"⟩ : MethodName) jdk_42_method_3_code 2 none [] ({ frames := 3, cells := 1, slots := 1, locals := 52 } : Room) #[(.ref a), (.ref b)] h0 (fun v h L => v = none ∧ Fr n0 L ∧ Keep h0 h [a] ∧ ∃ (t : Addr) (k : ClassId), h0.size ≤ t ∧ Exa Z h a "java/lang/String" ∧ Fld Z h a "java/lang/String" "value" "[B" (.ref t) ∧ Fld Z h a "java/lang/String" "coder" "B" (.int (0 : Int32)) ∧ Arv Z h t k .byte (1 : Int32) [(.int (nar .byte (d0.toInt8.toInt32)))] (.int (0 : Int32))) := by
  refine enter (Ls := #[.val (.ref a), .val (.ref b)]) (plainFor_of_name pn_1) (fun m => by exact entry_eq rfl) ?_
  intro p e s m below meth cd_ s₁ S0 hx hby hml hret hlk hnm hown hZ X0 e0 k0
  have N0 := Fr.nil n0
  have k1 : To p.tables e below S0 (s₁.setTop (mkF m 4 #[.val (.ref a), .val (.ref b)] [(.ref b), (.int (0 : Int32)), (.ref b), (.ref a)])) := fun tt hq => k0 tt (by
    show Steps _ _ _ (s₁.setTop (mkF m 0 #[.val (.ref a), .val (.ref b)] [])) _
    refine XS.aloadN X0.here hx rfl (hb hby d_jdk_42_method_3_code_0) rfl rfl ?_
    show Steps _ _ _ (s₁.setTop (mkF m 1 #[.val (.ref a), .val (.ref b)] [(.ref a)])) _
    refine XS.aloadN X0.here hx rfl (hb hby d_jdk_42_method_3_code_1) rfl rfl ?_
    show Steps _ _ _ (s₁.setTop (mkF m 2 #[.val (.ref a), .val (.ref b)] [(.ref b), (.ref a)])) _
    refine XS.iconst X0.here hx rfl (hb hby d_jdk_42_method_3_code_2) ?_
    show Steps _ _ _ (s₁.setTop (mkF m 3 #[.val (.ref a), .val (.ref b)] [(.int (0 : Int32)), (.ref b), (.ref a)])) _
    refine XS.aloadN X0.here hx rfl (hb hby d_jdk_42_method_3_code_3) rfl rfl ?_
    show Steps _ _ _ (s₁.setTop (mkF m 4 #[.val (.ref a), .val (.ref b)] [(.ref b), (.int (0 : Int32)), (.ref b), (.ref a)])) _
    exact hq)
  obtain ⟨cl2, Ar2, -, S2, M2, -, -⟩ := id P0
  have st2 := fun tt => X0.arraylength hx (by rw [e0]; exact Ar2.1) (State.isArrayOf_alike hZ.alike Ar2.2.1) (g := (mkF m 4 #[.val (.ref a), .val (.ref b)] [(.ref b), (.int (0 : Int32)), (.ref b), (.ref a)])) rfl rfl (hb hby d_jdk_42_method_3_code_4) tt
  rw [len_of S2 M2] at st2
  have k2 : To p.tables e below S0 (s₁.setTop (mkF m 5 #[.val (.ref a), .val (.ref b)] [(.int (1 : Int32)), (.int (0 : Int32)), (.ref b), (.ref a)])) := fun tt hq => k1 tt (st2 tt hq)
  have k3 : To p.tables e below S0 (s₁.setTop (mkF m 6 #[.val (.ref a), .val (.ref b)] [.null, (.int (1 : Int32)), (.int (0 : Int32)), (.ref b), (.ref a)])) := fun tt hq => k2 tt (by
    show Steps _ _ _ (s₁.setTop (mkF m 5 #[.val (.ref a), .val (.ref b)] [(.int (1 : Int32)), (.int (0 : Int32)), (.ref b), (.ref a)])) _
    refine XS.aconstNull X0.here hx rfl (hb hby d_jdk_42_method_3_code_5) ?_
    show Steps _ _ _ (s₁.setTop (mkF m 6 #[.val (.ref a), .val (.ref b)] [.null, (.int (1 : Int32)), (.int (0 : Int32)), (.ref b), (.ref a)])) _
    exact hq)
  obtain ⟨_, T4, L4, X4, ⟨rfl, Nq4, Kq4, t4, kt4, gt4, P40, P41, P42, P43⟩, k4a⟩ := callC' X0 hx hZ (y := (⟨"java/lang/String", "<init>", "([CIILjava/lang/Void;)V"⟩ : MethodName)) rfl hown (hw _ (List.mem_of_getElem? (i := 11) rfl)) (hw _ (List.mem_of_getElem? (i := 12) rfl)) (hw _ (List.mem_of_getElem? (i := 14) rfl)) (by decide) (backC (W := 0) (rm_n4_1 l Z a0 hw zc a b kb u1 u2 d0 h0 n0 (by omega) S_c hzc O0 E0 F1 F2 P0 (by omega) (by omega) (by omega) (by omega) hd0) hZ (hw _ (List.mem_of_getElem? (i := 14) rfl)) (hw _ (List.mem_of_getElem? (i := 7) rfl)) (by decide) (by decide)) e0 (argsL := [(.ref b), (.int (0 : Int32)), (.int (1 : Int32)), .null]) (rest := []) rfl rfl pd_3 rfl (by rw [hml]; rfl) (hb hby d_jdk_42_method_3_code_6) (Nat.le_of_eq rfl) (by decide) (by decide) k3
  have k4 : To p.tables e below S0 (T4.setTop (mkF m 9 #[.val (.ref a), .val (.ref b)] [])) := k4a
  have N4 := N0.app Nq4
  obtain ⟨h4, e4⟩ : ∃ z, T4.heap = z := ⟨_, rfl⟩
  rw [e4] at Kq4 P40 P41 P42 P43
  have z4 : h0.size ≤ h4.size := Kq4.1
  have y4 : @LT.lt Nat instLTNat t4 h4.size := P43.lt
  have hE := e4
  refine retVoid X4 hx hret hlk (hb hby d_jdk_42_method_3_code_9) k4 ?_ (by decide) (by decide)
  try rw [hE]
  exact ⟨rfl, N4, ((Keep.refl h0 [a]).trans Kq4 (allS (Or.inl (by simp)) all0)), t4, kt4, (by omega), P40, P41, P42, P43⟩
set_option maxRecDepth 65536 in
set_option maxHeartbeats 40000000 in
theorem rm_c5_2 (l : Launch) (Z : State) (a0 : Array Value) (hw : ∀ d ∈ tables_1, d.before a0 Z = true) (b : Addr) (kb : ClassId) (t : Addr) (kt : ClassId) (d0 : Int32) (d1 : Int32) (h0 : Heap) (n0 : Nat) (hn0 : n0 ≤ h0.size) (P0 : Arv Z h0 b kb .char (2 : Int32) [(.int d0), (.int d1)] (.int (0 : Int32))) (P1 : Arv Z h0 t kt .byte (2 : Int32) [(.int (0 : Int32)), (.int (0 : Int32))] (.int (0 : Int32))) (ga : n0 ≤ t) (nbt : ¬ (@Eq Nat b t)) (hd0 : ¬ d0 < (0 : Int32) ∧ ¬ (255 : Int32) < d0) (hd1 : ¬ d1 < (0 : Int32) ∧ ¬ (255 : Int32) < d1) :
    Con l Z (⟨"java/lang/StringUTF16", "compress", "([CI[BII)I"⟩ : MethodName) jdk_52_method_21_code 7 (some .int) [] ({ frames := 0, cells := 0, slots := 0, locals := 0 } : Room) #[(.ref b), (.int (0 : Int32)), (.ref t), (.int (0 : Int32)), (.int (2 : Int32))] h0 (fun v h L => v = some (.int (2 : Int32)) ∧ Fr n0 L ∧ Keep h0 h [t] ∧ Arv Z h t kt .byte (2 : Int32) [(.int (nar .byte (d0.toInt8.toInt32))), (.int (nar .byte (d1.toInt8.toInt32)))] (.int (0 : Int32))) := by
  refine enter (Ls := #[.val (.ref b), .val (.int (0 : Int32)), .val (.ref t), .val (.int (0 : Int32)), .val (.int (2 : Int32)), .unset, .unset]) (plainFor_of_name pn_0) (fun m => by exact entry_eq rfl) ?_
  intro p e s m below meth cd_ s₁ S0 hx hby hml hret hlk hnm hown hZ X0 e0 k0
  have N0 := Fr.nil n0
  have k1 : To p.tables e below S0 (s₁.setTop (mkF m 12 #[.val (.ref b), .val (.int (0 : Int32)), .val (.ref t), .val (.int (0 : Int32)), .val (.int (2 : Int32)), .val (.int (0 : Int32)), .unset] [(.int (0 : Int32)), (.ref b)])) := fun tt hq => k0 tt (by
    show Steps _ _ _ (s₁.setTop (mkF m 0 #[.val (.ref b), .val (.int (0 : Int32)), .val (.ref t), .val (.int (0 : Int32)), .val (.int (2 : Int32)), .unset, .unset] [])) _
    refine XS.iconst X0.here hx rfl (hb hby d_jdk_52_method_21_code_0) ?_
    show Steps _ _ _ (s₁.setTop (mkF m 1 #[.val (.ref b), .val (.int (0 : Int32)), .val (.ref t), .val (.int (0 : Int32)), .val (.int (2 : Int32)), .unset, .unset] [(.int (0 : Int32))])) _
    refine XS.istore X0.here hx rfl (hb hby d_jdk_52_method_21_code_1) rfl (l' := #[.val (.ref b), .val (.int (0 : Int32)), .val (.ref t), .val (.int (0 : Int32)), .val (.int (2 : Int32)), .val (.int (0 : Int32)), .unset]) rfl ?_
    show Steps _ _ _ (s₁.setTop (mkF m 3 #[.val (.ref b), .val (.int (0 : Int32)), .val (.ref t), .val (.int (0 : Int32)), .val (.int (2 : Int32)), .val (.int (0 : Int32)), .unset] [])) _
    refine XS.iload X0.here hx rfl (hb hby d_jdk_52_method_21_code_3) rfl ?_
    show Steps _ _ _ (s₁.setTop (mkF m 5 #[.val (.ref b), .val (.int (0 : Int32)), .val (.ref t), .val (.int (0 : Int32)), .val (.int (2 : Int32)), .val (.int (0 : Int32)), .unset] [(.int (0 : Int32))])) _
    refine XS.iload X0.here hx rfl (hb hby d_jdk_52_method_21_code_5) rfl ?_
    show Steps _ _ _ (s₁.setTop (mkF m 7 #[.val (.ref b), .val (.int (0 : Int32)), .val (.ref t), .val (.int (0 : Int32)), .val (.int (2 : Int32)), .val (.int (0 : Int32)), .unset] [(.int (2 : Int32)), (.int (0 : Int32))])) _
    refine XS.icmpNo X0.here hx rfl (hb hby d_jdk_52_method_21_code_7) rfl (tlt (by decide)).2.1 ?_
    show Steps _ _ _ (s₁.setTop (mkF m 10 #[.val (.ref b), .val (.int (0 : Int32)), .val (.ref t), .val (.int (0 : Int32)), .val (.int (2 : Int32)), .val (.int (0 : Int32)), .unset] [])) _
    refine XS.aloadN X0.here hx rfl (hb hby d_jdk_52_method_21_code_10) rfl rfl ?_
    show Steps _ _ _ (s₁.setTop (mkF m 11 #[.val (.ref b), .val (.int (0 : Int32)), .val (.ref t), .val (.int (0 : Int32)), .val (.int (2 : Int32)), .val (.int (0 : Int32)), .unset] [(.ref b)])) _
    refine XS.iloadN X0.here hx rfl (hb hby d_jdk_52_method_21_code_11) rfl ?_
    show Steps _ _ _ (s₁.setTop (mkF m 12 #[.val (.ref b), .val (.int (0 : Int32)), .val (.ref t), .val (.int (0 : Int32)), .val (.int (2 : Int32)), .val (.int (0 : Int32)), .unset] [(.int (0 : Int32)), (.ref b)])) _
    exact hq)
  obtain ⟨cl2, Ar2, -, S2, -, G2, -⟩ := id P0
  have hi2 := inb_of (j := (0 : Int32)) S2 ⟨by decide, by decide⟩
  have st2 := fun tt => X0.caload hx (j := (0 : Int32)) (v := (.int d0)) (by rw [e0]; exact Ar2.1) (State.isArrayOf_alike hZ.alike Ar2.2.1) Ar2.2.2 hi2 (G2.at hi2 rfl) (g := (mkF m 12 #[.val (.ref b), .val (.int (0 : Int32)), .val (.ref t), .val (.int (0 : Int32)), .val (.int (2 : Int32)), .val (.int (0 : Int32)), .unset] [(.int (0 : Int32)), (.ref b)])) rfl rfl (hb hby d_jdk_52_method_21_code_12) tt
  have k2 : To p.tables e below S0 (s₁.setTop (mkF m 13 #[.val (.ref b), .val (.int (0 : Int32)), .val (.ref t), .val (.int (0 : Int32)), .val (.int (2 : Int32)), .val (.int (0 : Int32)), .unset] [(.int d0)])) := fun tt hq => k1 tt (st2 tt hq)
  have k3 : To p.tables e below S0 (s₁.setTop (mkF m 31 #[.val (.ref b), .val (.int (0 : Int32)), .val (.ref t), .val (.int (0 : Int32)), .val (.int (2 : Int32)), .val (.int (0 : Int32)), .val (.int d0)] [(.int (d0.toInt8.toInt32)), (.int (0 : Int32)), (.ref t)])) := fun tt hq => k2 tt (by
    show Steps _ _ _ (s₁.setTop (mkF m 13 #[.val (.ref b), .val (.int (0 : Int32)), .val (.ref t), .val (.int (0 : Int32)), .val (.int (2 : Int32)), .val (.int (0 : Int32)), .unset] [(.int d0)])) _
    refine XS.istore X0.here hx rfl (hb hby d_jdk_52_method_21_code_13) rfl (l' := #[.val (.ref b), .val (.int (0 : Int32)), .val (.ref t), .val (.int (0 : Int32)), .val (.int (2 : Int32)), .val (.int (0 : Int32)), .val (.int d0)]) rfl ?_
    show Steps _ _ _ (s₁.setTop (mkF m 15 #[.val (.ref b), .val (.int (0 : Int32)), .val (.ref t), .val (.int (0 : Int32)), .val (.int (2 : Int32)), .val (.int (0 : Int32)), .val (.int d0)] [])) _
    refine XS.iload X0.here hx rfl (hb hby d_jdk_52_method_21_code_15) rfl ?_
    show Steps _ _ _ (s₁.setTop (mkF m 17 #[.val (.ref b), .val (.int (0 : Int32)), .val (.ref t), .val (.int (0 : Int32)), .val (.int (2 : Int32)), .val (.int (0 : Int32)), .val (.int d0)] [(.int d0)])) _
    refine XS.sipush X0.here hx rfl (hb hby d_jdk_52_method_21_code_17) ?_
    show Steps _ _ _ (s₁.setTop (mkF m 20 #[.val (.ref b), .val (.int (0 : Int32)), .val (.ref t), .val (.int (0 : Int32)), .val (.int (2 : Int32)), .val (.int (0 : Int32)), .val (.int d0)] [(.int (255 : Int32)), (.int d0)])) _
    refine XS.icmpYes X0.here hx rfl (pc0 := 20) (pc' := 26) rfl (hb hby d_jdk_52_method_21_code_20) rfl (flt hd0.2).2.2.2 (by decide) (by decide) ?_
    show Steps _ _ _ (s₁.setTop (mkF m 26 #[.val (.ref b), .val (.int (0 : Int32)), .val (.ref t), .val (.int (0 : Int32)), .val (.int (2 : Int32)), .val (.int (0 : Int32)), .val (.int d0)] [])) _
    refine XS.aloadN X0.here hx rfl (hb hby d_jdk_52_method_21_code_26) rfl rfl ?_
    show Steps _ _ _ (s₁.setTop (mkF m 27 #[.val (.ref b), .val (.int (0 : Int32)), .val (.ref t), .val (.int (0 : Int32)), .val (.int (2 : Int32)), .val (.int (0 : Int32)), .val (.int d0)] [(.ref t)])) _
    refine XS.iloadN X0.here hx rfl (hb hby d_jdk_52_method_21_code_27) rfl ?_
    show Steps _ _ _ (s₁.setTop (mkF m 28 #[.val (.ref b), .val (.int (0 : Int32)), .val (.ref t), .val (.int (0 : Int32)), .val (.int (2 : Int32)), .val (.int (0 : Int32)), .val (.int d0)] [(.int (0 : Int32)), (.ref t)])) _
    refine XS.iload X0.here hx rfl (hb hby d_jdk_52_method_21_code_28) rfl ?_
    show Steps _ _ _ (s₁.setTop (mkF m 30 #[.val (.ref b), .val (.int (0 : Int32)), .val (.ref t), .val (.int (0 : Int32)), .val (.int (2 : Int32)), .val (.int (0 : Int32)), .val (.int d0)] [(.int d0), (.int (0 : Int32)), (.ref t)])) _
    refine XS.i2b X0.here hx rfl (hb hby d_jdk_52_method_21_code_30) rfl ?_
    show Steps _ _ _ (s₁.setTop (mkF m 31 #[.val (.ref b), .val (.int (0 : Int32)), .val (.ref t), .val (.int (0 : Int32)), .val (.int (2 : Int32)), .val (.int (0 : Int32)), .val (.int d0)] [(.int (d0.toInt8.toInt32)), (.int (0 : Int32)), (.ref t)])) _
    exact hq)
  obtain ⟨cl4, Ar4, q4, S4, M4, G4, J4⟩ := id P1
  obtain ⟨T4, h4, X4, e4, W4, st4⟩ := stB X0 hx hZ e0 Ar4 (j := (0 : Int32)) (inb_of S4 ⟨by decide, by decide⟩) (g := (mkF m 31 #[.val (.ref b), .val (.int (0 : Int32)), .val (.ref t), .val (.int (0 : Int32)), .val (.int (2 : Int32)), .val (.int (0 : Int32)), .val (.int d0)] [(.int (d0.toInt8.toInt32)), (.int (0 : Int32)), (.ref t)])) rfl rfl (hb hby d_jdk_52_method_21_code_31)
  have k4 : To p.tables e below S0 (T4.setTop (mkF m 32 #[.val (.ref b), .val (.int (0 : Int32)), .val (.ref t), .val (.int (0 : Int32)), .val (.int (2 : Int32)), .val (.int (0 : Int32)), .val (.int d0)] [])) := fun tt hq => k3 tt (st4 tt hq)
  have z4 : h4.size = h0.size := W4.size
  have V4 : Arv Z h4 t kt .byte (2 : Int32) [(.int (nar .byte (d0.toInt8.toInt32))), (.int (0 : Int32))] (.int (0 : Int32)) := Arv.set Ar4 q4 S4 M4 G4 J4 (fits_nar_byte _) W4 0 rfl (Nat.le_of_ble_eq_true rfl)
  have N4 := Fr.snoc X4 N0 (by omega : n0 ≤ t)
  have f5 : Arv Z h4 b kb .char (2 : Int32) [(.int d0), (.int d1)] (.int (0 : Int32)) := (P0.other W4 (adr_ne (by omega)))
  have k6 : To p.tables e below S0 (T4.setTop (mkF m 12 #[.val (.ref b), .val (.int (1 : Int32)), .val (.ref t), .val (.int (1 : Int32)), .val (.int (2 : Int32)), .val (.int (1 : Int32)), .val (.int d0)] [(.int (1 : Int32)), (.ref b)])) := fun tt hq => k4 tt (by
    show Steps _ _ _ (T4.setTop (mkF m 32 #[.val (.ref b), .val (.int (0 : Int32)), .val (.ref t), .val (.int (0 : Int32)), .val (.int (2 : Int32)), .val (.int (0 : Int32)), .val (.int d0)] [])) _
    refine XS.iinc X4.here hx rfl (hb hby d_jdk_52_method_21_code_32) rfl (l' := #[.val (.ref b), .val (.int (1 : Int32)), .val (.ref t), .val (.int (0 : Int32)), .val (.int (2 : Int32)), .val (.int (0 : Int32)), .val (.int d0)]) rfl ?_
    show Steps _ _ _ (T4.setTop (mkF m 35 #[.val (.ref b), .val (.int (1 : Int32)), .val (.ref t), .val (.int (0 : Int32)), .val (.int (2 : Int32)), .val (.int (0 : Int32)), .val (.int d0)] [])) _
    refine XS.iinc X4.here hx rfl (hb hby d_jdk_52_method_21_code_35) rfl (l' := #[.val (.ref b), .val (.int (1 : Int32)), .val (.ref t), .val (.int (1 : Int32)), .val (.int (2 : Int32)), .val (.int (0 : Int32)), .val (.int d0)]) rfl ?_
    show Steps _ _ _ (T4.setTop (mkF m 38 #[.val (.ref b), .val (.int (1 : Int32)), .val (.ref t), .val (.int (1 : Int32)), .val (.int (2 : Int32)), .val (.int (0 : Int32)), .val (.int d0)] [])) _
    refine XS.iinc X4.here hx rfl (hb hby d_jdk_52_method_21_code_38) rfl (l' := #[.val (.ref b), .val (.int (1 : Int32)), .val (.ref t), .val (.int (1 : Int32)), .val (.int (2 : Int32)), .val (.int (1 : Int32)), .val (.int d0)]) rfl ?_
    show Steps _ _ _ (T4.setTop (mkF m 41 #[.val (.ref b), .val (.int (1 : Int32)), .val (.ref t), .val (.int (1 : Int32)), .val (.int (2 : Int32)), .val (.int (1 : Int32)), .val (.int d0)] [])) _
    refine XS.goto X4.here hx rfl (pc0 := 41) (pc' := 3) rfl (hb hby d_jdk_52_method_21_code_41) (by decide) (by decide) ?_
    show Steps _ _ _ (T4.setTop (mkF m 3 #[.val (.ref b), .val (.int (1 : Int32)), .val (.ref t), .val (.int (1 : Int32)), .val (.int (2 : Int32)), .val (.int (1 : Int32)), .val (.int d0)] [])) _
    refine XS.iload X4.here hx rfl (hb hby d_jdk_52_method_21_code_3) rfl ?_
    show Steps _ _ _ (T4.setTop (mkF m 5 #[.val (.ref b), .val (.int (1 : Int32)), .val (.ref t), .val (.int (1 : Int32)), .val (.int (2 : Int32)), .val (.int (1 : Int32)), .val (.int d0)] [(.int (1 : Int32))])) _
    refine XS.iload X4.here hx rfl (hb hby d_jdk_52_method_21_code_5) rfl ?_
    show Steps _ _ _ (T4.setTop (mkF m 7 #[.val (.ref b), .val (.int (1 : Int32)), .val (.ref t), .val (.int (1 : Int32)), .val (.int (2 : Int32)), .val (.int (1 : Int32)), .val (.int d0)] [(.int (2 : Int32)), (.int (1 : Int32))])) _
    refine XS.icmpNo X4.here hx rfl (hb hby d_jdk_52_method_21_code_7) rfl (tlt (by decide)).2.1 ?_
    show Steps _ _ _ (T4.setTop (mkF m 10 #[.val (.ref b), .val (.int (1 : Int32)), .val (.ref t), .val (.int (1 : Int32)), .val (.int (2 : Int32)), .val (.int (1 : Int32)), .val (.int d0)] [])) _
    refine XS.aloadN X4.here hx rfl (hb hby d_jdk_52_method_21_code_10) rfl rfl ?_
    show Steps _ _ _ (T4.setTop (mkF m 11 #[.val (.ref b), .val (.int (1 : Int32)), .val (.ref t), .val (.int (1 : Int32)), .val (.int (2 : Int32)), .val (.int (1 : Int32)), .val (.int d0)] [(.ref b)])) _
    refine XS.iloadN X4.here hx rfl (hb hby d_jdk_52_method_21_code_11) rfl ?_
    show Steps _ _ _ (T4.setTop (mkF m 12 #[.val (.ref b), .val (.int (1 : Int32)), .val (.ref t), .val (.int (1 : Int32)), .val (.int (2 : Int32)), .val (.int (1 : Int32)), .val (.int d0)] [(.int (1 : Int32)), (.ref b)])) _
    exact hq)
  obtain ⟨cl7, Ar7, -, S7, -, G7, -⟩ := id f5
  have hi7 := inb_of (j := (1 : Int32)) S7 ⟨by decide, by decide⟩
  have st7 := fun tt => X4.caload hx (j := (1 : Int32)) (v := (.int d1)) (by rw [e4]; exact Ar7.1) (State.isArrayOf_alike hZ.alike Ar7.2.1) Ar7.2.2 hi7 (G7.at hi7 rfl) (g := (mkF m 12 #[.val (.ref b), .val (.int (1 : Int32)), .val (.ref t), .val (.int (1 : Int32)), .val (.int (2 : Int32)), .val (.int (1 : Int32)), .val (.int d0)] [(.int (1 : Int32)), (.ref b)])) rfl rfl (hb hby d_jdk_52_method_21_code_12) tt
  have k7 : To p.tables e below S0 (T4.setTop (mkF m 13 #[.val (.ref b), .val (.int (1 : Int32)), .val (.ref t), .val (.int (1 : Int32)), .val (.int (2 : Int32)), .val (.int (1 : Int32)), .val (.int d0)] [(.int d1)])) := fun tt hq => k6 tt (st7 tt hq)
  have k8 : To p.tables e below S0 (T4.setTop (mkF m 31 #[.val (.ref b), .val (.int (1 : Int32)), .val (.ref t), .val (.int (1 : Int32)), .val (.int (2 : Int32)), .val (.int (1 : Int32)), .val (.int d1)] [(.int (d1.toInt8.toInt32)), (.int (1 : Int32)), (.ref t)])) := fun tt hq => k7 tt (by
    show Steps _ _ _ (T4.setTop (mkF m 13 #[.val (.ref b), .val (.int (1 : Int32)), .val (.ref t), .val (.int (1 : Int32)), .val (.int (2 : Int32)), .val (.int (1 : Int32)), .val (.int d0)] [(.int d1)])) _
    refine XS.istore X4.here hx rfl (hb hby d_jdk_52_method_21_code_13) rfl (l' := #[.val (.ref b), .val (.int (1 : Int32)), .val (.ref t), .val (.int (1 : Int32)), .val (.int (2 : Int32)), .val (.int (1 : Int32)), .val (.int d1)]) rfl ?_
    show Steps _ _ _ (T4.setTop (mkF m 15 #[.val (.ref b), .val (.int (1 : Int32)), .val (.ref t), .val (.int (1 : Int32)), .val (.int (2 : Int32)), .val (.int (1 : Int32)), .val (.int d1)] [])) _
    refine XS.iload X4.here hx rfl (hb hby d_jdk_52_method_21_code_15) rfl ?_
    show Steps _ _ _ (T4.setTop (mkF m 17 #[.val (.ref b), .val (.int (1 : Int32)), .val (.ref t), .val (.int (1 : Int32)), .val (.int (2 : Int32)), .val (.int (1 : Int32)), .val (.int d1)] [(.int d1)])) _
    refine XS.sipush X4.here hx rfl (hb hby d_jdk_52_method_21_code_17) ?_
    show Steps _ _ _ (T4.setTop (mkF m 20 #[.val (.ref b), .val (.int (1 : Int32)), .val (.ref t), .val (.int (1 : Int32)), .val (.int (2 : Int32)), .val (.int (1 : Int32)), .val (.int d1)] [(.int (255 : Int32)), (.int d1)])) _
    refine XS.icmpYes X4.here hx rfl (pc0 := 20) (pc' := 26) rfl (hb hby d_jdk_52_method_21_code_20) rfl (flt hd1.2).2.2.2 (by decide) (by decide) ?_
    show Steps _ _ _ (T4.setTop (mkF m 26 #[.val (.ref b), .val (.int (1 : Int32)), .val (.ref t), .val (.int (1 : Int32)), .val (.int (2 : Int32)), .val (.int (1 : Int32)), .val (.int d1)] [])) _
    refine XS.aloadN X4.here hx rfl (hb hby d_jdk_52_method_21_code_26) rfl rfl ?_
    show Steps _ _ _ (T4.setTop (mkF m 27 #[.val (.ref b), .val (.int (1 : Int32)), .val (.ref t), .val (.int (1 : Int32)), .val (.int (2 : Int32)), .val (.int (1 : Int32)), .val (.int d1)] [(.ref t)])) _
    refine XS.iloadN X4.here hx rfl (hb hby d_jdk_52_method_21_code_27) rfl ?_
    show Steps _ _ _ (T4.setTop (mkF m 28 #[.val (.ref b), .val (.int (1 : Int32)), .val (.ref t), .val (.int (1 : Int32)), .val (.int (2 : Int32)), .val (.int (1 : Int32)), .val (.int d1)] [(.int (1 : Int32)), (.ref t)])) _
    refine XS.iload X4.here hx rfl (hb hby d_jdk_52_method_21_code_28) rfl ?_
    show Steps _ _ _ (T4.setTop (mkF m 30 #[.val (.ref b), .val (.int (1 : Int32)), .val (.ref t), .val (.int (1 : Int32)), .val (.int (2 : Int32)), .val (.int (1 : Int32)), .val (.int d1)] [(.int d1), (.int (1 : Int32)), (.ref t)])) _
    refine XS.i2b X4.here hx rfl (hb hby d_jdk_52_method_21_code_30) rfl ?_
    show Steps _ _ _ (T4.setTop (mkF m 31 #[.val (.ref b), .val (.int (1 : Int32)), .val (.ref t), .val (.int (1 : Int32)), .val (.int (2 : Int32)), .val (.int (1 : Int32)), .val (.int d1)] [(.int (d1.toInt8.toInt32)), (.int (1 : Int32)), (.ref t)])) _
    exact hq)
  obtain ⟨cl9, Ar9, q9, S9, M9, G9, J9⟩ := id V4
  obtain ⟨T9, h9, X9, e9, W9, st9⟩ := stB X4 hx hZ e4 Ar9 (j := (1 : Int32)) (inb_of S9 ⟨by decide, by decide⟩) (g := (mkF m 31 #[.val (.ref b), .val (.int (1 : Int32)), .val (.ref t), .val (.int (1 : Int32)), .val (.int (2 : Int32)), .val (.int (1 : Int32)), .val (.int d1)] [(.int (d1.toInt8.toInt32)), (.int (1 : Int32)), (.ref t)])) rfl rfl (hb hby d_jdk_52_method_21_code_31)
  have k9 : To p.tables e below S0 (T9.setTop (mkF m 32 #[.val (.ref b), .val (.int (1 : Int32)), .val (.ref t), .val (.int (1 : Int32)), .val (.int (2 : Int32)), .val (.int (1 : Int32)), .val (.int d1)] [])) := fun tt hq => k8 tt (st9 tt hq)
  have z9 : h9.size = h4.size := W9.size
  have V9 : Arv Z h9 t kt .byte (2 : Int32) [(.int (nar .byte (d0.toInt8.toInt32))), (.int (nar .byte (d1.toInt8.toInt32)))] (.int (0 : Int32)) := Arv.set Ar9 q9 S9 M9 G9 J9 (fits_nar_byte _) W9 1 rfl (Nat.le_of_ble_eq_true rfl)
  have N9 := Fr.snoc X9 N4 (by omega : n0 ≤ t)
  have k10 : To p.tables e below S0 (T9.setTop (mkF m 46 #[.val (.ref b), .val (.int (2 : Int32)), .val (.ref t), .val (.int (2 : Int32)), .val (.int (2 : Int32)), .val (.int (2 : Int32)), .val (.int d1)] [(.int (2 : Int32))])) := fun tt hq => k9 tt (by
    show Steps _ _ _ (T9.setTop (mkF m 32 #[.val (.ref b), .val (.int (1 : Int32)), .val (.ref t), .val (.int (1 : Int32)), .val (.int (2 : Int32)), .val (.int (1 : Int32)), .val (.int d1)] [])) _
    refine XS.iinc X9.here hx rfl (hb hby d_jdk_52_method_21_code_32) rfl (l' := #[.val (.ref b), .val (.int (2 : Int32)), .val (.ref t), .val (.int (1 : Int32)), .val (.int (2 : Int32)), .val (.int (1 : Int32)), .val (.int d1)]) rfl ?_
    show Steps _ _ _ (T9.setTop (mkF m 35 #[.val (.ref b), .val (.int (2 : Int32)), .val (.ref t), .val (.int (1 : Int32)), .val (.int (2 : Int32)), .val (.int (1 : Int32)), .val (.int d1)] [])) _
    refine XS.iinc X9.here hx rfl (hb hby d_jdk_52_method_21_code_35) rfl (l' := #[.val (.ref b), .val (.int (2 : Int32)), .val (.ref t), .val (.int (2 : Int32)), .val (.int (2 : Int32)), .val (.int (1 : Int32)), .val (.int d1)]) rfl ?_
    show Steps _ _ _ (T9.setTop (mkF m 38 #[.val (.ref b), .val (.int (2 : Int32)), .val (.ref t), .val (.int (2 : Int32)), .val (.int (2 : Int32)), .val (.int (1 : Int32)), .val (.int d1)] [])) _
    refine XS.iinc X9.here hx rfl (hb hby d_jdk_52_method_21_code_38) rfl (l' := #[.val (.ref b), .val (.int (2 : Int32)), .val (.ref t), .val (.int (2 : Int32)), .val (.int (2 : Int32)), .val (.int (2 : Int32)), .val (.int d1)]) rfl ?_
    show Steps _ _ _ (T9.setTop (mkF m 41 #[.val (.ref b), .val (.int (2 : Int32)), .val (.ref t), .val (.int (2 : Int32)), .val (.int (2 : Int32)), .val (.int (2 : Int32)), .val (.int d1)] [])) _
    refine XS.goto X9.here hx rfl (pc0 := 41) (pc' := 3) rfl (hb hby d_jdk_52_method_21_code_41) (by decide) (by decide) ?_
    show Steps _ _ _ (T9.setTop (mkF m 3 #[.val (.ref b), .val (.int (2 : Int32)), .val (.ref t), .val (.int (2 : Int32)), .val (.int (2 : Int32)), .val (.int (2 : Int32)), .val (.int d1)] [])) _
    refine XS.iload X9.here hx rfl (hb hby d_jdk_52_method_21_code_3) rfl ?_
    show Steps _ _ _ (T9.setTop (mkF m 5 #[.val (.ref b), .val (.int (2 : Int32)), .val (.ref t), .val (.int (2 : Int32)), .val (.int (2 : Int32)), .val (.int (2 : Int32)), .val (.int d1)] [(.int (2 : Int32))])) _
    refine XS.iload X9.here hx rfl (hb hby d_jdk_52_method_21_code_5) rfl ?_
    show Steps _ _ _ (T9.setTop (mkF m 7 #[.val (.ref b), .val (.int (2 : Int32)), .val (.ref t), .val (.int (2 : Int32)), .val (.int (2 : Int32)), .val (.int (2 : Int32)), .val (.int d1)] [(.int (2 : Int32)), (.int (2 : Int32))])) _
    refine XS.icmpYes X9.here hx rfl (pc0 := 7) (pc' := 44) rfl (hb hby d_jdk_52_method_21_code_7) rfl (flt (by decide)).2.1 (by decide) (by decide) ?_
    show Steps _ _ _ (T9.setTop (mkF m 44 #[.val (.ref b), .val (.int (2 : Int32)), .val (.ref t), .val (.int (2 : Int32)), .val (.int (2 : Int32)), .val (.int (2 : Int32)), .val (.int d1)] [])) _
    refine XS.iload X9.here hx rfl (hb hby d_jdk_52_method_21_code_44) rfl ?_
    show Steps _ _ _ (T9.setTop (mkF m 46 #[.val (.ref b), .val (.int (2 : Int32)), .val (.ref t), .val (.int (2 : Int32)), .val (.int (2 : Int32)), .val (.int (2 : Int32)), .val (.int d1)] [(.int (2 : Int32))])) _
    exact hq)
  have hE := e9
  refine retInt X9 hx hret hlk (by simp) rfl (hb hby d_jdk_52_method_21_code_46) k10 ?_ (by decide) (by decide)
  try rw [hE]
  exact ⟨rfl, N9, (((Keep.refl h0 [t]).wr W4 (Or.inl (by simp))).wr W9 (Or.inl (by simp))), V9⟩
set_option maxRecDepth 65536 in
set_option maxHeartbeats 40000000 in
theorem rm_c3_2 (l : Launch) (Z : State) (a0 : Array Value) (hw : ∀ d ∈ tables_1, d.before a0 Z = true) (b : Addr) (kb : ClassId) (d0 : Int32) (d1 : Int32) (h0 : Heap) (n0 : Nat) (hn0 : n0 ≤ h0.size) (P0 : Arv Z h0 b kb .char (2 : Int32) [(.int d0), (.int d1)] (.int (0 : Int32))) (yb : @LT.lt Nat instLTNat b h0.size) (hd0 : ¬ d0 < (0 : Int32) ∧ ¬ (255 : Int32) < d0) (hd1 : ¬ d1 < (0 : Int32) ∧ ¬ (255 : Int32) < d1) :
    Con l Z (⟨"java/lang/StringUTF16", "compress", "([CII)[B"⟩ : MethodName) jdk_52_method_16_code 6 (some (.array .byte)) [] ({ frames := 1, cells := 1, slots := 2, locals := 18 } : Room) #[(.ref b), (.int (0 : Int32)), (.int (2 : Int32))] h0 (fun v h L => ∃ (t : Addr) (k : ClassId), v = some (.ref t) ∧ Fr n0 L ∧ h0.size ≤ t ∧ Keep h0 h [] ∧ Arv Z h t k .byte (2 : Int32) [(.int (nar .byte (d0.toInt8.toInt32))), (.int (nar .byte (d1.toInt8.toInt32)))] (.int (0 : Int32))) := by
  refine enter (Ls := #[.val (.ref b), .val (.int (0 : Int32)), .val (.int (2 : Int32)), .unset, .unset, .unset]) (plainFor_of_name pn_0) (fun m => by exact entry_eq rfl) ?_
  intro p e s m below meth cd_ s₁ S0 hx hby hml hret hlk hnm hown hZ X0 e0 k0
  have N0 := Fr.nil n0
  have k1 : To p.tables e below S0 (s₁.setTop (mkF m 1 #[.val (.ref b), .val (.int (0 : Int32)), .val (.int (2 : Int32)), .unset, .unset, .unset] [(.int (2 : Int32))])) := fun tt hq => k0 tt (by
    show Steps _ _ _ (s₁.setTop (mkF m 0 #[.val (.ref b), .val (.int (0 : Int32)), .val (.int (2 : Int32)), .unset, .unset, .unset] [])) _
    refine XS.iloadN X0.here hx rfl (hb hby d_jdk_52_method_16_code_0) rfl ?_
    show Steps _ _ _ (s₁.setTop (mkF m 1 #[.val (.ref b), .val (.int (0 : Int32)), .val (.int (2 : Int32)), .unset, .unset, .unset] [(.int (2 : Int32))])) _
    exact hq)
  obtain ⟨T2, h2, c2, X2, e2, E2, A2, st2⟩ := newP X0 hx hZ (hw _ (List.mem_of_getElem? (i := 19) rfl)) e0 (g := (mkF m 1 #[.val (.ref b), .val (.int (0 : Int32)), .val (.int (2 : Int32)), .unset, .unset, .unset] [(.int (2 : Int32))])) rfl (hb hby d_jdk_52_method_16_code_1) rfl (by decide) (cap := 2) (by decide) (by decide) (by decide) (by decide)
  obtain ⟨b2, g2⟩ : ∃ z, z = h0.size := ⟨_, rfl⟩
  rw [← g2] at A2 st2
  have k2 : To p.tables e below S0 (T2.setTop (mkF m 3 #[.val (.ref b), .val (.int (0 : Int32)), .val (.int (2 : Int32)), .unset, .unset, .unset] [(.ref b2)])) := fun tt hq => k1 tt (st2 tt hq)
  have z2 : h0.size ≤ h2.size := E2.1
  have V2 : Arv Z h2 b2 c2 .byte (2 : Int32) [(.int (0 : Int32)), (.int (0 : Int32))] (.int (0 : Int32)) := (Arv.new A2 (by decide)).pad (pad_rep [] (.int (0 : Int32)) 2)
  have y2 : @LT.lt Nat instLTNat b2 h2.size := V2.lt
  have k3 : To p.tables e below S0 (T2.setTop (mkF m 9 #[.val (.ref b), .val (.int (0 : Int32)), .val (.int (2 : Int32)), .val (.ref b2), .unset, .unset] [(.int (2 : Int32)), (.int (0 : Int32)), (.ref b2), (.int (0 : Int32)), (.ref b)])) := fun tt hq => k2 tt (by
    show Steps _ _ _ (T2.setTop (mkF m 3 #[.val (.ref b), .val (.int (0 : Int32)), .val (.int (2 : Int32)), .unset, .unset, .unset] [(.ref b2)])) _
    refine XS.astoreN X2.here hx rfl (hb hby d_jdk_52_method_16_code_3) rfl rfl (l' := #[.val (.ref b), .val (.int (0 : Int32)), .val (.int (2 : Int32)), .val (.ref b2), .unset, .unset]) rfl ?_
    show Steps _ _ _ (T2.setTop (mkF m 4 #[.val (.ref b), .val (.int (0 : Int32)), .val (.int (2 : Int32)), .val (.ref b2), .unset, .unset] [])) _
    refine XS.aloadN X2.here hx rfl (hb hby d_jdk_52_method_16_code_4) rfl rfl ?_
    show Steps _ _ _ (T2.setTop (mkF m 5 #[.val (.ref b), .val (.int (0 : Int32)), .val (.int (2 : Int32)), .val (.ref b2), .unset, .unset] [(.ref b)])) _
    refine XS.iloadN X2.here hx rfl (hb hby d_jdk_52_method_16_code_5) rfl ?_
    show Steps _ _ _ (T2.setTop (mkF m 6 #[.val (.ref b), .val (.int (0 : Int32)), .val (.int (2 : Int32)), .val (.ref b2), .unset, .unset] [(.int (0 : Int32)), (.ref b)])) _
    refine XS.aloadN X2.here hx rfl (hb hby d_jdk_52_method_16_code_6) rfl rfl ?_
    show Steps _ _ _ (T2.setTop (mkF m 7 #[.val (.ref b), .val (.int (0 : Int32)), .val (.int (2 : Int32)), .val (.ref b2), .unset, .unset] [(.ref b2), (.int (0 : Int32)), (.ref b)])) _
    refine XS.iconst X2.here hx rfl (hb hby d_jdk_52_method_16_code_7) ?_
    show Steps _ _ _ (T2.setTop (mkF m 8 #[.val (.ref b), .val (.int (0 : Int32)), .val (.int (2 : Int32)), .val (.ref b2), .unset, .unset] [(.int (0 : Int32)), (.ref b2), (.int (0 : Int32)), (.ref b)])) _
    refine XS.iloadN X2.here hx rfl (hb hby d_jdk_52_method_16_code_8) rfl ?_
    show Steps _ _ _ (T2.setTop (mkF m 9 #[.val (.ref b), .val (.int (0 : Int32)), .val (.int (2 : Int32)), .val (.ref b2), .unset, .unset] [(.int (2 : Int32)), (.int (0 : Int32)), (.ref b2), (.int (0 : Int32)), (.ref b)])) _
    exact hq)
  have f4 : Arv Z h2 b kb .char (2 : Int32) [(.int d0), (.int d1)] (.int (0 : Int32)) := (P0.ext E2)
  obtain ⟨_, T5, L5, X5, ⟨rfl, Nq5, Kq5, V5⟩, k5a⟩ := callS' X2 hx hZ (y := (⟨"java/lang/StringUTF16", "compress", "([CI[BII)I"⟩ : MethodName)) hown (hw _ (List.mem_of_getElem? (i := 95) rfl)) (hw _ (List.mem_of_getElem? (i := 96) rfl)) (hw _ (List.mem_of_getElem? (i := 93) rfl)) (hw _ (List.mem_of_getElem? (i := 97) rfl)) (by decide) (backC (W := 0) (rm_c5_2 l Z a0 hw b kb b2 c2 d0 d1 h2 n0 (by omega) f4 V2 (by omega) (by omega) hd0 hd1) hZ (hw _ (List.mem_of_getElem? (i := 97) rfl)) (hw _ (List.mem_of_getElem? (i := 93) rfl)) (by decide) (by decide)) e2 (argsL := [(.ref b), (.int (0 : Int32)), (.ref b2), (.int (0 : Int32)), (.int (2 : Int32))]) (rest := []) rfl rfl pd_0 rfl (by rw [hml]; rfl) (hb hby d_jdk_52_method_16_code_9) (Nat.le_of_eq rfl) (by decide) (by decide) k3
  have k5 : To p.tables e below S0 (T5.setTop (mkF m 12 #[.val (.ref b), .val (.int (0 : Int32)), .val (.int (2 : Int32)), .val (.ref b2), .unset, .unset] [(.int (2 : Int32))])) := k5a
  have N5 := N0.app Nq5
  obtain ⟨h5, e5⟩ : ∃ z, T5.heap = z := ⟨_, rfl⟩
  rw [e5] at Kq5 V5
  have z5 : h2.size ≤ h5.size := Kq5.1
  have k6 : To p.tables e below S0 (T5.setTop (mkF m 58 #[.val (.ref b), .val (.int (0 : Int32)), .val (.int (2 : Int32)), .val (.ref b2), .val (.int (2 : Int32)), .unset] [(.ref b2)])) := fun tt hq => k5 tt (by
    show Steps _ _ _ (T5.setTop (mkF m 12 #[.val (.ref b), .val (.int (0 : Int32)), .val (.int (2 : Int32)), .val (.ref b2), .unset, .unset] [(.int (2 : Int32))])) _
    refine XS.istore X5.here hx rfl (hb hby d_jdk_52_method_16_code_12) rfl (l' := #[.val (.ref b), .val (.int (0 : Int32)), .val (.int (2 : Int32)), .val (.ref b2), .val (.int (2 : Int32)), .unset]) rfl ?_
    show Steps _ _ _ (T5.setTop (mkF m 14 #[.val (.ref b), .val (.int (0 : Int32)), .val (.int (2 : Int32)), .val (.ref b2), .val (.int (2 : Int32)), .unset] [])) _
    refine XS.iload X5.here hx rfl (hb hby d_jdk_52_method_16_code_14) rfl ?_
    show Steps _ _ _ (T5.setTop (mkF m 16 #[.val (.ref b), .val (.int (0 : Int32)), .val (.int (2 : Int32)), .val (.ref b2), .val (.int (2 : Int32)), .unset] [(.int (2 : Int32))])) _
    refine XS.iloadN X5.here hx rfl (hb hby d_jdk_52_method_16_code_16) rfl ?_
    show Steps _ _ _ (T5.setTop (mkF m 17 #[.val (.ref b), .val (.int (0 : Int32)), .val (.int (2 : Int32)), .val (.ref b2), .val (.int (2 : Int32)), .unset] [(.int (2 : Int32)), (.int (2 : Int32))])) _
    refine XS.icmpYes X5.here hx rfl (pc0 := 17) (pc' := 57) rfl (hb hby d_jdk_52_method_16_code_17) rfl (teq (by decide)).1 (by decide) (by decide) ?_
    show Steps _ _ _ (T5.setTop (mkF m 57 #[.val (.ref b), .val (.int (0 : Int32)), .val (.int (2 : Int32)), .val (.ref b2), .val (.int (2 : Int32)), .unset] [])) _
    refine XS.aloadN X5.here hx rfl (hb hby d_jdk_52_method_16_code_57) rfl rfl ?_
    show Steps _ _ _ (T5.setTop (mkF m 58 #[.val (.ref b), .val (.int (0 : Int32)), .val (.int (2 : Int32)), .val (.ref b2), .val (.int (2 : Int32)), .unset] [(.ref b2)])) _
    exact hq)
  have hE := e5
  refine retRef X5 hx hret hlk rfl rfl (hb hby d_jdk_52_method_16_code_58) k6 ?_ (by decide) (by decide)
  try rw [hE]
  exact ⟨b2, _, rfl, N5, (by omega), (((Keep.refl h0 []).ext E2).trans Kq5 (allS (Or.inr (by omega)) all0)), V5⟩
set_option maxRecDepth 65536 in
set_option maxHeartbeats 40000000 in
theorem rm_cl_2 (l : Launch) (Z : State) (a0 : Array Value) (hw : ∀ d ∈ tables_1, d.before a0 Z = true) (t : Addr) (kt : ClassId) (d0 : Int32) (d1 : Int32) (h0 : Heap) (n0 : Nat) (hn0 : n0 ≤ h0.size) (P0 : Arv Z h0 t kt .byte (2 : Int32) [(.int d0), (.int d1)] (.int (0 : Int32))) :
    Con l Z (⟨"java/lang/StringUTF16", "coderFromArrayLen", "([BI)B"⟩ : MethodName) jdk_52_method_15_code 2 (some .byte) [] ({ frames := 0, cells := 0, slots := 0, locals := 0 } : Room) #[(.ref t), (.int (2 : Int32))] h0 (fun v h L => v = some (.int (0 : Int32)) ∧ Fr n0 L ∧ h = h0) := by
  refine enter (Ls := #[.val (.ref t), .val (.int (2 : Int32))]) (plainFor_of_name pn_0) (fun m => by exact entry_eq rfl) ?_
  intro p e s m below meth cd_ s₁ S0 hx hby hml hret hlk hnm hown hZ X0 e0 k0
  have N0 := Fr.nil n0
  have k1 : To p.tables e below S0 (s₁.setTop (mkF m 2 #[.val (.ref t), .val (.int (2 : Int32))] [(.ref t), (.int (2 : Int32))])) := fun tt hq => k0 tt (by
    show Steps _ _ _ (s₁.setTop (mkF m 0 #[.val (.ref t), .val (.int (2 : Int32))] [])) _
    refine XS.iloadN X0.here hx rfl (hb hby d_jdk_52_method_15_code_0) rfl ?_
    show Steps _ _ _ (s₁.setTop (mkF m 1 #[.val (.ref t), .val (.int (2 : Int32))] [(.int (2 : Int32))])) _
    refine XS.aloadN X0.here hx rfl (hb hby d_jdk_52_method_15_code_1) rfl rfl ?_
    show Steps _ _ _ (s₁.setTop (mkF m 2 #[.val (.ref t), .val (.int (2 : Int32))] [(.ref t), (.int (2 : Int32))])) _
    exact hq)
  obtain ⟨cl2, Ar2, -, S2, M2, -, -⟩ := id P0
  have st2 := fun tt => X0.arraylength hx (by rw [e0]; exact Ar2.1) (State.isArrayOf_alike hZ.alike Ar2.2.1) (g := (mkF m 2 #[.val (.ref t), .val (.int (2 : Int32))] [(.ref t), (.int (2 : Int32))])) rfl rfl (hb hby d_jdk_52_method_15_code_2) tt
  rw [len_of S2 M2] at st2
  have k2 : To p.tables e below S0 (s₁.setTop (mkF m 3 #[.val (.ref t), .val (.int (2 : Int32))] [(.int (2 : Int32)), (.int (2 : Int32))])) := fun tt hq => k1 tt (st2 tt hq)
  have k3 : To p.tables e below S0 (s₁.setTop (mkF m 8 #[.val (.ref t), .val (.int (2 : Int32))] [(.int (0 : Int32))])) := fun tt hq => k2 tt (by
    show Steps _ _ _ (s₁.setTop (mkF m 3 #[.val (.ref t), .val (.int (2 : Int32))] [(.int (2 : Int32)), (.int (2 : Int32))])) _
    refine XS.isub X0.here hx rfl (hb hby d_jdk_52_method_15_code_3) rfl ?_
    show Steps _ _ _ (s₁.setTop (mkF m 4 #[.val (.ref t), .val (.int (2 : Int32))] [(.int (0 : Int32))])) _
    refine XS.bipush X0.here hx rfl (hb hby d_jdk_52_method_15_code_4) ?_
    show Steps _ _ _ (s₁.setTop (mkF m 6 #[.val (.ref t), .val (.int (2 : Int32))] [(.int (31 : Int32)), (.int (0 : Int32))])) _
    refine XS.iushr X0.here hx rfl (hb hby d_jdk_52_method_15_code_6) rfl ?_
    show Steps _ _ _ (s₁.setTop (mkF m 7 #[.val (.ref t), .val (.int (2 : Int32))] [(.int (0 : Int32))])) _
    refine XS.i2b X0.here hx rfl (hb hby d_jdk_52_method_15_code_7) rfl ?_
    show Steps _ _ _ (s₁.setTop (mkF m 8 #[.val (.ref t), .val (.int (2 : Int32))] [(.int (0 : Int32))])) _
    exact hq)
  have hE := e0
  refine retInt X0 hx hret hlk (by simp) rfl (hb hby d_jdk_52_method_15_code_8) k3 ?_ (by decide) (by decide)
  try rw [hE]
  exact ⟨rfl, N0, rfl⟩
set_option maxRecDepth 65536 in
set_option maxHeartbeats 40000000 in
theorem rm_n4_2 (l : Launch) (Z : State) (a0 : Array Value) (hw : ∀ d ∈ tables_1, d.before a0 Z = true) (zc : Int32) (a : Addr) (b : Addr) (kb : ClassId) (u1 : Value) (u2 : Value) (d0 : Int32) (d1 : Int32) (h0 : Heap) (n0 : Nat) (hn0 : n0 ≤ h0.size) (S_c : Sta Z Z.heap "java/lang/String" "COMPACT_STRINGS" "Z" (.int zc)) (hzc : ¬ zc = (0 : Int32)) (O0 : Old Z n0 h0) (E0 : Exa Z h0 a "java/lang/String") (F1 : Fld Z h0 a "java/lang/String" "value" "[B" u1) (F2 : Fld Z h0 a "java/lang/String" "coder" "B" u2) (P0 : Arv Z h0 b kb .char (2 : Int32) [(.int d0), (.int d1)] (.int (0 : Int32))) (ga : n0 ≤ a) (ya : @LT.lt Nat instLTNat a h0.size) (yb : @LT.lt Nat instLTNat b h0.size) (nab : ¬ (@Eq Nat b a)) (hd0 : ¬ d0 < (0 : Int32) ∧ ¬ (255 : Int32) < d0) (hd1 : ¬ d1 < (0 : Int32) ∧ ¬ (255 : Int32) < d1) :
    Con l Z (⟨"java/lang/String", "<init>", "([CIILjava/lang/Void;)V"⟩ : MethodName) jdk_42_method_149_code 6 none [] ({ frames := 2, cells := 1, slots := 2, locals := 35 } : Room) #[(.ref a), (.ref b), (.int (0 : Int32)), (.int (2 : Int32)), .null] h0 (fun v h L => v = none ∧ Fr n0 L ∧ Keep h0 h [a] ∧ ∃ (t : Addr) (k : ClassId), h0.size ≤ t ∧ Exa Z h a "java/lang/String" ∧ Fld Z h a "java/lang/String" "value" "[B" (.ref t) ∧ Fld Z h a "java/lang/String" "coder" "B" (.int (0 : Int32)) ∧ Arv Z h t k .byte (2 : Int32) [(.int (nar .byte (d0.toInt8.toInt32))), (.int (nar .byte (d1.toInt8.toInt32)))] (.int (0 : Int32))) := by
  refine enter (Ls := #[.val (.ref a), .val (.ref b), .val (.int (0 : Int32)), .val (.int (2 : Int32)), .val .null, .unset]) (plainFor_of_name pn_1) (fun m => by exact entry_eq rfl) ?_
  intro p e s m below meth cd_ s₁ S0 hx hby hml hret hlk hnm hown hZ X0 e0 k0
  have N0 := Fr.nil n0
  have k1 : To p.tables e below S0 (s₁.setTop (mkF m 1 #[.val (.ref a), .val (.ref b), .val (.int (0 : Int32)), .val (.int (2 : Int32)), .val .null, .unset] [(.ref a)])) := fun tt hq => k0 tt (by
    show Steps _ _ _ (s₁.setTop (mkF m 0 #[.val (.ref a), .val (.ref b), .val (.int (0 : Int32)), .val (.int (2 : Int32)), .val .null, .unset] [])) _
    refine XS.aloadN X0.here hx rfl (hb hby d_jdk_42_method_149_code_0) rfl rfl ?_
    show Steps _ _ _ (s₁.setTop (mkF m 1 #[.val (.ref a), .val (.ref b), .val (.int (0 : Int32)), .val (.int (2 : Int32)), .val .null, .unset] [(.ref a)])) _
    exact hq)
  obtain ⟨T2, X2, e2, st2⟩ := initO X0 hx hZ hown (hw _ (List.mem_of_getElem? (i := 15) rfl)) (hw _ (List.mem_of_getElem? (i := 16) rfl)) (hw _ (List.mem_of_getElem? (i := 17) rfl)) e0 (g := (mkF m 1 #[.val (.ref a), .val (.ref b), .val (.int (0 : Int32)), .val (.int (2 : Int32)), .val .null, .unset] [(.ref a)])) rfl (by rw [hml]; rfl) rfl (hb hby d_jdk_42_method_149_code_1) (by decide) (W := 0) (by show 2 * 0 + _ ≤ _; exact Nat.le_of_eq rfl) (by decide)
  have k2 : To p.tables e below S0 (T2.setTop (mkF m 4 #[.val (.ref a), .val (.ref b), .val (.int (0 : Int32)), .val (.int (2 : Int32)), .val .null, .unset] [])) := fun tt hq => k1 tt (st2 tt hq)
  have k3 : To p.tables e below S0 (T2.setTop (mkF m 27 #[.val (.ref a), .val (.ref b), .val (.int (0 : Int32)), .val (.int (2 : Int32)), .val .null, .unset] [])) := fun tt hq => k2 tt (by
    show Steps _ _ _ (T2.setTop (mkF m 4 #[.val (.ref a), .val (.ref b), .val (.int (0 : Int32)), .val (.int (2 : Int32)), .val .null, .unset] [])) _
    refine XS.iloadN X2.here hx rfl (hb hby d_jdk_42_method_149_code_4) rfl ?_
    show Steps _ _ _ (T2.setTop (mkF m 5 #[.val (.ref a), .val (.ref b), .val (.int (0 : Int32)), .val (.int (2 : Int32)), .val .null, .unset] [(.int (2 : Int32))])) _
    refine XS.ifYes X2.here hx rfl (pc0 := 5) (pc' := 27) rfl (hb hby d_jdk_42_method_149_code_5) rfl ((if0 _ _).trans (feq (by decide)).2) (by decide) (by decide) ?_
    show Steps _ _ _ (T2.setTop (mkF m 27 #[.val (.ref a), .val (.ref b), .val (.int (0 : Int32)), .val (.int (2 : Int32)), .val .null, .unset] [])) _
    exact hq)
  obtain ⟨T4, X4, e4, st4⟩ := getS2 X2 hx hZ hown (host := "") (Or.inl (hw _ (List.mem_of_getElem? (i := 90) rfl))) Via.refl e2 (staOld S_c O0) (g := (mkF m 27 #[.val (.ref a), .val (.ref b), .val (.int (0 : Int32)), .val (.int (2 : Int32)), .val .null, .unset] [])) rfl (hb hby d_jdk_42_method_149_code_27)
  have k4 : To p.tables e below S0 (T4.setTop (mkF m 30 #[.val (.ref a), .val (.ref b), .val (.int (0 : Int32)), .val (.int (2 : Int32)), .val .null, .unset] [(.int zc)])) := fun tt hq => k3 tt (st4 tt hq)
  have k5 : To p.tables e below S0 (T4.setTop (mkF m 36 #[.val (.ref a), .val (.ref b), .val (.int (0 : Int32)), .val (.int (2 : Int32)), .val .null, .unset] [(.int (2 : Int32)), (.int (0 : Int32)), (.ref b)])) := fun tt hq => k4 tt (by
    show Steps _ _ _ (T4.setTop (mkF m 30 #[.val (.ref a), .val (.ref b), .val (.int (0 : Int32)), .val (.int (2 : Int32)), .val .null, .unset] [(.int zc)])) _
    refine XS.ifNo X4.here hx rfl (hb hby d_jdk_42_method_149_code_30) rfl ((if0 _ _).trans (feq hzc).1) ?_
    show Steps _ _ _ (T4.setTop (mkF m 33 #[.val (.ref a), .val (.ref b), .val (.int (0 : Int32)), .val (.int (2 : Int32)), .val .null, .unset] [])) _
    refine XS.aloadN X4.here hx rfl (hb hby d_jdk_42_method_149_code_33) rfl rfl ?_
    show Steps _ _ _ (T4.setTop (mkF m 34 #[.val (.ref a), .val (.ref b), .val (.int (0 : Int32)), .val (.int (2 : Int32)), .val .null, .unset] [(.ref b)])) _
    refine XS.iloadN X4.here hx rfl (hb hby d_jdk_42_method_149_code_34) rfl ?_
    show Steps _ _ _ (T4.setTop (mkF m 35 #[.val (.ref a), .val (.ref b), .val (.int (0 : Int32)), .val (.int (2 : Int32)), .val .null, .unset] [(.int (0 : Int32)), (.ref b)])) _
    refine XS.iloadN X4.here hx rfl (hb hby d_jdk_42_method_149_code_35) rfl ?_
    show Steps _ _ _ (T4.setTop (mkF m 36 #[.val (.ref a), .val (.ref b), .val (.int (0 : Int32)), .val (.int (2 : Int32)), .val .null, .unset] [(.int (2 : Int32)), (.int (0 : Int32)), (.ref b)])) _
    exact hq)
  obtain ⟨_, T6, L6, X6, ⟨t6, kt6, rfl, Nq6, gt6, Kq6, V6⟩, k6a⟩ := callS' X4 hx hZ (y := (⟨"java/lang/StringUTF16", "compress", "([CII)[B"⟩ : MethodName)) hown (hw _ (List.mem_of_getElem? (i := 91) rfl)) (hw _ (List.mem_of_getElem? (i := 92) rfl)) (hw _ (List.mem_of_getElem? (i := 93) rfl)) (hw _ (List.mem_of_getElem? (i := 94) rfl)) (by decide) (backC (W := 0) (rm_c3_2 l Z a0 hw b kb d0 d1 h0 n0 (by omega) P0 (by omega) hd0 hd1) hZ (hw _ (List.mem_of_getElem? (i := 94) rfl)) (hw _ (List.mem_of_getElem? (i := 93) rfl)) (by decide) (by decide)) e4 (argsL := [(.ref b), (.int (0 : Int32)), (.int (2 : Int32))]) (rest := []) rfl rfl pd_1 rfl (by rw [hml]; rfl) (hb hby d_jdk_42_method_149_code_36) (Nat.le_of_eq rfl) (by decide) (by decide) k5
  have k6 : To p.tables e below S0 (T6.setTop (mkF m 39 #[.val (.ref a), .val (.ref b), .val (.int (0 : Int32)), .val (.int (2 : Int32)), .val .null, .unset] [(.ref t6)])) := k6a
  have N6 := N0.app Nq6
  obtain ⟨h6, e6⟩ : ∃ z, T6.heap = z := ⟨_, rfl⟩
  rw [e6] at Kq6 V6
  have z6 : h0.size ≤ h6.size := Kq6.1
  have y6 : @LT.lt Nat instLTNat t6 h6.size := V6.lt
  have k7 : To p.tables e below S0 (T6.setTop (mkF m 45 #[.val (.ref a), .val (.ref b), .val (.int (0 : Int32)), .val (.int (2 : Int32)), .val .null, .val (.ref t6)] [(.int (2 : Int32)), (.ref t6), (.ref a)])) := fun tt hq => k6 tt (by
    show Steps _ _ _ (T6.setTop (mkF m 39 #[.val (.ref a), .val (.ref b), .val (.int (0 : Int32)), .val (.int (2 : Int32)), .val .null, .unset] [(.ref t6)])) _
    refine XS.astore X6.here hx rfl (hb hby d_jdk_42_method_149_code_39) rfl rfl (l' := #[.val (.ref a), .val (.ref b), .val (.int (0 : Int32)), .val (.int (2 : Int32)), .val .null, .val (.ref t6)]) rfl ?_
    show Steps _ _ _ (T6.setTop (mkF m 41 #[.val (.ref a), .val (.ref b), .val (.int (0 : Int32)), .val (.int (2 : Int32)), .val .null, .val (.ref t6)] [])) _
    refine XS.aloadN X6.here hx rfl (hb hby d_jdk_42_method_149_code_41) rfl rfl ?_
    show Steps _ _ _ (T6.setTop (mkF m 42 #[.val (.ref a), .val (.ref b), .val (.int (0 : Int32)), .val (.int (2 : Int32)), .val .null, .val (.ref t6)] [(.ref a)])) _
    refine XS.aload X6.here hx rfl (hb hby d_jdk_42_method_149_code_42) rfl rfl ?_
    show Steps _ _ _ (T6.setTop (mkF m 44 #[.val (.ref a), .val (.ref b), .val (.int (0 : Int32)), .val (.int (2 : Int32)), .val .null, .val (.ref t6)] [(.ref t6), (.ref a)])) _
    refine XS.iloadN X6.here hx rfl (hb hby d_jdk_42_method_149_code_44) rfl ?_
    show Steps _ _ _ (T6.setTop (mkF m 45 #[.val (.ref a), .val (.ref b), .val (.int (0 : Int32)), .val (.int (2 : Int32)), .val .null, .val (.ref t6)] [(.int (2 : Int32)), (.ref t6), (.ref a)])) _
    exact hq)
  obtain ⟨_, T8, L8, X8, ⟨rfl, Nq8, eq8⟩, k8a⟩ := callS' X6 hx hZ (y := (⟨"java/lang/StringUTF16", "coderFromArrayLen", "([BI)B"⟩ : MethodName)) hown (hw _ (List.mem_of_getElem? (i := 98) rfl)) (hw _ (List.mem_of_getElem? (i := 99) rfl)) (hw _ (List.mem_of_getElem? (i := 93) rfl)) (hw _ (List.mem_of_getElem? (i := 100) rfl)) (by decide) (backC (W := 1) (rm_cl_2 l Z a0 hw t6 kt6 (nar .byte (d0.toInt8.toInt32)) (nar .byte (d1.toInt8.toInt32)) h6 n0 (by omega) V6) hZ (hw _ (List.mem_of_getElem? (i := 100) rfl)) (hw _ (List.mem_of_getElem? (i := 93) rfl)) (by decide) (by decide)) e6 (argsL := [(.ref t6), (.int (2 : Int32))]) (rest := [(.ref a)]) rfl rfl pd_2 rfl (by rw [hml]; rfl) (hb hby d_jdk_42_method_149_code_45) (Nat.le_of_eq rfl) (by decide) (by decide) k7
  have k8 : To p.tables e below S0 (T8.setTop (mkF m 48 #[.val (.ref a), .val (.ref b), .val (.int (0 : Int32)), .val (.int (2 : Int32)), .val .null, .val (.ref t6)] [(.int (0 : Int32)), (.ref a)])) := k8a
  have N8 := N6.app Nq8
  have e8 : T8.heap = h6 := eq8
  have f9 : Exa Z h6 a "java/lang/String" := (E0.keep Kq6)
  have f10 : Fld Z h6 a "java/lang/String" "coder" "B" u2 := (F2.keep Kq6 nin0)
  obtain ⟨T11, h11, X11, e11, W11, st11⟩ := putF X8 hx hZ hown (host := "") (Or.inl (hw _ (List.mem_of_getElem? (i := 25) rfl))) Via.refl e8 f10 f9 (Or.inr ⟨(hw _ (List.mem_of_getElem? (i := 21) rfl)), rfl, hnm⟩) (hw _ (List.mem_of_getElem? (i := 6) rfl)) (ty := .byte) (by decide) rfl rfl (g := (mkF m 48 #[.val (.ref a), .val (.ref b), .val (.int (0 : Int32)), .val (.int (2 : Int32)), .val .null, .val (.ref t6)] [(.int (0 : Int32)), (.ref a)])) rfl rfl (hb hby d_jdk_42_method_149_code_48)
  have k11 : To p.tables e below S0 (T11.setTop (mkF m 51 #[.val (.ref a), .val (.ref b), .val (.int (0 : Int32)), .val (.int (2 : Int32)), .val .null, .val (.ref t6)] [])) := fun tt hq => k8 tt (st11 tt hq)
  have z11 : h11.size = h6.size := W11.size
  have F11 := f10.same W11
  have N11 := Fr.snoc X11 N8 (by omega : n0 ≤ a)
  have f12 : Exa Z h11 a "java/lang/String" := (f9.wr W11)
  have f13 : Fld Z h11 a "java/lang/String" "value" "[B" u1 := ((F1.keep Kq6 nin0).other W11 (Or.inr (slot_ne (Or.inr (hw _ (List.mem_of_getElem? (i := 20) rfl))) (Or.inr (hw _ (List.mem_of_getElem? (i := 21) rfl))) (by decide) (t := (.array .byte)) (t' := .byte) (by decide) (by decide))))
  have k14 : To p.tables e below S0 (T11.setTop (mkF m 54 #[.val (.ref a), .val (.ref b), .val (.int (0 : Int32)), .val (.int (2 : Int32)), .val .null, .val (.ref t6)] [(.ref t6), (.ref a)])) := fun tt hq => k11 tt (by
    show Steps _ _ _ (T11.setTop (mkF m 51 #[.val (.ref a), .val (.ref b), .val (.int (0 : Int32)), .val (.int (2 : Int32)), .val .null, .val (.ref t6)] [])) _
    refine XS.aloadN X11.here hx rfl (hb hby d_jdk_42_method_149_code_51) rfl rfl ?_
    show Steps _ _ _ (T11.setTop (mkF m 52 #[.val (.ref a), .val (.ref b), .val (.int (0 : Int32)), .val (.int (2 : Int32)), .val .null, .val (.ref t6)] [(.ref a)])) _
    refine XS.aload X11.here hx rfl (hb hby d_jdk_42_method_149_code_52) rfl rfl ?_
    show Steps _ _ _ (T11.setTop (mkF m 54 #[.val (.ref a), .val (.ref b), .val (.int (0 : Int32)), .val (.int (2 : Int32)), .val .null, .val (.ref t6)] [(.ref t6), (.ref a)])) _
    exact hq)
  obtain ⟨T15, h15, X15, e15, W15, st15⟩ := putF X11 hx hZ hown (host := "") (Or.inl (hw _ (List.mem_of_getElem? (i := 24) rfl))) Via.refl e11 f13 f12 (Or.inr ⟨(hw _ (List.mem_of_getElem? (i := 20) rfl)), rfl, hnm⟩) (hw _ (List.mem_of_getElem? (i := 6) rfl)) (ty := (.array .byte)) (by decide) rfl rfl (g := (mkF m 54 #[.val (.ref a), .val (.ref b), .val (.int (0 : Int32)), .val (.int (2 : Int32)), .val .null, .val (.ref t6)] [(.ref t6), (.ref a)])) rfl rfl (hb hby d_jdk_42_method_149_code_54)
  have k15 : To p.tables e below S0 (T15.setTop (mkF m 57 #[.val (.ref a), .val (.ref b), .val (.int (0 : Int32)), .val (.int (2 : Int32)), .val .null, .val (.ref t6)] [])) := fun tt hq => k14 tt (st15 tt hq)
  have z15 : h15.size = h11.size := W15.size
  have F15 := f13.same W15
  have N15 := Fr.snoc X15 N11 (by omega : n0 ≤ a)
  have f16 : Exa Z h15 a "java/lang/String" := (f12.wr W15)
  have f17 : Fld Z h15 a "java/lang/String" "coder" "B" (.int (0 : Int32)) := (F11.other W15 (Or.inr (slot_ne (Or.inr (hw _ (List.mem_of_getElem? (i := 21) rfl))) (Or.inr (hw _ (List.mem_of_getElem? (i := 20) rfl))) (by decide) (t := .byte) (t' := (.array .byte)) (by decide) (by decide))))
  have f18 : Arv Z h15 t6 kt6 .byte (2 : Int32) [(.int (nar .byte (d0.toInt8.toInt32))), (.int (nar .byte (d1.toInt8.toInt32)))] (.int (0 : Int32)) := ((V6.other W11 (adr_ne (by omega))).other W15 (adr_ne (by omega)))
  have hE := e15
  refine retVoid X15 hx hret hlk (hb hby d_jdk_42_method_149_code_57) k15 ?_ (by decide) (by decide)
  try rw [hE]
  exact ⟨rfl, N15, ((((Keep.refl h0 [a]).trans Kq6 all0).wr W11 (Or.inl (by simp))).wr W15 (Or.inl (by simp))), t6, kt6, (by omega), f16, F15, f17, f18⟩
set_option maxRecDepth 65536 in
set_option maxHeartbeats 40000000 in
theorem rm_n1_2 (l : Launch) (Z : State) (a0 : Array Value) (hw : ∀ d ∈ tables_1, d.before a0 Z = true) (zc : Int32) (a : Addr) (b : Addr) (kb : ClassId) (u1 : Value) (u2 : Value) (d0 : Int32) (d1 : Int32) (h0 : Heap) (n0 : Nat) (hn0 : n0 ≤ h0.size) (S_c : Sta Z Z.heap "java/lang/String" "COMPACT_STRINGS" "Z" (.int zc)) (hzc : ¬ zc = (0 : Int32)) (O0 : Old Z n0 h0) (E0 : Exa Z h0 a "java/lang/String") (F1 : Fld Z h0 a "java/lang/String" "value" "[B" u1) (F2 : Fld Z h0 a "java/lang/String" "coder" "B" u2) (P0 : Arv Z h0 b kb .char (2 : Int32) [(.int d0), (.int d1)] (.int (0 : Int32))) (ga : n0 ≤ a) (ya : @LT.lt Nat instLTNat a h0.size) (yb : @LT.lt Nat instLTNat b h0.size) (nab : ¬ (@Eq Nat b a)) (hd0 : ¬ d0 < (0 : Int32) ∧ ¬ (255 : Int32) < d0) (hd1 : ¬ d1 < (0 : Int32) ∧ ¬ (255 : Int32) < d1) :
    Con l Z (⟨"java/lang/String", "<init>", "([C)V"⟩ : MethodName) jdk_42_method_3_code 2 none [] ({ frames := 3, cells := 1, slots := 2, locals := 52 } : Room) #[(.ref a), (.ref b)] h0 (fun v h L => v = none ∧ Fr n0 L ∧ Keep h0 h [a] ∧ ∃ (t : Addr) (k : ClassId), h0.size ≤ t ∧ Exa Z h a "java/lang/String" ∧ Fld Z h a "java/lang/String" "value" "[B" (.ref t) ∧ Fld Z h a "java/lang/String" "coder" "B" (.int (0 : Int32)) ∧ Arv Z h t k .byte (2 : Int32) [(.int (nar .byte (d0.toInt8.toInt32))), (.int (nar .byte (d1.toInt8.toInt32)))] (.int (0 : Int32))) := by
  refine enter (Ls := #[.val (.ref a), .val (.ref b)]) (plainFor_of_name pn_1) (fun m => by exact entry_eq rfl) ?_
  intro p e s m below meth cd_ s₁ S0 hx hby hml hret hlk hnm hown hZ X0 e0 k0
  have N0 := Fr.nil n0
  have k1 : To p.tables e below S0 (s₁.setTop (mkF m 4 #[.val (.ref a), .val (.ref b)] [(.ref b), (.int (0 : Int32)), (.ref b), (.ref a)])) := fun tt hq => k0 tt (by
    show Steps _ _ _ (s₁.setTop (mkF m 0 #[.val (.ref a), .val (.ref b)] [])) _
    refine XS.aloadN X0.here hx rfl (hb hby d_jdk_42_method_3_code_0) rfl rfl ?_
    show Steps _ _ _ (s₁.setTop (mkF m 1 #[.val (.ref a), .val (.ref b)] [(.ref a)])) _
    refine XS.aloadN X0.here hx rfl (hb hby d_jdk_42_method_3_code_1) rfl rfl ?_
    show Steps _ _ _ (s₁.setTop (mkF m 2 #[.val (.ref a), .val (.ref b)] [(.ref b), (.ref a)])) _
    refine XS.iconst X0.here hx rfl (hb hby d_jdk_42_method_3_code_2) ?_
    show Steps _ _ _ (s₁.setTop (mkF m 3 #[.val (.ref a), .val (.ref b)] [(.int (0 : Int32)), (.ref b), (.ref a)])) _
    refine XS.aloadN X0.here hx rfl (hb hby d_jdk_42_method_3_code_3) rfl rfl ?_
    show Steps _ _ _ (s₁.setTop (mkF m 4 #[.val (.ref a), .val (.ref b)] [(.ref b), (.int (0 : Int32)), (.ref b), (.ref a)])) _
    exact hq)
  obtain ⟨cl2, Ar2, -, S2, M2, -, -⟩ := id P0
  have st2 := fun tt => X0.arraylength hx (by rw [e0]; exact Ar2.1) (State.isArrayOf_alike hZ.alike Ar2.2.1) (g := (mkF m 4 #[.val (.ref a), .val (.ref b)] [(.ref b), (.int (0 : Int32)), (.ref b), (.ref a)])) rfl rfl (hb hby d_jdk_42_method_3_code_4) tt
  rw [len_of S2 M2] at st2
  have k2 : To p.tables e below S0 (s₁.setTop (mkF m 5 #[.val (.ref a), .val (.ref b)] [(.int (2 : Int32)), (.int (0 : Int32)), (.ref b), (.ref a)])) := fun tt hq => k1 tt (st2 tt hq)
  have k3 : To p.tables e below S0 (s₁.setTop (mkF m 6 #[.val (.ref a), .val (.ref b)] [.null, (.int (2 : Int32)), (.int (0 : Int32)), (.ref b), (.ref a)])) := fun tt hq => k2 tt (by
    show Steps _ _ _ (s₁.setTop (mkF m 5 #[.val (.ref a), .val (.ref b)] [(.int (2 : Int32)), (.int (0 : Int32)), (.ref b), (.ref a)])) _
    refine XS.aconstNull X0.here hx rfl (hb hby d_jdk_42_method_3_code_5) ?_
    show Steps _ _ _ (s₁.setTop (mkF m 6 #[.val (.ref a), .val (.ref b)] [.null, (.int (2 : Int32)), (.int (0 : Int32)), (.ref b), (.ref a)])) _
    exact hq)
  obtain ⟨_, T4, L4, X4, ⟨rfl, Nq4, Kq4, t4, kt4, gt4, P40, P41, P42, P43⟩, k4a⟩ := callC' X0 hx hZ (y := (⟨"java/lang/String", "<init>", "([CIILjava/lang/Void;)V"⟩ : MethodName)) rfl hown (hw _ (List.mem_of_getElem? (i := 11) rfl)) (hw _ (List.mem_of_getElem? (i := 12) rfl)) (hw _ (List.mem_of_getElem? (i := 14) rfl)) (by decide) (backC (W := 0) (rm_n4_2 l Z a0 hw zc a b kb u1 u2 d0 d1 h0 n0 (by omega) S_c hzc O0 E0 F1 F2 P0 (by omega) (by omega) (by omega) (by omega) hd0 hd1) hZ (hw _ (List.mem_of_getElem? (i := 14) rfl)) (hw _ (List.mem_of_getElem? (i := 7) rfl)) (by decide) (by decide)) e0 (argsL := [(.ref b), (.int (0 : Int32)), (.int (2 : Int32)), .null]) (rest := []) rfl rfl pd_3 rfl (by rw [hml]; rfl) (hb hby d_jdk_42_method_3_code_6) (Nat.le_of_eq rfl) (by decide) (by decide) k3
  have k4 : To p.tables e below S0 (T4.setTop (mkF m 9 #[.val (.ref a), .val (.ref b)] [])) := k4a
  have N4 := N0.app Nq4
  obtain ⟨h4, e4⟩ : ∃ z, T4.heap = z := ⟨_, rfl⟩
  rw [e4] at Kq4 P40 P41 P42 P43
  have z4 : h0.size ≤ h4.size := Kq4.1
  have y4 : @LT.lt Nat instLTNat t4 h4.size := P43.lt
  have hE := e4
  refine retVoid X4 hx hret hlk (hb hby d_jdk_42_method_3_code_9) k4 ?_ (by decide) (by decide)
  try rw [hE]
  exact ⟨rfl, N4, ((Keep.refl h0 [a]).trans Kq4 (allS (Or.inl (by simp)) all0)), t4, kt4, (by omega), P40, P41, P42, P43⟩
set_option maxRecDepth 65536 in
set_option maxHeartbeats 40000000 in
theorem rm_c5_3 (l : Launch) (Z : State) (a0 : Array Value) (hw : ∀ d ∈ tables_1, d.before a0 Z = true) (b : Addr) (kb : ClassId) (t : Addr) (kt : ClassId) (d0 : Int32) (d1 : Int32) (d2 : Int32) (h0 : Heap) (n0 : Nat) (hn0 : n0 ≤ h0.size) (P0 : Arv Z h0 b kb .char (3 : Int32) [(.int d0), (.int d1), (.int d2)] (.int (0 : Int32))) (P1 : Arv Z h0 t kt .byte (3 : Int32) [(.int (0 : Int32)), (.int (0 : Int32)), (.int (0 : Int32))] (.int (0 : Int32))) (ga : n0 ≤ t) (nbt : ¬ (@Eq Nat b t)) (hd0 : ¬ d0 < (0 : Int32) ∧ ¬ (255 : Int32) < d0) (hd1 : ¬ d1 < (0 : Int32) ∧ ¬ (255 : Int32) < d1) (hd2 : ¬ d2 < (0 : Int32) ∧ ¬ (255 : Int32) < d2) :
    Con l Z (⟨"java/lang/StringUTF16", "compress", "([CI[BII)I"⟩ : MethodName) jdk_52_method_21_code 7 (some .int) [] ({ frames := 0, cells := 0, slots := 0, locals := 0 } : Room) #[(.ref b), (.int (0 : Int32)), (.ref t), (.int (0 : Int32)), (.int (3 : Int32))] h0 (fun v h L => v = some (.int (3 : Int32)) ∧ Fr n0 L ∧ Keep h0 h [t] ∧ Arv Z h t kt .byte (3 : Int32) [(.int (nar .byte (d0.toInt8.toInt32))), (.int (nar .byte (d1.toInt8.toInt32))), (.int (nar .byte (d2.toInt8.toInt32)))] (.int (0 : Int32))) := by
  refine enter (Ls := #[.val (.ref b), .val (.int (0 : Int32)), .val (.ref t), .val (.int (0 : Int32)), .val (.int (3 : Int32)), .unset, .unset]) (plainFor_of_name pn_0) (fun m => by exact entry_eq rfl) ?_
  intro p e s m below meth cd_ s₁ S0 hx hby hml hret hlk hnm hown hZ X0 e0 k0
  have N0 := Fr.nil n0
  have k1 : To p.tables e below S0 (s₁.setTop (mkF m 12 #[.val (.ref b), .val (.int (0 : Int32)), .val (.ref t), .val (.int (0 : Int32)), .val (.int (3 : Int32)), .val (.int (0 : Int32)), .unset] [(.int (0 : Int32)), (.ref b)])) := fun tt hq => k0 tt (by
    show Steps _ _ _ (s₁.setTop (mkF m 0 #[.val (.ref b), .val (.int (0 : Int32)), .val (.ref t), .val (.int (0 : Int32)), .val (.int (3 : Int32)), .unset, .unset] [])) _
    refine XS.iconst X0.here hx rfl (hb hby d_jdk_52_method_21_code_0) ?_
    show Steps _ _ _ (s₁.setTop (mkF m 1 #[.val (.ref b), .val (.int (0 : Int32)), .val (.ref t), .val (.int (0 : Int32)), .val (.int (3 : Int32)), .unset, .unset] [(.int (0 : Int32))])) _
    refine XS.istore X0.here hx rfl (hb hby d_jdk_52_method_21_code_1) rfl (l' := #[.val (.ref b), .val (.int (0 : Int32)), .val (.ref t), .val (.int (0 : Int32)), .val (.int (3 : Int32)), .val (.int (0 : Int32)), .unset]) rfl ?_
    show Steps _ _ _ (s₁.setTop (mkF m 3 #[.val (.ref b), .val (.int (0 : Int32)), .val (.ref t), .val (.int (0 : Int32)), .val (.int (3 : Int32)), .val (.int (0 : Int32)), .unset] [])) _
    refine XS.iload X0.here hx rfl (hb hby d_jdk_52_method_21_code_3) rfl ?_
    show Steps _ _ _ (s₁.setTop (mkF m 5 #[.val (.ref b), .val (.int (0 : Int32)), .val (.ref t), .val (.int (0 : Int32)), .val (.int (3 : Int32)), .val (.int (0 : Int32)), .unset] [(.int (0 : Int32))])) _
    refine XS.iload X0.here hx rfl (hb hby d_jdk_52_method_21_code_5) rfl ?_
    show Steps _ _ _ (s₁.setTop (mkF m 7 #[.val (.ref b), .val (.int (0 : Int32)), .val (.ref t), .val (.int (0 : Int32)), .val (.int (3 : Int32)), .val (.int (0 : Int32)), .unset] [(.int (3 : Int32)), (.int (0 : Int32))])) _
    refine XS.icmpNo X0.here hx rfl (hb hby d_jdk_52_method_21_code_7) rfl (tlt (by decide)).2.1 ?_
    show Steps _ _ _ (s₁.setTop (mkF m 10 #[.val (.ref b), .val (.int (0 : Int32)), .val (.ref t), .val (.int (0 : Int32)), .val (.int (3 : Int32)), .val (.int (0 : Int32)), .unset] [])) _
    refine XS.aloadN X0.here hx rfl (hb hby d_jdk_52_method_21_code_10) rfl rfl ?_
    show Steps _ _ _ (s₁.setTop (mkF m 11 #[.val (.ref b), .val (.int (0 : Int32)), .val (.ref t), .val (.int (0 : Int32)), .val (.int (3 : Int32)), .val (.int (0 : Int32)), .unset] [(.ref b)])) _
    refine XS.iloadN X0.here hx rfl (hb hby d_jdk_52_method_21_code_11) rfl ?_
    show Steps _ _ _ (s₁.setTop (mkF m 12 #[.val (.ref b), .val (.int (0 : Int32)), .val (.ref t), .val (.int (0 : Int32)), .val (.int (3 : Int32)), .val (.int (0 : Int32)), .unset] [(.int (0 : Int32)), (.ref b)])) _
    exact hq)
  obtain ⟨cl2, Ar2, -, S2, -, G2, -⟩ := id P0
  have hi2 := inb_of (j := (0 : Int32)) S2 ⟨by decide, by decide⟩
  have st2 := fun tt => X0.caload hx (j := (0 : Int32)) (v := (.int d0)) (by rw [e0]; exact Ar2.1) (State.isArrayOf_alike hZ.alike Ar2.2.1) Ar2.2.2 hi2 (G2.at hi2 rfl) (g := (mkF m 12 #[.val (.ref b), .val (.int (0 : Int32)), .val (.ref t), .val (.int (0 : Int32)), .val (.int (3 : Int32)), .val (.int (0 : Int32)), .unset] [(.int (0 : Int32)), (.ref b)])) rfl rfl (hb hby d_jdk_52_method_21_code_12) tt
  have k2 : To p.tables e below S0 (s₁.setTop (mkF m 13 #[.val (.ref b), .val (.int (0 : Int32)), .val (.ref t), .val (.int (0 : Int32)), .val (.int (3 : Int32)), .val (.int (0 : Int32)), .unset] [(.int d0)])) := fun tt hq => k1 tt (st2 tt hq)
  have k3 : To p.tables e below S0 (s₁.setTop (mkF m 31 #[.val (.ref b), .val (.int (0 : Int32)), .val (.ref t), .val (.int (0 : Int32)), .val (.int (3 : Int32)), .val (.int (0 : Int32)), .val (.int d0)] [(.int (d0.toInt8.toInt32)), (.int (0 : Int32)), (.ref t)])) := fun tt hq => k2 tt (by
    show Steps _ _ _ (s₁.setTop (mkF m 13 #[.val (.ref b), .val (.int (0 : Int32)), .val (.ref t), .val (.int (0 : Int32)), .val (.int (3 : Int32)), .val (.int (0 : Int32)), .unset] [(.int d0)])) _
    refine XS.istore X0.here hx rfl (hb hby d_jdk_52_method_21_code_13) rfl (l' := #[.val (.ref b), .val (.int (0 : Int32)), .val (.ref t), .val (.int (0 : Int32)), .val (.int (3 : Int32)), .val (.int (0 : Int32)), .val (.int d0)]) rfl ?_
    show Steps _ _ _ (s₁.setTop (mkF m 15 #[.val (.ref b), .val (.int (0 : Int32)), .val (.ref t), .val (.int (0 : Int32)), .val (.int (3 : Int32)), .val (.int (0 : Int32)), .val (.int d0)] [])) _
    refine XS.iload X0.here hx rfl (hb hby d_jdk_52_method_21_code_15) rfl ?_
    show Steps _ _ _ (s₁.setTop (mkF m 17 #[.val (.ref b), .val (.int (0 : Int32)), .val (.ref t), .val (.int (0 : Int32)), .val (.int (3 : Int32)), .val (.int (0 : Int32)), .val (.int d0)] [(.int d0)])) _
    refine XS.sipush X0.here hx rfl (hb hby d_jdk_52_method_21_code_17) ?_
    show Steps _ _ _ (s₁.setTop (mkF m 20 #[.val (.ref b), .val (.int (0 : Int32)), .val (.ref t), .val (.int (0 : Int32)), .val (.int (3 : Int32)), .val (.int (0 : Int32)), .val (.int d0)] [(.int (255 : Int32)), (.int d0)])) _
    refine XS.icmpYes X0.here hx rfl (pc0 := 20) (pc' := 26) rfl (hb hby d_jdk_52_method_21_code_20) rfl (flt hd0.2).2.2.2 (by decide) (by decide) ?_
    show Steps _ _ _ (s₁.setTop (mkF m 26 #[.val (.ref b), .val (.int (0 : Int32)), .val (.ref t), .val (.int (0 : Int32)), .val (.int (3 : Int32)), .val (.int (0 : Int32)), .val (.int d0)] [])) _
    refine XS.aloadN X0.here hx rfl (hb hby d_jdk_52_method_21_code_26) rfl rfl ?_
    show Steps _ _ _ (s₁.setTop (mkF m 27 #[.val (.ref b), .val (.int (0 : Int32)), .val (.ref t), .val (.int (0 : Int32)), .val (.int (3 : Int32)), .val (.int (0 : Int32)), .val (.int d0)] [(.ref t)])) _
    refine XS.iloadN X0.here hx rfl (hb hby d_jdk_52_method_21_code_27) rfl ?_
    show Steps _ _ _ (s₁.setTop (mkF m 28 #[.val (.ref b), .val (.int (0 : Int32)), .val (.ref t), .val (.int (0 : Int32)), .val (.int (3 : Int32)), .val (.int (0 : Int32)), .val (.int d0)] [(.int (0 : Int32)), (.ref t)])) _
    refine XS.iload X0.here hx rfl (hb hby d_jdk_52_method_21_code_28) rfl ?_
    show Steps _ _ _ (s₁.setTop (mkF m 30 #[.val (.ref b), .val (.int (0 : Int32)), .val (.ref t), .val (.int (0 : Int32)), .val (.int (3 : Int32)), .val (.int (0 : Int32)), .val (.int d0)] [(.int d0), (.int (0 : Int32)), (.ref t)])) _
    refine XS.i2b X0.here hx rfl (hb hby d_jdk_52_method_21_code_30) rfl ?_
    show Steps _ _ _ (s₁.setTop (mkF m 31 #[.val (.ref b), .val (.int (0 : Int32)), .val (.ref t), .val (.int (0 : Int32)), .val (.int (3 : Int32)), .val (.int (0 : Int32)), .val (.int d0)] [(.int (d0.toInt8.toInt32)), (.int (0 : Int32)), (.ref t)])) _
    exact hq)
  obtain ⟨cl4, Ar4, q4, S4, M4, G4, J4⟩ := id P1
  obtain ⟨T4, h4, X4, e4, W4, st4⟩ := stB X0 hx hZ e0 Ar4 (j := (0 : Int32)) (inb_of S4 ⟨by decide, by decide⟩) (g := (mkF m 31 #[.val (.ref b), .val (.int (0 : Int32)), .val (.ref t), .val (.int (0 : Int32)), .val (.int (3 : Int32)), .val (.int (0 : Int32)), .val (.int d0)] [(.int (d0.toInt8.toInt32)), (.int (0 : Int32)), (.ref t)])) rfl rfl (hb hby d_jdk_52_method_21_code_31)
  have k4 : To p.tables e below S0 (T4.setTop (mkF m 32 #[.val (.ref b), .val (.int (0 : Int32)), .val (.ref t), .val (.int (0 : Int32)), .val (.int (3 : Int32)), .val (.int (0 : Int32)), .val (.int d0)] [])) := fun tt hq => k3 tt (st4 tt hq)
  have z4 : h4.size = h0.size := W4.size
  have V4 : Arv Z h4 t kt .byte (3 : Int32) [(.int (nar .byte (d0.toInt8.toInt32))), (.int (0 : Int32)), (.int (0 : Int32))] (.int (0 : Int32)) := Arv.set Ar4 q4 S4 M4 G4 J4 (fits_nar_byte _) W4 0 rfl (Nat.le_of_ble_eq_true rfl)
  have N4 := Fr.snoc X4 N0 (by omega : n0 ≤ t)
  have f5 : Arv Z h4 b kb .char (3 : Int32) [(.int d0), (.int d1), (.int d2)] (.int (0 : Int32)) := (P0.other W4 (adr_ne (by omega)))
  have k6 : To p.tables e below S0 (T4.setTop (mkF m 12 #[.val (.ref b), .val (.int (1 : Int32)), .val (.ref t), .val (.int (1 : Int32)), .val (.int (3 : Int32)), .val (.int (1 : Int32)), .val (.int d0)] [(.int (1 : Int32)), (.ref b)])) := fun tt hq => k4 tt (by
    show Steps _ _ _ (T4.setTop (mkF m 32 #[.val (.ref b), .val (.int (0 : Int32)), .val (.ref t), .val (.int (0 : Int32)), .val (.int (3 : Int32)), .val (.int (0 : Int32)), .val (.int d0)] [])) _
    refine XS.iinc X4.here hx rfl (hb hby d_jdk_52_method_21_code_32) rfl (l' := #[.val (.ref b), .val (.int (1 : Int32)), .val (.ref t), .val (.int (0 : Int32)), .val (.int (3 : Int32)), .val (.int (0 : Int32)), .val (.int d0)]) rfl ?_
    show Steps _ _ _ (T4.setTop (mkF m 35 #[.val (.ref b), .val (.int (1 : Int32)), .val (.ref t), .val (.int (0 : Int32)), .val (.int (3 : Int32)), .val (.int (0 : Int32)), .val (.int d0)] [])) _
    refine XS.iinc X4.here hx rfl (hb hby d_jdk_52_method_21_code_35) rfl (l' := #[.val (.ref b), .val (.int (1 : Int32)), .val (.ref t), .val (.int (1 : Int32)), .val (.int (3 : Int32)), .val (.int (0 : Int32)), .val (.int d0)]) rfl ?_
    show Steps _ _ _ (T4.setTop (mkF m 38 #[.val (.ref b), .val (.int (1 : Int32)), .val (.ref t), .val (.int (1 : Int32)), .val (.int (3 : Int32)), .val (.int (0 : Int32)), .val (.int d0)] [])) _
    refine XS.iinc X4.here hx rfl (hb hby d_jdk_52_method_21_code_38) rfl (l' := #[.val (.ref b), .val (.int (1 : Int32)), .val (.ref t), .val (.int (1 : Int32)), .val (.int (3 : Int32)), .val (.int (1 : Int32)), .val (.int d0)]) rfl ?_
    show Steps _ _ _ (T4.setTop (mkF m 41 #[.val (.ref b), .val (.int (1 : Int32)), .val (.ref t), .val (.int (1 : Int32)), .val (.int (3 : Int32)), .val (.int (1 : Int32)), .val (.int d0)] [])) _
    refine XS.goto X4.here hx rfl (pc0 := 41) (pc' := 3) rfl (hb hby d_jdk_52_method_21_code_41) (by decide) (by decide) ?_
    show Steps _ _ _ (T4.setTop (mkF m 3 #[.val (.ref b), .val (.int (1 : Int32)), .val (.ref t), .val (.int (1 : Int32)), .val (.int (3 : Int32)), .val (.int (1 : Int32)), .val (.int d0)] [])) _
    refine XS.iload X4.here hx rfl (hb hby d_jdk_52_method_21_code_3) rfl ?_
    show Steps _ _ _ (T4.setTop (mkF m 5 #[.val (.ref b), .val (.int (1 : Int32)), .val (.ref t), .val (.int (1 : Int32)), .val (.int (3 : Int32)), .val (.int (1 : Int32)), .val (.int d0)] [(.int (1 : Int32))])) _
    refine XS.iload X4.here hx rfl (hb hby d_jdk_52_method_21_code_5) rfl ?_
    show Steps _ _ _ (T4.setTop (mkF m 7 #[.val (.ref b), .val (.int (1 : Int32)), .val (.ref t), .val (.int (1 : Int32)), .val (.int (3 : Int32)), .val (.int (1 : Int32)), .val (.int d0)] [(.int (3 : Int32)), (.int (1 : Int32))])) _
    refine XS.icmpNo X4.here hx rfl (hb hby d_jdk_52_method_21_code_7) rfl (tlt (by decide)).2.1 ?_
    show Steps _ _ _ (T4.setTop (mkF m 10 #[.val (.ref b), .val (.int (1 : Int32)), .val (.ref t), .val (.int (1 : Int32)), .val (.int (3 : Int32)), .val (.int (1 : Int32)), .val (.int d0)] [])) _
    refine XS.aloadN X4.here hx rfl (hb hby d_jdk_52_method_21_code_10) rfl rfl ?_
    show Steps _ _ _ (T4.setTop (mkF m 11 #[.val (.ref b), .val (.int (1 : Int32)), .val (.ref t), .val (.int (1 : Int32)), .val (.int (3 : Int32)), .val (.int (1 : Int32)), .val (.int d0)] [(.ref b)])) _
    refine XS.iloadN X4.here hx rfl (hb hby d_jdk_52_method_21_code_11) rfl ?_
    show Steps _ _ _ (T4.setTop (mkF m 12 #[.val (.ref b), .val (.int (1 : Int32)), .val (.ref t), .val (.int (1 : Int32)), .val (.int (3 : Int32)), .val (.int (1 : Int32)), .val (.int d0)] [(.int (1 : Int32)), (.ref b)])) _
    exact hq)
  obtain ⟨cl7, Ar7, -, S7, -, G7, -⟩ := id f5
  have hi7 := inb_of (j := (1 : Int32)) S7 ⟨by decide, by decide⟩
  have st7 := fun tt => X4.caload hx (j := (1 : Int32)) (v := (.int d1)) (by rw [e4]; exact Ar7.1) (State.isArrayOf_alike hZ.alike Ar7.2.1) Ar7.2.2 hi7 (G7.at hi7 rfl) (g := (mkF m 12 #[.val (.ref b), .val (.int (1 : Int32)), .val (.ref t), .val (.int (1 : Int32)), .val (.int (3 : Int32)), .val (.int (1 : Int32)), .val (.int d0)] [(.int (1 : Int32)), (.ref b)])) rfl rfl (hb hby d_jdk_52_method_21_code_12) tt
  have k7 : To p.tables e below S0 (T4.setTop (mkF m 13 #[.val (.ref b), .val (.int (1 : Int32)), .val (.ref t), .val (.int (1 : Int32)), .val (.int (3 : Int32)), .val (.int (1 : Int32)), .val (.int d0)] [(.int d1)])) := fun tt hq => k6 tt (st7 tt hq)
  have k8 : To p.tables e below S0 (T4.setTop (mkF m 31 #[.val (.ref b), .val (.int (1 : Int32)), .val (.ref t), .val (.int (1 : Int32)), .val (.int (3 : Int32)), .val (.int (1 : Int32)), .val (.int d1)] [(.int (d1.toInt8.toInt32)), (.int (1 : Int32)), (.ref t)])) := fun tt hq => k7 tt (by
    show Steps _ _ _ (T4.setTop (mkF m 13 #[.val (.ref b), .val (.int (1 : Int32)), .val (.ref t), .val (.int (1 : Int32)), .val (.int (3 : Int32)), .val (.int (1 : Int32)), .val (.int d0)] [(.int d1)])) _
    refine XS.istore X4.here hx rfl (hb hby d_jdk_52_method_21_code_13) rfl (l' := #[.val (.ref b), .val (.int (1 : Int32)), .val (.ref t), .val (.int (1 : Int32)), .val (.int (3 : Int32)), .val (.int (1 : Int32)), .val (.int d1)]) rfl ?_
    show Steps _ _ _ (T4.setTop (mkF m 15 #[.val (.ref b), .val (.int (1 : Int32)), .val (.ref t), .val (.int (1 : Int32)), .val (.int (3 : Int32)), .val (.int (1 : Int32)), .val (.int d1)] [])) _
    refine XS.iload X4.here hx rfl (hb hby d_jdk_52_method_21_code_15) rfl ?_
    show Steps _ _ _ (T4.setTop (mkF m 17 #[.val (.ref b), .val (.int (1 : Int32)), .val (.ref t), .val (.int (1 : Int32)), .val (.int (3 : Int32)), .val (.int (1 : Int32)), .val (.int d1)] [(.int d1)])) _
    refine XS.sipush X4.here hx rfl (hb hby d_jdk_52_method_21_code_17) ?_
    show Steps _ _ _ (T4.setTop (mkF m 20 #[.val (.ref b), .val (.int (1 : Int32)), .val (.ref t), .val (.int (1 : Int32)), .val (.int (3 : Int32)), .val (.int (1 : Int32)), .val (.int d1)] [(.int (255 : Int32)), (.int d1)])) _
    refine XS.icmpYes X4.here hx rfl (pc0 := 20) (pc' := 26) rfl (hb hby d_jdk_52_method_21_code_20) rfl (flt hd1.2).2.2.2 (by decide) (by decide) ?_
    show Steps _ _ _ (T4.setTop (mkF m 26 #[.val (.ref b), .val (.int (1 : Int32)), .val (.ref t), .val (.int (1 : Int32)), .val (.int (3 : Int32)), .val (.int (1 : Int32)), .val (.int d1)] [])) _
    refine XS.aloadN X4.here hx rfl (hb hby d_jdk_52_method_21_code_26) rfl rfl ?_
    show Steps _ _ _ (T4.setTop (mkF m 27 #[.val (.ref b), .val (.int (1 : Int32)), .val (.ref t), .val (.int (1 : Int32)), .val (.int (3 : Int32)), .val (.int (1 : Int32)), .val (.int d1)] [(.ref t)])) _
    refine XS.iloadN X4.here hx rfl (hb hby d_jdk_52_method_21_code_27) rfl ?_
    show Steps _ _ _ (T4.setTop (mkF m 28 #[.val (.ref b), .val (.int (1 : Int32)), .val (.ref t), .val (.int (1 : Int32)), .val (.int (3 : Int32)), .val (.int (1 : Int32)), .val (.int d1)] [(.int (1 : Int32)), (.ref t)])) _
    refine XS.iload X4.here hx rfl (hb hby d_jdk_52_method_21_code_28) rfl ?_
    show Steps _ _ _ (T4.setTop (mkF m 30 #[.val (.ref b), .val (.int (1 : Int32)), .val (.ref t), .val (.int (1 : Int32)), .val (.int (3 : Int32)), .val (.int (1 : Int32)), .val (.int d1)] [(.int d1), (.int (1 : Int32)), (.ref t)])) _
    refine XS.i2b X4.here hx rfl (hb hby d_jdk_52_method_21_code_30) rfl ?_
    show Steps _ _ _ (T4.setTop (mkF m 31 #[.val (.ref b), .val (.int (1 : Int32)), .val (.ref t), .val (.int (1 : Int32)), .val (.int (3 : Int32)), .val (.int (1 : Int32)), .val (.int d1)] [(.int (d1.toInt8.toInt32)), (.int (1 : Int32)), (.ref t)])) _
    exact hq)
  obtain ⟨cl9, Ar9, q9, S9, M9, G9, J9⟩ := id V4
  obtain ⟨T9, h9, X9, e9, W9, st9⟩ := stB X4 hx hZ e4 Ar9 (j := (1 : Int32)) (inb_of S9 ⟨by decide, by decide⟩) (g := (mkF m 31 #[.val (.ref b), .val (.int (1 : Int32)), .val (.ref t), .val (.int (1 : Int32)), .val (.int (3 : Int32)), .val (.int (1 : Int32)), .val (.int d1)] [(.int (d1.toInt8.toInt32)), (.int (1 : Int32)), (.ref t)])) rfl rfl (hb hby d_jdk_52_method_21_code_31)
  have k9 : To p.tables e below S0 (T9.setTop (mkF m 32 #[.val (.ref b), .val (.int (1 : Int32)), .val (.ref t), .val (.int (1 : Int32)), .val (.int (3 : Int32)), .val (.int (1 : Int32)), .val (.int d1)] [])) := fun tt hq => k8 tt (st9 tt hq)
  have z9 : h9.size = h4.size := W9.size
  have V9 : Arv Z h9 t kt .byte (3 : Int32) [(.int (nar .byte (d0.toInt8.toInt32))), (.int (nar .byte (d1.toInt8.toInt32))), (.int (0 : Int32))] (.int (0 : Int32)) := Arv.set Ar9 q9 S9 M9 G9 J9 (fits_nar_byte _) W9 1 rfl (Nat.le_of_ble_eq_true rfl)
  have N9 := Fr.snoc X9 N4 (by omega : n0 ≤ t)
  have f10 : Arv Z h9 b kb .char (3 : Int32) [(.int d0), (.int d1), (.int d2)] (.int (0 : Int32)) := (f5.other W9 (adr_ne (by omega)))
  have k11 : To p.tables e below S0 (T9.setTop (mkF m 12 #[.val (.ref b), .val (.int (2 : Int32)), .val (.ref t), .val (.int (2 : Int32)), .val (.int (3 : Int32)), .val (.int (2 : Int32)), .val (.int d1)] [(.int (2 : Int32)), (.ref b)])) := fun tt hq => k9 tt (by
    show Steps _ _ _ (T9.setTop (mkF m 32 #[.val (.ref b), .val (.int (1 : Int32)), .val (.ref t), .val (.int (1 : Int32)), .val (.int (3 : Int32)), .val (.int (1 : Int32)), .val (.int d1)] [])) _
    refine XS.iinc X9.here hx rfl (hb hby d_jdk_52_method_21_code_32) rfl (l' := #[.val (.ref b), .val (.int (2 : Int32)), .val (.ref t), .val (.int (1 : Int32)), .val (.int (3 : Int32)), .val (.int (1 : Int32)), .val (.int d1)]) rfl ?_
    show Steps _ _ _ (T9.setTop (mkF m 35 #[.val (.ref b), .val (.int (2 : Int32)), .val (.ref t), .val (.int (1 : Int32)), .val (.int (3 : Int32)), .val (.int (1 : Int32)), .val (.int d1)] [])) _
    refine XS.iinc X9.here hx rfl (hb hby d_jdk_52_method_21_code_35) rfl (l' := #[.val (.ref b), .val (.int (2 : Int32)), .val (.ref t), .val (.int (2 : Int32)), .val (.int (3 : Int32)), .val (.int (1 : Int32)), .val (.int d1)]) rfl ?_
    show Steps _ _ _ (T9.setTop (mkF m 38 #[.val (.ref b), .val (.int (2 : Int32)), .val (.ref t), .val (.int (2 : Int32)), .val (.int (3 : Int32)), .val (.int (1 : Int32)), .val (.int d1)] [])) _
    refine XS.iinc X9.here hx rfl (hb hby d_jdk_52_method_21_code_38) rfl (l' := #[.val (.ref b), .val (.int (2 : Int32)), .val (.ref t), .val (.int (2 : Int32)), .val (.int (3 : Int32)), .val (.int (2 : Int32)), .val (.int d1)]) rfl ?_
    show Steps _ _ _ (T9.setTop (mkF m 41 #[.val (.ref b), .val (.int (2 : Int32)), .val (.ref t), .val (.int (2 : Int32)), .val (.int (3 : Int32)), .val (.int (2 : Int32)), .val (.int d1)] [])) _
    refine XS.goto X9.here hx rfl (pc0 := 41) (pc' := 3) rfl (hb hby d_jdk_52_method_21_code_41) (by decide) (by decide) ?_
    show Steps _ _ _ (T9.setTop (mkF m 3 #[.val (.ref b), .val (.int (2 : Int32)), .val (.ref t), .val (.int (2 : Int32)), .val (.int (3 : Int32)), .val (.int (2 : Int32)), .val (.int d1)] [])) _
    refine XS.iload X9.here hx rfl (hb hby d_jdk_52_method_21_code_3) rfl ?_
    show Steps _ _ _ (T9.setTop (mkF m 5 #[.val (.ref b), .val (.int (2 : Int32)), .val (.ref t), .val (.int (2 : Int32)), .val (.int (3 : Int32)), .val (.int (2 : Int32)), .val (.int d1)] [(.int (2 : Int32))])) _
    refine XS.iload X9.here hx rfl (hb hby d_jdk_52_method_21_code_5) rfl ?_
    show Steps _ _ _ (T9.setTop (mkF m 7 #[.val (.ref b), .val (.int (2 : Int32)), .val (.ref t), .val (.int (2 : Int32)), .val (.int (3 : Int32)), .val (.int (2 : Int32)), .val (.int d1)] [(.int (3 : Int32)), (.int (2 : Int32))])) _
    refine XS.icmpNo X9.here hx rfl (hb hby d_jdk_52_method_21_code_7) rfl (tlt (by decide)).2.1 ?_
    show Steps _ _ _ (T9.setTop (mkF m 10 #[.val (.ref b), .val (.int (2 : Int32)), .val (.ref t), .val (.int (2 : Int32)), .val (.int (3 : Int32)), .val (.int (2 : Int32)), .val (.int d1)] [])) _
    refine XS.aloadN X9.here hx rfl (hb hby d_jdk_52_method_21_code_10) rfl rfl ?_
    show Steps _ _ _ (T9.setTop (mkF m 11 #[.val (.ref b), .val (.int (2 : Int32)), .val (.ref t), .val (.int (2 : Int32)), .val (.int (3 : Int32)), .val (.int (2 : Int32)), .val (.int d1)] [(.ref b)])) _
    refine XS.iloadN X9.here hx rfl (hb hby d_jdk_52_method_21_code_11) rfl ?_
    show Steps _ _ _ (T9.setTop (mkF m 12 #[.val (.ref b), .val (.int (2 : Int32)), .val (.ref t), .val (.int (2 : Int32)), .val (.int (3 : Int32)), .val (.int (2 : Int32)), .val (.int d1)] [(.int (2 : Int32)), (.ref b)])) _
    exact hq)
  obtain ⟨cl12, Ar12, -, S12, -, G12, -⟩ := id f10
  have hi12 := inb_of (j := (2 : Int32)) S12 ⟨by decide, by decide⟩
  have st12 := fun tt => X9.caload hx (j := (2 : Int32)) (v := (.int d2)) (by rw [e9]; exact Ar12.1) (State.isArrayOf_alike hZ.alike Ar12.2.1) Ar12.2.2 hi12 (G12.at hi12 rfl) (g := (mkF m 12 #[.val (.ref b), .val (.int (2 : Int32)), .val (.ref t), .val (.int (2 : Int32)), .val (.int (3 : Int32)), .val (.int (2 : Int32)), .val (.int d1)] [(.int (2 : Int32)), (.ref b)])) rfl rfl (hb hby d_jdk_52_method_21_code_12) tt
  have k12 : To p.tables e below S0 (T9.setTop (mkF m 13 #[.val (.ref b), .val (.int (2 : Int32)), .val (.ref t), .val (.int (2 : Int32)), .val (.int (3 : Int32)), .val (.int (2 : Int32)), .val (.int d1)] [(.int d2)])) := fun tt hq => k11 tt (st12 tt hq)
  have k13 : To p.tables e below S0 (T9.setTop (mkF m 31 #[.val (.ref b), .val (.int (2 : Int32)), .val (.ref t), .val (.int (2 : Int32)), .val (.int (3 : Int32)), .val (.int (2 : Int32)), .val (.int d2)] [(.int (d2.toInt8.toInt32)), (.int (2 : Int32)), (.ref t)])) := fun tt hq => k12 tt (by
    show Steps _ _ _ (T9.setTop (mkF m 13 #[.val (.ref b), .val (.int (2 : Int32)), .val (.ref t), .val (.int (2 : Int32)), .val (.int (3 : Int32)), .val (.int (2 : Int32)), .val (.int d1)] [(.int d2)])) _
    refine XS.istore X9.here hx rfl (hb hby d_jdk_52_method_21_code_13) rfl (l' := #[.val (.ref b), .val (.int (2 : Int32)), .val (.ref t), .val (.int (2 : Int32)), .val (.int (3 : Int32)), .val (.int (2 : Int32)), .val (.int d2)]) rfl ?_
    show Steps _ _ _ (T9.setTop (mkF m 15 #[.val (.ref b), .val (.int (2 : Int32)), .val (.ref t), .val (.int (2 : Int32)), .val (.int (3 : Int32)), .val (.int (2 : Int32)), .val (.int d2)] [])) _
    refine XS.iload X9.here hx rfl (hb hby d_jdk_52_method_21_code_15) rfl ?_
    show Steps _ _ _ (T9.setTop (mkF m 17 #[.val (.ref b), .val (.int (2 : Int32)), .val (.ref t), .val (.int (2 : Int32)), .val (.int (3 : Int32)), .val (.int (2 : Int32)), .val (.int d2)] [(.int d2)])) _
    refine XS.sipush X9.here hx rfl (hb hby d_jdk_52_method_21_code_17) ?_
    show Steps _ _ _ (T9.setTop (mkF m 20 #[.val (.ref b), .val (.int (2 : Int32)), .val (.ref t), .val (.int (2 : Int32)), .val (.int (3 : Int32)), .val (.int (2 : Int32)), .val (.int d2)] [(.int (255 : Int32)), (.int d2)])) _
    refine XS.icmpYes X9.here hx rfl (pc0 := 20) (pc' := 26) rfl (hb hby d_jdk_52_method_21_code_20) rfl (flt hd2.2).2.2.2 (by decide) (by decide) ?_
    show Steps _ _ _ (T9.setTop (mkF m 26 #[.val (.ref b), .val (.int (2 : Int32)), .val (.ref t), .val (.int (2 : Int32)), .val (.int (3 : Int32)), .val (.int (2 : Int32)), .val (.int d2)] [])) _
    refine XS.aloadN X9.here hx rfl (hb hby d_jdk_52_method_21_code_26) rfl rfl ?_
    show Steps _ _ _ (T9.setTop (mkF m 27 #[.val (.ref b), .val (.int (2 : Int32)), .val (.ref t), .val (.int (2 : Int32)), .val (.int (3 : Int32)), .val (.int (2 : Int32)), .val (.int d2)] [(.ref t)])) _
    refine XS.iloadN X9.here hx rfl (hb hby d_jdk_52_method_21_code_27) rfl ?_
    show Steps _ _ _ (T9.setTop (mkF m 28 #[.val (.ref b), .val (.int (2 : Int32)), .val (.ref t), .val (.int (2 : Int32)), .val (.int (3 : Int32)), .val (.int (2 : Int32)), .val (.int d2)] [(.int (2 : Int32)), (.ref t)])) _
    refine XS.iload X9.here hx rfl (hb hby d_jdk_52_method_21_code_28) rfl ?_
    show Steps _ _ _ (T9.setTop (mkF m 30 #[.val (.ref b), .val (.int (2 : Int32)), .val (.ref t), .val (.int (2 : Int32)), .val (.int (3 : Int32)), .val (.int (2 : Int32)), .val (.int d2)] [(.int d2), (.int (2 : Int32)), (.ref t)])) _
    refine XS.i2b X9.here hx rfl (hb hby d_jdk_52_method_21_code_30) rfl ?_
    show Steps _ _ _ (T9.setTop (mkF m 31 #[.val (.ref b), .val (.int (2 : Int32)), .val (.ref t), .val (.int (2 : Int32)), .val (.int (3 : Int32)), .val (.int (2 : Int32)), .val (.int d2)] [(.int (d2.toInt8.toInt32)), (.int (2 : Int32)), (.ref t)])) _
    exact hq)
  obtain ⟨cl14, Ar14, q14, S14, M14, G14, J14⟩ := id V9
  obtain ⟨T14, h14, X14, e14, W14, st14⟩ := stB X9 hx hZ e9 Ar14 (j := (2 : Int32)) (inb_of S14 ⟨by decide, by decide⟩) (g := (mkF m 31 #[.val (.ref b), .val (.int (2 : Int32)), .val (.ref t), .val (.int (2 : Int32)), .val (.int (3 : Int32)), .val (.int (2 : Int32)), .val (.int d2)] [(.int (d2.toInt8.toInt32)), (.int (2 : Int32)), (.ref t)])) rfl rfl (hb hby d_jdk_52_method_21_code_31)
  have k14 : To p.tables e below S0 (T14.setTop (mkF m 32 #[.val (.ref b), .val (.int (2 : Int32)), .val (.ref t), .val (.int (2 : Int32)), .val (.int (3 : Int32)), .val (.int (2 : Int32)), .val (.int d2)] [])) := fun tt hq => k13 tt (st14 tt hq)
  have z14 : h14.size = h9.size := W14.size
  have V14 : Arv Z h14 t kt .byte (3 : Int32) [(.int (nar .byte (d0.toInt8.toInt32))), (.int (nar .byte (d1.toInt8.toInt32))), (.int (nar .byte (d2.toInt8.toInt32)))] (.int (0 : Int32)) := Arv.set Ar14 q14 S14 M14 G14 J14 (fits_nar_byte _) W14 2 rfl (Nat.le_of_ble_eq_true rfl)
  have N14 := Fr.snoc X14 N9 (by omega : n0 ≤ t)
  have k15 : To p.tables e below S0 (T14.setTop (mkF m 46 #[.val (.ref b), .val (.int (3 : Int32)), .val (.ref t), .val (.int (3 : Int32)), .val (.int (3 : Int32)), .val (.int (3 : Int32)), .val (.int d2)] [(.int (3 : Int32))])) := fun tt hq => k14 tt (by
    show Steps _ _ _ (T14.setTop (mkF m 32 #[.val (.ref b), .val (.int (2 : Int32)), .val (.ref t), .val (.int (2 : Int32)), .val (.int (3 : Int32)), .val (.int (2 : Int32)), .val (.int d2)] [])) _
    refine XS.iinc X14.here hx rfl (hb hby d_jdk_52_method_21_code_32) rfl (l' := #[.val (.ref b), .val (.int (3 : Int32)), .val (.ref t), .val (.int (2 : Int32)), .val (.int (3 : Int32)), .val (.int (2 : Int32)), .val (.int d2)]) rfl ?_
    show Steps _ _ _ (T14.setTop (mkF m 35 #[.val (.ref b), .val (.int (3 : Int32)), .val (.ref t), .val (.int (2 : Int32)), .val (.int (3 : Int32)), .val (.int (2 : Int32)), .val (.int d2)] [])) _
    refine XS.iinc X14.here hx rfl (hb hby d_jdk_52_method_21_code_35) rfl (l' := #[.val (.ref b), .val (.int (3 : Int32)), .val (.ref t), .val (.int (3 : Int32)), .val (.int (3 : Int32)), .val (.int (2 : Int32)), .val (.int d2)]) rfl ?_
    show Steps _ _ _ (T14.setTop (mkF m 38 #[.val (.ref b), .val (.int (3 : Int32)), .val (.ref t), .val (.int (3 : Int32)), .val (.int (3 : Int32)), .val (.int (2 : Int32)), .val (.int d2)] [])) _
    refine XS.iinc X14.here hx rfl (hb hby d_jdk_52_method_21_code_38) rfl (l' := #[.val (.ref b), .val (.int (3 : Int32)), .val (.ref t), .val (.int (3 : Int32)), .val (.int (3 : Int32)), .val (.int (3 : Int32)), .val (.int d2)]) rfl ?_
    show Steps _ _ _ (T14.setTop (mkF m 41 #[.val (.ref b), .val (.int (3 : Int32)), .val (.ref t), .val (.int (3 : Int32)), .val (.int (3 : Int32)), .val (.int (3 : Int32)), .val (.int d2)] [])) _
    refine XS.goto X14.here hx rfl (pc0 := 41) (pc' := 3) rfl (hb hby d_jdk_52_method_21_code_41) (by decide) (by decide) ?_
    show Steps _ _ _ (T14.setTop (mkF m 3 #[.val (.ref b), .val (.int (3 : Int32)), .val (.ref t), .val (.int (3 : Int32)), .val (.int (3 : Int32)), .val (.int (3 : Int32)), .val (.int d2)] [])) _
    refine XS.iload X14.here hx rfl (hb hby d_jdk_52_method_21_code_3) rfl ?_
    show Steps _ _ _ (T14.setTop (mkF m 5 #[.val (.ref b), .val (.int (3 : Int32)), .val (.ref t), .val (.int (3 : Int32)), .val (.int (3 : Int32)), .val (.int (3 : Int32)), .val (.int d2)] [(.int (3 : Int32))])) _
    refine XS.iload X14.here hx rfl (hb hby d_jdk_52_method_21_code_5) rfl ?_
    show Steps _ _ _ (T14.setTop (mkF m 7 #[.val (.ref b), .val (.int (3 : Int32)), .val (.ref t), .val (.int (3 : Int32)), .val (.int (3 : Int32)), .val (.int (3 : Int32)), .val (.int d2)] [(.int (3 : Int32)), (.int (3 : Int32))])) _
    refine XS.icmpYes X14.here hx rfl (pc0 := 7) (pc' := 44) rfl (hb hby d_jdk_52_method_21_code_7) rfl (flt (by decide)).2.1 (by decide) (by decide) ?_
    show Steps _ _ _ (T14.setTop (mkF m 44 #[.val (.ref b), .val (.int (3 : Int32)), .val (.ref t), .val (.int (3 : Int32)), .val (.int (3 : Int32)), .val (.int (3 : Int32)), .val (.int d2)] [])) _
    refine XS.iload X14.here hx rfl (hb hby d_jdk_52_method_21_code_44) rfl ?_
    show Steps _ _ _ (T14.setTop (mkF m 46 #[.val (.ref b), .val (.int (3 : Int32)), .val (.ref t), .val (.int (3 : Int32)), .val (.int (3 : Int32)), .val (.int (3 : Int32)), .val (.int d2)] [(.int (3 : Int32))])) _
    exact hq)
  have hE := e14
  refine retInt X14 hx hret hlk (by simp) rfl (hb hby d_jdk_52_method_21_code_46) k15 ?_ (by decide) (by decide)
  try rw [hE]
  exact ⟨rfl, N14, ((((Keep.refl h0 [t]).wr W4 (Or.inl (by simp))).wr W9 (Or.inl (by simp))).wr W14 (Or.inl (by simp))), V14⟩
set_option maxRecDepth 65536 in
set_option maxHeartbeats 40000000 in
theorem rm_c3_3 (l : Launch) (Z : State) (a0 : Array Value) (hw : ∀ d ∈ tables_1, d.before a0 Z = true) (b : Addr) (kb : ClassId) (d0 : Int32) (d1 : Int32) (d2 : Int32) (h0 : Heap) (n0 : Nat) (hn0 : n0 ≤ h0.size) (P0 : Arv Z h0 b kb .char (3 : Int32) [(.int d0), (.int d1), (.int d2)] (.int (0 : Int32))) (yb : @LT.lt Nat instLTNat b h0.size) (hd0 : ¬ d0 < (0 : Int32) ∧ ¬ (255 : Int32) < d0) (hd1 : ¬ d1 < (0 : Int32) ∧ ¬ (255 : Int32) < d1) (hd2 : ¬ d2 < (0 : Int32) ∧ ¬ (255 : Int32) < d2) :
    Con l Z (⟨"java/lang/StringUTF16", "compress", "([CII)[B"⟩ : MethodName) jdk_52_method_16_code 6 (some (.array .byte)) [] ({ frames := 1, cells := 1, slots := 3, locals := 18 } : Room) #[(.ref b), (.int (0 : Int32)), (.int (3 : Int32))] h0 (fun v h L => ∃ (t : Addr) (k : ClassId), v = some (.ref t) ∧ Fr n0 L ∧ h0.size ≤ t ∧ Keep h0 h [] ∧ Arv Z h t k .byte (3 : Int32) [(.int (nar .byte (d0.toInt8.toInt32))), (.int (nar .byte (d1.toInt8.toInt32))), (.int (nar .byte (d2.toInt8.toInt32)))] (.int (0 : Int32))) := by
  refine enter (Ls := #[.val (.ref b), .val (.int (0 : Int32)), .val (.int (3 : Int32)), .unset, .unset, .unset]) (plainFor_of_name pn_0) (fun m => by exact entry_eq rfl) ?_
  intro p e s m below meth cd_ s₁ S0 hx hby hml hret hlk hnm hown hZ X0 e0 k0
  have N0 := Fr.nil n0
  have k1 : To p.tables e below S0 (s₁.setTop (mkF m 1 #[.val (.ref b), .val (.int (0 : Int32)), .val (.int (3 : Int32)), .unset, .unset, .unset] [(.int (3 : Int32))])) := fun tt hq => k0 tt (by
    show Steps _ _ _ (s₁.setTop (mkF m 0 #[.val (.ref b), .val (.int (0 : Int32)), .val (.int (3 : Int32)), .unset, .unset, .unset] [])) _
    refine XS.iloadN X0.here hx rfl (hb hby d_jdk_52_method_16_code_0) rfl ?_
    show Steps _ _ _ (s₁.setTop (mkF m 1 #[.val (.ref b), .val (.int (0 : Int32)), .val (.int (3 : Int32)), .unset, .unset, .unset] [(.int (3 : Int32))])) _
    exact hq)
  obtain ⟨T2, h2, c2, X2, e2, E2, A2, st2⟩ := newP X0 hx hZ (hw _ (List.mem_of_getElem? (i := 19) rfl)) e0 (g := (mkF m 1 #[.val (.ref b), .val (.int (0 : Int32)), .val (.int (3 : Int32)), .unset, .unset, .unset] [(.int (3 : Int32))])) rfl (hb hby d_jdk_52_method_16_code_1) rfl (by decide) (cap := 3) (by decide) (by decide) (by decide) (by decide)
  obtain ⟨b2, g2⟩ : ∃ z, z = h0.size := ⟨_, rfl⟩
  rw [← g2] at A2 st2
  have k2 : To p.tables e below S0 (T2.setTop (mkF m 3 #[.val (.ref b), .val (.int (0 : Int32)), .val (.int (3 : Int32)), .unset, .unset, .unset] [(.ref b2)])) := fun tt hq => k1 tt (st2 tt hq)
  have z2 : h0.size ≤ h2.size := E2.1
  have V2 : Arv Z h2 b2 c2 .byte (3 : Int32) [(.int (0 : Int32)), (.int (0 : Int32)), (.int (0 : Int32))] (.int (0 : Int32)) := (Arv.new A2 (by decide)).pad (pad_rep [] (.int (0 : Int32)) 3)
  have y2 : @LT.lt Nat instLTNat b2 h2.size := V2.lt
  have k3 : To p.tables e below S0 (T2.setTop (mkF m 9 #[.val (.ref b), .val (.int (0 : Int32)), .val (.int (3 : Int32)), .val (.ref b2), .unset, .unset] [(.int (3 : Int32)), (.int (0 : Int32)), (.ref b2), (.int (0 : Int32)), (.ref b)])) := fun tt hq => k2 tt (by
    show Steps _ _ _ (T2.setTop (mkF m 3 #[.val (.ref b), .val (.int (0 : Int32)), .val (.int (3 : Int32)), .unset, .unset, .unset] [(.ref b2)])) _
    refine XS.astoreN X2.here hx rfl (hb hby d_jdk_52_method_16_code_3) rfl rfl (l' := #[.val (.ref b), .val (.int (0 : Int32)), .val (.int (3 : Int32)), .val (.ref b2), .unset, .unset]) rfl ?_
    show Steps _ _ _ (T2.setTop (mkF m 4 #[.val (.ref b), .val (.int (0 : Int32)), .val (.int (3 : Int32)), .val (.ref b2), .unset, .unset] [])) _
    refine XS.aloadN X2.here hx rfl (hb hby d_jdk_52_method_16_code_4) rfl rfl ?_
    show Steps _ _ _ (T2.setTop (mkF m 5 #[.val (.ref b), .val (.int (0 : Int32)), .val (.int (3 : Int32)), .val (.ref b2), .unset, .unset] [(.ref b)])) _
    refine XS.iloadN X2.here hx rfl (hb hby d_jdk_52_method_16_code_5) rfl ?_
    show Steps _ _ _ (T2.setTop (mkF m 6 #[.val (.ref b), .val (.int (0 : Int32)), .val (.int (3 : Int32)), .val (.ref b2), .unset, .unset] [(.int (0 : Int32)), (.ref b)])) _
    refine XS.aloadN X2.here hx rfl (hb hby d_jdk_52_method_16_code_6) rfl rfl ?_
    show Steps _ _ _ (T2.setTop (mkF m 7 #[.val (.ref b), .val (.int (0 : Int32)), .val (.int (3 : Int32)), .val (.ref b2), .unset, .unset] [(.ref b2), (.int (0 : Int32)), (.ref b)])) _
    refine XS.iconst X2.here hx rfl (hb hby d_jdk_52_method_16_code_7) ?_
    show Steps _ _ _ (T2.setTop (mkF m 8 #[.val (.ref b), .val (.int (0 : Int32)), .val (.int (3 : Int32)), .val (.ref b2), .unset, .unset] [(.int (0 : Int32)), (.ref b2), (.int (0 : Int32)), (.ref b)])) _
    refine XS.iloadN X2.here hx rfl (hb hby d_jdk_52_method_16_code_8) rfl ?_
    show Steps _ _ _ (T2.setTop (mkF m 9 #[.val (.ref b), .val (.int (0 : Int32)), .val (.int (3 : Int32)), .val (.ref b2), .unset, .unset] [(.int (3 : Int32)), (.int (0 : Int32)), (.ref b2), (.int (0 : Int32)), (.ref b)])) _
    exact hq)
  have f4 : Arv Z h2 b kb .char (3 : Int32) [(.int d0), (.int d1), (.int d2)] (.int (0 : Int32)) := (P0.ext E2)
  obtain ⟨_, T5, L5, X5, ⟨rfl, Nq5, Kq5, V5⟩, k5a⟩ := callS' X2 hx hZ (y := (⟨"java/lang/StringUTF16", "compress", "([CI[BII)I"⟩ : MethodName)) hown (hw _ (List.mem_of_getElem? (i := 95) rfl)) (hw _ (List.mem_of_getElem? (i := 96) rfl)) (hw _ (List.mem_of_getElem? (i := 93) rfl)) (hw _ (List.mem_of_getElem? (i := 97) rfl)) (by decide) (backC (W := 0) (rm_c5_3 l Z a0 hw b kb b2 c2 d0 d1 d2 h2 n0 (by omega) f4 V2 (by omega) (by omega) hd0 hd1 hd2) hZ (hw _ (List.mem_of_getElem? (i := 97) rfl)) (hw _ (List.mem_of_getElem? (i := 93) rfl)) (by decide) (by decide)) e2 (argsL := [(.ref b), (.int (0 : Int32)), (.ref b2), (.int (0 : Int32)), (.int (3 : Int32))]) (rest := []) rfl rfl pd_0 rfl (by rw [hml]; rfl) (hb hby d_jdk_52_method_16_code_9) (Nat.le_of_eq rfl) (by decide) (by decide) k3
  have k5 : To p.tables e below S0 (T5.setTop (mkF m 12 #[.val (.ref b), .val (.int (0 : Int32)), .val (.int (3 : Int32)), .val (.ref b2), .unset, .unset] [(.int (3 : Int32))])) := k5a
  have N5 := N0.app Nq5
  obtain ⟨h5, e5⟩ : ∃ z, T5.heap = z := ⟨_, rfl⟩
  rw [e5] at Kq5 V5
  have z5 : h2.size ≤ h5.size := Kq5.1
  have k6 : To p.tables e below S0 (T5.setTop (mkF m 58 #[.val (.ref b), .val (.int (0 : Int32)), .val (.int (3 : Int32)), .val (.ref b2), .val (.int (3 : Int32)), .unset] [(.ref b2)])) := fun tt hq => k5 tt (by
    show Steps _ _ _ (T5.setTop (mkF m 12 #[.val (.ref b), .val (.int (0 : Int32)), .val (.int (3 : Int32)), .val (.ref b2), .unset, .unset] [(.int (3 : Int32))])) _
    refine XS.istore X5.here hx rfl (hb hby d_jdk_52_method_16_code_12) rfl (l' := #[.val (.ref b), .val (.int (0 : Int32)), .val (.int (3 : Int32)), .val (.ref b2), .val (.int (3 : Int32)), .unset]) rfl ?_
    show Steps _ _ _ (T5.setTop (mkF m 14 #[.val (.ref b), .val (.int (0 : Int32)), .val (.int (3 : Int32)), .val (.ref b2), .val (.int (3 : Int32)), .unset] [])) _
    refine XS.iload X5.here hx rfl (hb hby d_jdk_52_method_16_code_14) rfl ?_
    show Steps _ _ _ (T5.setTop (mkF m 16 #[.val (.ref b), .val (.int (0 : Int32)), .val (.int (3 : Int32)), .val (.ref b2), .val (.int (3 : Int32)), .unset] [(.int (3 : Int32))])) _
    refine XS.iloadN X5.here hx rfl (hb hby d_jdk_52_method_16_code_16) rfl ?_
    show Steps _ _ _ (T5.setTop (mkF m 17 #[.val (.ref b), .val (.int (0 : Int32)), .val (.int (3 : Int32)), .val (.ref b2), .val (.int (3 : Int32)), .unset] [(.int (3 : Int32)), (.int (3 : Int32))])) _
    refine XS.icmpYes X5.here hx rfl (pc0 := 17) (pc' := 57) rfl (hb hby d_jdk_52_method_16_code_17) rfl (teq (by decide)).1 (by decide) (by decide) ?_
    show Steps _ _ _ (T5.setTop (mkF m 57 #[.val (.ref b), .val (.int (0 : Int32)), .val (.int (3 : Int32)), .val (.ref b2), .val (.int (3 : Int32)), .unset] [])) _
    refine XS.aloadN X5.here hx rfl (hb hby d_jdk_52_method_16_code_57) rfl rfl ?_
    show Steps _ _ _ (T5.setTop (mkF m 58 #[.val (.ref b), .val (.int (0 : Int32)), .val (.int (3 : Int32)), .val (.ref b2), .val (.int (3 : Int32)), .unset] [(.ref b2)])) _
    exact hq)
  have hE := e5
  refine retRef X5 hx hret hlk rfl rfl (hb hby d_jdk_52_method_16_code_58) k6 ?_ (by decide) (by decide)
  try rw [hE]
  exact ⟨b2, _, rfl, N5, (by omega), (((Keep.refl h0 []).ext E2).trans Kq5 (allS (Or.inr (by omega)) all0)), V5⟩
set_option maxRecDepth 65536 in
set_option maxHeartbeats 40000000 in
theorem rm_cl_3 (l : Launch) (Z : State) (a0 : Array Value) (hw : ∀ d ∈ tables_1, d.before a0 Z = true) (t : Addr) (kt : ClassId) (d0 : Int32) (d1 : Int32) (d2 : Int32) (h0 : Heap) (n0 : Nat) (hn0 : n0 ≤ h0.size) (P0 : Arv Z h0 t kt .byte (3 : Int32) [(.int d0), (.int d1), (.int d2)] (.int (0 : Int32))) :
    Con l Z (⟨"java/lang/StringUTF16", "coderFromArrayLen", "([BI)B"⟩ : MethodName) jdk_52_method_15_code 2 (some .byte) [] ({ frames := 0, cells := 0, slots := 0, locals := 0 } : Room) #[(.ref t), (.int (3 : Int32))] h0 (fun v h L => v = some (.int (0 : Int32)) ∧ Fr n0 L ∧ h = h0) := by
  refine enter (Ls := #[.val (.ref t), .val (.int (3 : Int32))]) (plainFor_of_name pn_0) (fun m => by exact entry_eq rfl) ?_
  intro p e s m below meth cd_ s₁ S0 hx hby hml hret hlk hnm hown hZ X0 e0 k0
  have N0 := Fr.nil n0
  have k1 : To p.tables e below S0 (s₁.setTop (mkF m 2 #[.val (.ref t), .val (.int (3 : Int32))] [(.ref t), (.int (3 : Int32))])) := fun tt hq => k0 tt (by
    show Steps _ _ _ (s₁.setTop (mkF m 0 #[.val (.ref t), .val (.int (3 : Int32))] [])) _
    refine XS.iloadN X0.here hx rfl (hb hby d_jdk_52_method_15_code_0) rfl ?_
    show Steps _ _ _ (s₁.setTop (mkF m 1 #[.val (.ref t), .val (.int (3 : Int32))] [(.int (3 : Int32))])) _
    refine XS.aloadN X0.here hx rfl (hb hby d_jdk_52_method_15_code_1) rfl rfl ?_
    show Steps _ _ _ (s₁.setTop (mkF m 2 #[.val (.ref t), .val (.int (3 : Int32))] [(.ref t), (.int (3 : Int32))])) _
    exact hq)
  obtain ⟨cl2, Ar2, -, S2, M2, -, -⟩ := id P0
  have st2 := fun tt => X0.arraylength hx (by rw [e0]; exact Ar2.1) (State.isArrayOf_alike hZ.alike Ar2.2.1) (g := (mkF m 2 #[.val (.ref t), .val (.int (3 : Int32))] [(.ref t), (.int (3 : Int32))])) rfl rfl (hb hby d_jdk_52_method_15_code_2) tt
  rw [len_of S2 M2] at st2
  have k2 : To p.tables e below S0 (s₁.setTop (mkF m 3 #[.val (.ref t), .val (.int (3 : Int32))] [(.int (3 : Int32)), (.int (3 : Int32))])) := fun tt hq => k1 tt (st2 tt hq)
  have k3 : To p.tables e below S0 (s₁.setTop (mkF m 8 #[.val (.ref t), .val (.int (3 : Int32))] [(.int (0 : Int32))])) := fun tt hq => k2 tt (by
    show Steps _ _ _ (s₁.setTop (mkF m 3 #[.val (.ref t), .val (.int (3 : Int32))] [(.int (3 : Int32)), (.int (3 : Int32))])) _
    refine XS.isub X0.here hx rfl (hb hby d_jdk_52_method_15_code_3) rfl ?_
    show Steps _ _ _ (s₁.setTop (mkF m 4 #[.val (.ref t), .val (.int (3 : Int32))] [(.int (0 : Int32))])) _
    refine XS.bipush X0.here hx rfl (hb hby d_jdk_52_method_15_code_4) ?_
    show Steps _ _ _ (s₁.setTop (mkF m 6 #[.val (.ref t), .val (.int (3 : Int32))] [(.int (31 : Int32)), (.int (0 : Int32))])) _
    refine XS.iushr X0.here hx rfl (hb hby d_jdk_52_method_15_code_6) rfl ?_
    show Steps _ _ _ (s₁.setTop (mkF m 7 #[.val (.ref t), .val (.int (3 : Int32))] [(.int (0 : Int32))])) _
    refine XS.i2b X0.here hx rfl (hb hby d_jdk_52_method_15_code_7) rfl ?_
    show Steps _ _ _ (s₁.setTop (mkF m 8 #[.val (.ref t), .val (.int (3 : Int32))] [(.int (0 : Int32))])) _
    exact hq)
  have hE := e0
  refine retInt X0 hx hret hlk (by simp) rfl (hb hby d_jdk_52_method_15_code_8) k3 ?_ (by decide) (by decide)
  try rw [hE]
  exact ⟨rfl, N0, rfl⟩
set_option maxRecDepth 65536 in
set_option maxHeartbeats 40000000 in
theorem rm_n4_3 (l : Launch) (Z : State) (a0 : Array Value) (hw : ∀ d ∈ tables_1, d.before a0 Z = true) (zc : Int32) (a : Addr) (b : Addr) (kb : ClassId) (u1 : Value) (u2 : Value) (d0 : Int32) (d1 : Int32) (d2 : Int32) (h0 : Heap) (n0 : Nat) (hn0 : n0 ≤ h0.size) (S_c : Sta Z Z.heap "java/lang/String" "COMPACT_STRINGS" "Z" (.int zc)) (hzc : ¬ zc = (0 : Int32)) (O0 : Old Z n0 h0) (E0 : Exa Z h0 a "java/lang/String") (F1 : Fld Z h0 a "java/lang/String" "value" "[B" u1) (F2 : Fld Z h0 a "java/lang/String" "coder" "B" u2) (P0 : Arv Z h0 b kb .char (3 : Int32) [(.int d0), (.int d1), (.int d2)] (.int (0 : Int32))) (ga : n0 ≤ a) (ya : @LT.lt Nat instLTNat a h0.size) (yb : @LT.lt Nat instLTNat b h0.size) (nab : ¬ (@Eq Nat b a)) (hd0 : ¬ d0 < (0 : Int32) ∧ ¬ (255 : Int32) < d0) (hd1 : ¬ d1 < (0 : Int32) ∧ ¬ (255 : Int32) < d1) (hd2 : ¬ d2 < (0 : Int32) ∧ ¬ (255 : Int32) < d2) :
    Con l Z (⟨"java/lang/String", "<init>", "([CIILjava/lang/Void;)V"⟩ : MethodName) jdk_42_method_149_code 6 none [] ({ frames := 2, cells := 1, slots := 3, locals := 35 } : Room) #[(.ref a), (.ref b), (.int (0 : Int32)), (.int (3 : Int32)), .null] h0 (fun v h L => v = none ∧ Fr n0 L ∧ Keep h0 h [a] ∧ ∃ (t : Addr) (k : ClassId), h0.size ≤ t ∧ Exa Z h a "java/lang/String" ∧ Fld Z h a "java/lang/String" "value" "[B" (.ref t) ∧ Fld Z h a "java/lang/String" "coder" "B" (.int (0 : Int32)) ∧ Arv Z h t k .byte (3 : Int32) [(.int (nar .byte (d0.toInt8.toInt32))), (.int (nar .byte (d1.toInt8.toInt32))), (.int (nar .byte (d2.toInt8.toInt32)))] (.int (0 : Int32))) := by
  refine enter (Ls := #[.val (.ref a), .val (.ref b), .val (.int (0 : Int32)), .val (.int (3 : Int32)), .val .null, .unset]) (plainFor_of_name pn_1) (fun m => by exact entry_eq rfl) ?_
  intro p e s m below meth cd_ s₁ S0 hx hby hml hret hlk hnm hown hZ X0 e0 k0
  have N0 := Fr.nil n0
  have k1 : To p.tables e below S0 (s₁.setTop (mkF m 1 #[.val (.ref a), .val (.ref b), .val (.int (0 : Int32)), .val (.int (3 : Int32)), .val .null, .unset] [(.ref a)])) := fun tt hq => k0 tt (by
    show Steps _ _ _ (s₁.setTop (mkF m 0 #[.val (.ref a), .val (.ref b), .val (.int (0 : Int32)), .val (.int (3 : Int32)), .val .null, .unset] [])) _
    refine XS.aloadN X0.here hx rfl (hb hby d_jdk_42_method_149_code_0) rfl rfl ?_
    show Steps _ _ _ (s₁.setTop (mkF m 1 #[.val (.ref a), .val (.ref b), .val (.int (0 : Int32)), .val (.int (3 : Int32)), .val .null, .unset] [(.ref a)])) _
    exact hq)
  obtain ⟨T2, X2, e2, st2⟩ := initO X0 hx hZ hown (hw _ (List.mem_of_getElem? (i := 15) rfl)) (hw _ (List.mem_of_getElem? (i := 16) rfl)) (hw _ (List.mem_of_getElem? (i := 17) rfl)) e0 (g := (mkF m 1 #[.val (.ref a), .val (.ref b), .val (.int (0 : Int32)), .val (.int (3 : Int32)), .val .null, .unset] [(.ref a)])) rfl (by rw [hml]; rfl) rfl (hb hby d_jdk_42_method_149_code_1) (by decide) (W := 0) (by show 2 * 0 + _ ≤ _; exact Nat.le_of_eq rfl) (by decide)
  have k2 : To p.tables e below S0 (T2.setTop (mkF m 4 #[.val (.ref a), .val (.ref b), .val (.int (0 : Int32)), .val (.int (3 : Int32)), .val .null, .unset] [])) := fun tt hq => k1 tt (st2 tt hq)
  have k3 : To p.tables e below S0 (T2.setTop (mkF m 27 #[.val (.ref a), .val (.ref b), .val (.int (0 : Int32)), .val (.int (3 : Int32)), .val .null, .unset] [])) := fun tt hq => k2 tt (by
    show Steps _ _ _ (T2.setTop (mkF m 4 #[.val (.ref a), .val (.ref b), .val (.int (0 : Int32)), .val (.int (3 : Int32)), .val .null, .unset] [])) _
    refine XS.iloadN X2.here hx rfl (hb hby d_jdk_42_method_149_code_4) rfl ?_
    show Steps _ _ _ (T2.setTop (mkF m 5 #[.val (.ref a), .val (.ref b), .val (.int (0 : Int32)), .val (.int (3 : Int32)), .val .null, .unset] [(.int (3 : Int32))])) _
    refine XS.ifYes X2.here hx rfl (pc0 := 5) (pc' := 27) rfl (hb hby d_jdk_42_method_149_code_5) rfl ((if0 _ _).trans (feq (by decide)).2) (by decide) (by decide) ?_
    show Steps _ _ _ (T2.setTop (mkF m 27 #[.val (.ref a), .val (.ref b), .val (.int (0 : Int32)), .val (.int (3 : Int32)), .val .null, .unset] [])) _
    exact hq)
  obtain ⟨T4, X4, e4, st4⟩ := getS2 X2 hx hZ hown (host := "") (Or.inl (hw _ (List.mem_of_getElem? (i := 90) rfl))) Via.refl e2 (staOld S_c O0) (g := (mkF m 27 #[.val (.ref a), .val (.ref b), .val (.int (0 : Int32)), .val (.int (3 : Int32)), .val .null, .unset] [])) rfl (hb hby d_jdk_42_method_149_code_27)
  have k4 : To p.tables e below S0 (T4.setTop (mkF m 30 #[.val (.ref a), .val (.ref b), .val (.int (0 : Int32)), .val (.int (3 : Int32)), .val .null, .unset] [(.int zc)])) := fun tt hq => k3 tt (st4 tt hq)
  have k5 : To p.tables e below S0 (T4.setTop (mkF m 36 #[.val (.ref a), .val (.ref b), .val (.int (0 : Int32)), .val (.int (3 : Int32)), .val .null, .unset] [(.int (3 : Int32)), (.int (0 : Int32)), (.ref b)])) := fun tt hq => k4 tt (by
    show Steps _ _ _ (T4.setTop (mkF m 30 #[.val (.ref a), .val (.ref b), .val (.int (0 : Int32)), .val (.int (3 : Int32)), .val .null, .unset] [(.int zc)])) _
    refine XS.ifNo X4.here hx rfl (hb hby d_jdk_42_method_149_code_30) rfl ((if0 _ _).trans (feq hzc).1) ?_
    show Steps _ _ _ (T4.setTop (mkF m 33 #[.val (.ref a), .val (.ref b), .val (.int (0 : Int32)), .val (.int (3 : Int32)), .val .null, .unset] [])) _
    refine XS.aloadN X4.here hx rfl (hb hby d_jdk_42_method_149_code_33) rfl rfl ?_
    show Steps _ _ _ (T4.setTop (mkF m 34 #[.val (.ref a), .val (.ref b), .val (.int (0 : Int32)), .val (.int (3 : Int32)), .val .null, .unset] [(.ref b)])) _
    refine XS.iloadN X4.here hx rfl (hb hby d_jdk_42_method_149_code_34) rfl ?_
    show Steps _ _ _ (T4.setTop (mkF m 35 #[.val (.ref a), .val (.ref b), .val (.int (0 : Int32)), .val (.int (3 : Int32)), .val .null, .unset] [(.int (0 : Int32)), (.ref b)])) _
    refine XS.iloadN X4.here hx rfl (hb hby d_jdk_42_method_149_code_35) rfl ?_
    show Steps _ _ _ (T4.setTop (mkF m 36 #[.val (.ref a), .val (.ref b), .val (.int (0 : Int32)), .val (.int (3 : Int32)), .val .null, .unset] [(.int (3 : Int32)), (.int (0 : Int32)), (.ref b)])) _
    exact hq)
  obtain ⟨_, T6, L6, X6, ⟨t6, kt6, rfl, Nq6, gt6, Kq6, V6⟩, k6a⟩ := callS' X4 hx hZ (y := (⟨"java/lang/StringUTF16", "compress", "([CII)[B"⟩ : MethodName)) hown (hw _ (List.mem_of_getElem? (i := 91) rfl)) (hw _ (List.mem_of_getElem? (i := 92) rfl)) (hw _ (List.mem_of_getElem? (i := 93) rfl)) (hw _ (List.mem_of_getElem? (i := 94) rfl)) (by decide) (backC (W := 0) (rm_c3_3 l Z a0 hw b kb d0 d1 d2 h0 n0 (by omega) P0 (by omega) hd0 hd1 hd2) hZ (hw _ (List.mem_of_getElem? (i := 94) rfl)) (hw _ (List.mem_of_getElem? (i := 93) rfl)) (by decide) (by decide)) e4 (argsL := [(.ref b), (.int (0 : Int32)), (.int (3 : Int32))]) (rest := []) rfl rfl pd_1 rfl (by rw [hml]; rfl) (hb hby d_jdk_42_method_149_code_36) (Nat.le_of_eq rfl) (by decide) (by decide) k5
  have k6 : To p.tables e below S0 (T6.setTop (mkF m 39 #[.val (.ref a), .val (.ref b), .val (.int (0 : Int32)), .val (.int (3 : Int32)), .val .null, .unset] [(.ref t6)])) := k6a
  have N6 := N0.app Nq6
  obtain ⟨h6, e6⟩ : ∃ z, T6.heap = z := ⟨_, rfl⟩
  rw [e6] at Kq6 V6
  have z6 : h0.size ≤ h6.size := Kq6.1
  have y6 : @LT.lt Nat instLTNat t6 h6.size := V6.lt
  have k7 : To p.tables e below S0 (T6.setTop (mkF m 45 #[.val (.ref a), .val (.ref b), .val (.int (0 : Int32)), .val (.int (3 : Int32)), .val .null, .val (.ref t6)] [(.int (3 : Int32)), (.ref t6), (.ref a)])) := fun tt hq => k6 tt (by
    show Steps _ _ _ (T6.setTop (mkF m 39 #[.val (.ref a), .val (.ref b), .val (.int (0 : Int32)), .val (.int (3 : Int32)), .val .null, .unset] [(.ref t6)])) _
    refine XS.astore X6.here hx rfl (hb hby d_jdk_42_method_149_code_39) rfl rfl (l' := #[.val (.ref a), .val (.ref b), .val (.int (0 : Int32)), .val (.int (3 : Int32)), .val .null, .val (.ref t6)]) rfl ?_
    show Steps _ _ _ (T6.setTop (mkF m 41 #[.val (.ref a), .val (.ref b), .val (.int (0 : Int32)), .val (.int (3 : Int32)), .val .null, .val (.ref t6)] [])) _
    refine XS.aloadN X6.here hx rfl (hb hby d_jdk_42_method_149_code_41) rfl rfl ?_
    show Steps _ _ _ (T6.setTop (mkF m 42 #[.val (.ref a), .val (.ref b), .val (.int (0 : Int32)), .val (.int (3 : Int32)), .val .null, .val (.ref t6)] [(.ref a)])) _
    refine XS.aload X6.here hx rfl (hb hby d_jdk_42_method_149_code_42) rfl rfl ?_
    show Steps _ _ _ (T6.setTop (mkF m 44 #[.val (.ref a), .val (.ref b), .val (.int (0 : Int32)), .val (.int (3 : Int32)), .val .null, .val (.ref t6)] [(.ref t6), (.ref a)])) _
    refine XS.iloadN X6.here hx rfl (hb hby d_jdk_42_method_149_code_44) rfl ?_
    show Steps _ _ _ (T6.setTop (mkF m 45 #[.val (.ref a), .val (.ref b), .val (.int (0 : Int32)), .val (.int (3 : Int32)), .val .null, .val (.ref t6)] [(.int (3 : Int32)), (.ref t6), (.ref a)])) _
    exact hq)
  obtain ⟨_, T8, L8, X8, ⟨rfl, Nq8, eq8⟩, k8a⟩ := callS' X6 hx hZ (y := (⟨"java/lang/StringUTF16", "coderFromArrayLen", "([BI)B"⟩ : MethodName)) hown (hw _ (List.mem_of_getElem? (i := 98) rfl)) (hw _ (List.mem_of_getElem? (i := 99) rfl)) (hw _ (List.mem_of_getElem? (i := 93) rfl)) (hw _ (List.mem_of_getElem? (i := 100) rfl)) (by decide) (backC (W := 1) (rm_cl_3 l Z a0 hw t6 kt6 (nar .byte (d0.toInt8.toInt32)) (nar .byte (d1.toInt8.toInt32)) (nar .byte (d2.toInt8.toInt32)) h6 n0 (by omega) V6) hZ (hw _ (List.mem_of_getElem? (i := 100) rfl)) (hw _ (List.mem_of_getElem? (i := 93) rfl)) (by decide) (by decide)) e6 (argsL := [(.ref t6), (.int (3 : Int32))]) (rest := [(.ref a)]) rfl rfl pd_2 rfl (by rw [hml]; rfl) (hb hby d_jdk_42_method_149_code_45) (Nat.le_of_eq rfl) (by decide) (by decide) k7
  have k8 : To p.tables e below S0 (T8.setTop (mkF m 48 #[.val (.ref a), .val (.ref b), .val (.int (0 : Int32)), .val (.int (3 : Int32)), .val .null, .val (.ref t6)] [(.int (0 : Int32)), (.ref a)])) := k8a
  have N8 := N6.app Nq8
  have e8 : T8.heap = h6 := eq8
  have f9 : Exa Z h6 a "java/lang/String" := (E0.keep Kq6)
  have f10 : Fld Z h6 a "java/lang/String" "coder" "B" u2 := (F2.keep Kq6 nin0)
  obtain ⟨T11, h11, X11, e11, W11, st11⟩ := putF X8 hx hZ hown (host := "") (Or.inl (hw _ (List.mem_of_getElem? (i := 25) rfl))) Via.refl e8 f10 f9 (Or.inr ⟨(hw _ (List.mem_of_getElem? (i := 21) rfl)), rfl, hnm⟩) (hw _ (List.mem_of_getElem? (i := 6) rfl)) (ty := .byte) (by decide) rfl rfl (g := (mkF m 48 #[.val (.ref a), .val (.ref b), .val (.int (0 : Int32)), .val (.int (3 : Int32)), .val .null, .val (.ref t6)] [(.int (0 : Int32)), (.ref a)])) rfl rfl (hb hby d_jdk_42_method_149_code_48)
  have k11 : To p.tables e below S0 (T11.setTop (mkF m 51 #[.val (.ref a), .val (.ref b), .val (.int (0 : Int32)), .val (.int (3 : Int32)), .val .null, .val (.ref t6)] [])) := fun tt hq => k8 tt (st11 tt hq)
  have z11 : h11.size = h6.size := W11.size
  have F11 := f10.same W11
  have N11 := Fr.snoc X11 N8 (by omega : n0 ≤ a)
  have f12 : Exa Z h11 a "java/lang/String" := (f9.wr W11)
  have f13 : Fld Z h11 a "java/lang/String" "value" "[B" u1 := ((F1.keep Kq6 nin0).other W11 (Or.inr (slot_ne (Or.inr (hw _ (List.mem_of_getElem? (i := 20) rfl))) (Or.inr (hw _ (List.mem_of_getElem? (i := 21) rfl))) (by decide) (t := (.array .byte)) (t' := .byte) (by decide) (by decide))))
  have k14 : To p.tables e below S0 (T11.setTop (mkF m 54 #[.val (.ref a), .val (.ref b), .val (.int (0 : Int32)), .val (.int (3 : Int32)), .val .null, .val (.ref t6)] [(.ref t6), (.ref a)])) := fun tt hq => k11 tt (by
    show Steps _ _ _ (T11.setTop (mkF m 51 #[.val (.ref a), .val (.ref b), .val (.int (0 : Int32)), .val (.int (3 : Int32)), .val .null, .val (.ref t6)] [])) _
    refine XS.aloadN X11.here hx rfl (hb hby d_jdk_42_method_149_code_51) rfl rfl ?_
    show Steps _ _ _ (T11.setTop (mkF m 52 #[.val (.ref a), .val (.ref b), .val (.int (0 : Int32)), .val (.int (3 : Int32)), .val .null, .val (.ref t6)] [(.ref a)])) _
    refine XS.aload X11.here hx rfl (hb hby d_jdk_42_method_149_code_52) rfl rfl ?_
    show Steps _ _ _ (T11.setTop (mkF m 54 #[.val (.ref a), .val (.ref b), .val (.int (0 : Int32)), .val (.int (3 : Int32)), .val .null, .val (.ref t6)] [(.ref t6), (.ref a)])) _
    exact hq)
  obtain ⟨T15, h15, X15, e15, W15, st15⟩ := putF X11 hx hZ hown (host := "") (Or.inl (hw _ (List.mem_of_getElem? (i := 24) rfl))) Via.refl e11 f13 f12 (Or.inr ⟨(hw _ (List.mem_of_getElem? (i := 20) rfl)), rfl, hnm⟩) (hw _ (List.mem_of_getElem? (i := 6) rfl)) (ty := (.array .byte)) (by decide) rfl rfl (g := (mkF m 54 #[.val (.ref a), .val (.ref b), .val (.int (0 : Int32)), .val (.int (3 : Int32)), .val .null, .val (.ref t6)] [(.ref t6), (.ref a)])) rfl rfl (hb hby d_jdk_42_method_149_code_54)
  have k15 : To p.tables e below S0 (T15.setTop (mkF m 57 #[.val (.ref a), .val (.ref b), .val (.int (0 : Int32)), .val (.int (3 : Int32)), .val .null, .val (.ref t6)] [])) := fun tt hq => k14 tt (st15 tt hq)
  have z15 : h15.size = h11.size := W15.size
  have F15 := f13.same W15
  have N15 := Fr.snoc X15 N11 (by omega : n0 ≤ a)
  have f16 : Exa Z h15 a "java/lang/String" := (f12.wr W15)
  have f17 : Fld Z h15 a "java/lang/String" "coder" "B" (.int (0 : Int32)) := (F11.other W15 (Or.inr (slot_ne (Or.inr (hw _ (List.mem_of_getElem? (i := 21) rfl))) (Or.inr (hw _ (List.mem_of_getElem? (i := 20) rfl))) (by decide) (t := .byte) (t' := (.array .byte)) (by decide) (by decide))))
  have f18 : Arv Z h15 t6 kt6 .byte (3 : Int32) [(.int (nar .byte (d0.toInt8.toInt32))), (.int (nar .byte (d1.toInt8.toInt32))), (.int (nar .byte (d2.toInt8.toInt32)))] (.int (0 : Int32)) := ((V6.other W11 (adr_ne (by omega))).other W15 (adr_ne (by omega)))
  have hE := e15
  refine retVoid X15 hx hret hlk (hb hby d_jdk_42_method_149_code_57) k15 ?_ (by decide) (by decide)
  try rw [hE]
  exact ⟨rfl, N15, ((((Keep.refl h0 [a]).trans Kq6 all0).wr W11 (Or.inl (by simp))).wr W15 (Or.inl (by simp))), t6, kt6, (by omega), f16, F15, f17, f18⟩
set_option maxRecDepth 65536 in
set_option maxHeartbeats 40000000 in
theorem rm_n1_3 (l : Launch) (Z : State) (a0 : Array Value) (hw : ∀ d ∈ tables_1, d.before a0 Z = true) (zc : Int32) (a : Addr) (b : Addr) (kb : ClassId) (u1 : Value) (u2 : Value) (d0 : Int32) (d1 : Int32) (d2 : Int32) (h0 : Heap) (n0 : Nat) (hn0 : n0 ≤ h0.size) (S_c : Sta Z Z.heap "java/lang/String" "COMPACT_STRINGS" "Z" (.int zc)) (hzc : ¬ zc = (0 : Int32)) (O0 : Old Z n0 h0) (E0 : Exa Z h0 a "java/lang/String") (F1 : Fld Z h0 a "java/lang/String" "value" "[B" u1) (F2 : Fld Z h0 a "java/lang/String" "coder" "B" u2) (P0 : Arv Z h0 b kb .char (3 : Int32) [(.int d0), (.int d1), (.int d2)] (.int (0 : Int32))) (ga : n0 ≤ a) (ya : @LT.lt Nat instLTNat a h0.size) (yb : @LT.lt Nat instLTNat b h0.size) (nab : ¬ (@Eq Nat b a)) (hd0 : ¬ d0 < (0 : Int32) ∧ ¬ (255 : Int32) < d0) (hd1 : ¬ d1 < (0 : Int32) ∧ ¬ (255 : Int32) < d1) (hd2 : ¬ d2 < (0 : Int32) ∧ ¬ (255 : Int32) < d2) :
    Con l Z (⟨"java/lang/String", "<init>", "([C)V"⟩ : MethodName) jdk_42_method_3_code 2 none [] ({ frames := 3, cells := 1, slots := 3, locals := 52 } : Room) #[(.ref a), (.ref b)] h0 (fun v h L => v = none ∧ Fr n0 L ∧ Keep h0 h [a] ∧ ∃ (t : Addr) (k : ClassId), h0.size ≤ t ∧ Exa Z h a "java/lang/String" ∧ Fld Z h a "java/lang/String" "value" "[B" (.ref t) ∧ Fld Z h a "java/lang/String" "coder" "B" (.int (0 : Int32)) ∧ Arv Z h t k .byte (3 : Int32) [(.int (nar .byte (d0.toInt8.toInt32))), (.int (nar .byte (d1.toInt8.toInt32))), (.int (nar .byte (d2.toInt8.toInt32)))] (.int (0 : Int32))) := by
  refine enter (Ls := #[.val (.ref a), .val (.ref b)]) (plainFor_of_name pn_1) (fun m => by exact entry_eq rfl) ?_
  intro p e s m below meth cd_ s₁ S0 hx hby hml hret hlk hnm hown hZ X0 e0 k0
  have N0 := Fr.nil n0
  have k1 : To p.tables e below S0 (s₁.setTop (mkF m 4 #[.val (.ref a), .val (.ref b)] [(.ref b), (.int (0 : Int32)), (.ref b), (.ref a)])) := fun tt hq => k0 tt (by
    show Steps _ _ _ (s₁.setTop (mkF m 0 #[.val (.ref a), .val (.ref b)] [])) _
    refine XS.aloadN X0.here hx rfl (hb hby d_jdk_42_method_3_code_0) rfl rfl ?_
    show Steps _ _ _ (s₁.setTop (mkF m 1 #[.val (.ref a), .val (.ref b)] [(.ref a)])) _
    refine XS.aloadN X0.here hx rfl (hb hby d_jdk_42_method_3_code_1) rfl rfl ?_
    show Steps _ _ _ (s₁.setTop (mkF m 2 #[.val (.ref a), .val (.ref b)] [(.ref b), (.ref a)])) _
    refine XS.iconst X0.here hx rfl (hb hby d_jdk_42_method_3_code_2) ?_
    show Steps _ _ _ (s₁.setTop (mkF m 3 #[.val (.ref a), .val (.ref b)] [(.int (0 : Int32)), (.ref b), (.ref a)])) _
    refine XS.aloadN X0.here hx rfl (hb hby d_jdk_42_method_3_code_3) rfl rfl ?_
    show Steps _ _ _ (s₁.setTop (mkF m 4 #[.val (.ref a), .val (.ref b)] [(.ref b), (.int (0 : Int32)), (.ref b), (.ref a)])) _
    exact hq)
  obtain ⟨cl2, Ar2, -, S2, M2, -, -⟩ := id P0
  have st2 := fun tt => X0.arraylength hx (by rw [e0]; exact Ar2.1) (State.isArrayOf_alike hZ.alike Ar2.2.1) (g := (mkF m 4 #[.val (.ref a), .val (.ref b)] [(.ref b), (.int (0 : Int32)), (.ref b), (.ref a)])) rfl rfl (hb hby d_jdk_42_method_3_code_4) tt
  rw [len_of S2 M2] at st2
  have k2 : To p.tables e below S0 (s₁.setTop (mkF m 5 #[.val (.ref a), .val (.ref b)] [(.int (3 : Int32)), (.int (0 : Int32)), (.ref b), (.ref a)])) := fun tt hq => k1 tt (st2 tt hq)
  have k3 : To p.tables e below S0 (s₁.setTop (mkF m 6 #[.val (.ref a), .val (.ref b)] [.null, (.int (3 : Int32)), (.int (0 : Int32)), (.ref b), (.ref a)])) := fun tt hq => k2 tt (by
    show Steps _ _ _ (s₁.setTop (mkF m 5 #[.val (.ref a), .val (.ref b)] [(.int (3 : Int32)), (.int (0 : Int32)), (.ref b), (.ref a)])) _
    refine XS.aconstNull X0.here hx rfl (hb hby d_jdk_42_method_3_code_5) ?_
    show Steps _ _ _ (s₁.setTop (mkF m 6 #[.val (.ref a), .val (.ref b)] [.null, (.int (3 : Int32)), (.int (0 : Int32)), (.ref b), (.ref a)])) _
    exact hq)
  obtain ⟨_, T4, L4, X4, ⟨rfl, Nq4, Kq4, t4, kt4, gt4, P40, P41, P42, P43⟩, k4a⟩ := callC' X0 hx hZ (y := (⟨"java/lang/String", "<init>", "([CIILjava/lang/Void;)V"⟩ : MethodName)) rfl hown (hw _ (List.mem_of_getElem? (i := 11) rfl)) (hw _ (List.mem_of_getElem? (i := 12) rfl)) (hw _ (List.mem_of_getElem? (i := 14) rfl)) (by decide) (backC (W := 0) (rm_n4_3 l Z a0 hw zc a b kb u1 u2 d0 d1 d2 h0 n0 (by omega) S_c hzc O0 E0 F1 F2 P0 (by omega) (by omega) (by omega) (by omega) hd0 hd1 hd2) hZ (hw _ (List.mem_of_getElem? (i := 14) rfl)) (hw _ (List.mem_of_getElem? (i := 7) rfl)) (by decide) (by decide)) e0 (argsL := [(.ref b), (.int (0 : Int32)), (.int (3 : Int32)), .null]) (rest := []) rfl rfl pd_3 rfl (by rw [hml]; rfl) (hb hby d_jdk_42_method_3_code_6) (Nat.le_of_eq rfl) (by decide) (by decide) k3
  have k4 : To p.tables e below S0 (T4.setTop (mkF m 9 #[.val (.ref a), .val (.ref b)] [])) := k4a
  have N4 := N0.app Nq4
  obtain ⟨h4, e4⟩ : ∃ z, T4.heap = z := ⟨_, rfl⟩
  rw [e4] at Kq4 P40 P41 P42 P43
  have z4 : h0.size ≤ h4.size := Kq4.1
  have y4 : @LT.lt Nat instLTNat t4 h4.size := P43.lt
  have hE := e4
  refine retVoid X4 hx hret hlk (hb hby d_jdk_42_method_3_code_9) k4 ?_ (by decide) (by decide)
  try rw [hE]
  exact ⟨rfl, N4, ((Keep.refl h0 [a]).trans Kq4 (allS (Or.inl (by simp)) all0)), t4, kt4, (by omega), P40, P41, P42, P43⟩
set_option maxRecDepth 65536 in
set_option maxHeartbeats 40000000 in
theorem rm_n4_0 (l : Launch) (Z : State) (a0 : Array Value) (hw : ∀ d ∈ tables_1, d.before a0 Z = true) (a : Addr) (b : Addr) (kb : ClassId) (u1 : Value) (u2 : Value) (h0 : Heap) (n0 : Nat) (hn0 : n0 ≤ h0.size) (E0 : Exa Z h0 a "java/lang/String") (F1 : Fld Z h0 a "java/lang/String" "value" "[B" u1) (F2 : Fld Z h0 a "java/lang/String" "coder" "B" u2) (P0 : Arv Z h0 b kb .char (0 : Int32) [] (.int (0 : Int32))) (ga : n0 ≤ a) (ya : @LT.lt Nat instLTNat a h0.size) :
    ConW l Z own_EL (⟨"java/lang/String", "<init>", "([CIILjava/lang/Void;)V"⟩ : MethodName) jdk_42_method_149_code 6 none [] ({ frames := 1, cells := 4, slots := 8, locals := 12 } : Room) #[(.ref a), (.ref b), (.int (0 : Int32)), (.int (0 : Int32)), .null] h0 [a] (fun v h L => v = none ∧ Fr n0 L ∧ Keep h0 h [a] ∧ ∃ (t : Addr) (k : ClassId), (@LT.lt Nat instLTNat t h.size) ∧ Exa Z h a "java/lang/String" ∧ Fld Z h a "java/lang/String" "value" "[B" (.ref t) ∧ Fld Z h a "java/lang/String" "coder" "B" (.int (0 : Int32)) ∧ Arv Z h t k .byte (0 : Int32) [] (.int 0)) := by
  refine enterW (Ls := #[.val (.ref a), .val (.ref b), .val (.int (0 : Int32)), .val (.int (0 : Int32)), .val .null, .unset]) (plainFor_of_name pn_1) (fun m => by exact entry_eq rfl) ?_
  intro p e s m below meth cd_ s₁ S0 vm0 hx hby hml hret hlk hnm hown hZ X0 e0 k0 C0 hsf hS0
  have N0 := Fr.nil n0
  have Sf_a : Safe Z own_EL vm0 h0 a := hsf _ (List.mem_of_getElem? (i := 0) rfl)
  have k1 : To p.tables e below S0 (s₁.setTop (mkF m 1 #[.val (.ref a), .val (.ref b), .val (.int (0 : Int32)), .val (.int (0 : Int32)), .val .null, .unset] [(.ref a)])) := fun tt hq => k0 tt (by
    show Steps _ _ _ (s₁.setTop (mkF m 0 #[.val (.ref a), .val (.ref b), .val (.int (0 : Int32)), .val (.int (0 : Int32)), .val .null, .unset] [])) _
    refine XS.aloadN X0.here hx rfl (hb hby d_jdk_42_method_149_code_0) rfl rfl ?_
    show Steps _ _ _ (s₁.setTop (mkF m 1 #[.val (.ref a), .val (.ref b), .val (.int (0 : Int32)), .val (.int (0 : Int32)), .val .null, .unset] [(.ref a)])) _
    exact hq)
  obtain ⟨T2, X2, e2, st2⟩ := initO X0 hx hZ hown (hw _ (List.mem_of_getElem? (i := 15) rfl)) (hw _ (List.mem_of_getElem? (i := 16) rfl)) (hw _ (List.mem_of_getElem? (i := 17) rfl)) e0 (g := (mkF m 1 #[.val (.ref a), .val (.ref b), .val (.int (0 : Int32)), .val (.int (0 : Int32)), .val .null, .unset] [(.ref a)])) rfl (by rw [hml]; rfl) rfl (hb hby d_jdk_42_method_149_code_1) (by decide) (W := 0) (by show 2 * 0 + _ ≤ _; exact Nat.le_of_eq rfl) (by decide)
  have k2 : To p.tables e below S0 (T2.setTop (mkF m 4 #[.val (.ref a), .val (.ref b), .val (.int (0 : Int32)), .val (.int (0 : Int32)), .val .null, .unset] [])) := fun tt hq => k1 tt (st2 tt hq)
  have k3 : To p.tables e below S0 (T2.setTop (mkF m 9 #[.val (.ref a), .val (.ref b), .val (.int (0 : Int32)), .val (.int (0 : Int32)), .val .null, .unset] [(.ref a)])) := fun tt hq => k2 tt (by
    show Steps _ _ _ (T2.setTop (mkF m 4 #[.val (.ref a), .val (.ref b), .val (.int (0 : Int32)), .val (.int (0 : Int32)), .val .null, .unset] [])) _
    refine XS.iloadN X2.here hx rfl (hb hby d_jdk_42_method_149_code_4) rfl ?_
    show Steps _ _ _ (T2.setTop (mkF m 5 #[.val (.ref a), .val (.ref b), .val (.int (0 : Int32)), .val (.int (0 : Int32)), .val .null, .unset] [(.int (0 : Int32))])) _
    refine XS.ifNo X2.here hx rfl (hb hby d_jdk_42_method_149_code_5) rfl ((if0 _ _).trans (teq (by decide)).2) ?_
    show Steps _ _ _ (T2.setTop (mkF m 8 #[.val (.ref a), .val (.ref b), .val (.int (0 : Int32)), .val (.int (0 : Int32)), .val .null, .unset] [])) _
    refine XS.aloadN X2.here hx rfl (hb hby d_jdk_42_method_149_code_8) rfl rfl ?_
    show Steps _ _ _ (T2.setTop (mkF m 9 #[.val (.ref a), .val (.ref b), .val (.int (0 : Int32)), .val (.int (0 : Int32)), .val .null, .unset] [(.ref a)])) _
    exact hq)
  obtain ⟨a4, T4, h4, kk4, b4, c4, X4, e4, E4, hS4, hk4, hZ4a, hown4a, A4, Fc4, Fv4, V4, ya4, yb4, Cq4, -, hne4, st4⟩ := ldcCH X2 hx hZ hown (hw _ (List.mem_of_getElem? (i := 18) rfl)) (own_wS hw) e2 hS0 (by omega) (own_EW hw) (List.mem_of_getElem? (i := 0) rfl) C0.1 (vs := []) (z := (0 : Int32)) ⟨by decide, by decide⟩ (by decide) (by decide) (g := (mkF m 9 #[.val (.ref a), .val (.ref b), .val (.int (0 : Int32)), .val (.int (0 : Int32)), .val .null, .unset] [(.ref a)])) rfl (hb hby d_jdk_42_method_149_code_9) (n := 0) (by decide) (by decide) (by decide) (by decide)
  have k4 : To p.tables e below S0 (T4.setTop (mkF m 11 #[.val (.ref a), .val (.ref b), .val (.int (0 : Int32)), .val (.int (0 : Int32)), .val .null, .unset] [(.ref a4), (.ref a)])) := fun tt hq => k3 tt (st4 tt hq)
  have hZ4 : Z.Warmed39 T4.vm := hZ4a
  have hown4 : T4.vm.findClass "java/lang/String" = some m.cls := hown4a
  have z4 : h0.size ≤ h4.size := E4.1
  have C4 := C0.trans Cq4
  have f5 : Safe Z own_EL T4.vm h4 a := (Cq4.safe (adr_lt (by omega)) Sf_a)
  have nx4_a : ¬ (@Eq Nat a a4) ∧ ¬ (@Eq Nat a b4) := hne4 a f5
  obtain ⟨T6, X6, e6, st6⟩ := getF X4 hx hZ4 hown4 (host := "") (Or.inl (hw _ (List.mem_of_getElem? (i := 24) rfl))) Via.refl e4 Fv4 (g := (mkF m 11 #[.val (.ref a), .val (.ref b), .val (.int (0 : Int32)), .val (.int (0 : Int32)), .val .null, .unset] [(.ref a4), (.ref a)])) rfl rfl (hb hby d_jdk_42_method_149_code_11)
  have k6 : To p.tables e below S0 (T6.setTop (mkF m 14 #[.val (.ref a), .val (.ref b), .val (.int (0 : Int32)), .val (.int (0 : Int32)), .val .null, .unset] [(.ref b4), (.ref a)])) := fun tt hq => k4 tt (st6 tt hq)
  have f7 : Exa Z h4 a "java/lang/String" := (E0.ext E4)
  have f8 : Fld Z h4 a "java/lang/String" "value" "[B" u1 := (F1.ext E4)
  obtain ⟨T9, h9, X9, e9, W9, st9⟩ := putF X6 hx hZ4 hown4 (host := "") (Or.inl (hw _ (List.mem_of_getElem? (i := 24) rfl))) Via.refl e6 f8 f7 (Or.inr ⟨(hw _ (List.mem_of_getElem? (i := 20) rfl)), rfl, hnm⟩) (hw _ (List.mem_of_getElem? (i := 6) rfl)) (ty := (.array .byte)) (by decide) rfl rfl (g := (mkF m 14 #[.val (.ref a), .val (.ref b), .val (.int (0 : Int32)), .val (.int (0 : Int32)), .val .null, .unset] [(.ref b4), (.ref a)])) rfl rfl (hb hby d_jdk_42_method_149_code_14)
  have k9 : To p.tables e below S0 (T9.setTop (mkF m 17 #[.val (.ref a), .val (.ref b), .val (.int (0 : Int32)), .val (.int (0 : Int32)), .val .null, .unset] [])) := fun tt hq => k6 tt (st9 tt hq)
  have z9 : h9.size = h4.size := W9.size
  have F9 := f8.same W9
  have N9 := Fr.snoc X9 N0 (by omega : n0 ≤ a)
  have C9 := C4.trans (CHr.wr W9 f5 C4.1)
  have k10 : To p.tables e below S0 (T9.setTop (mkF m 18 #[.val (.ref a), .val (.ref b), .val (.int (0 : Int32)), .val (.int (0 : Int32)), .val .null, .unset] [(.ref a)])) := fun tt hq => k9 tt (by
    show Steps _ _ _ (T9.setTop (mkF m 17 #[.val (.ref a), .val (.ref b), .val (.int (0 : Int32)), .val (.int (0 : Int32)), .val .null, .unset] [])) _
    refine XS.aloadN X9.here hx rfl (hb hby d_jdk_42_method_149_code_17) rfl rfl ?_
    show Steps _ _ _ (T9.setTop (mkF m 18 #[.val (.ref a), .val (.ref b), .val (.int (0 : Int32)), .val (.int (0 : Int32)), .val .null, .unset] [(.ref a)])) _
    exact hq)
  obtain ⟨a11, T11, h11, kk11, b11, c11, X11, e11, E11, hS11, hk11, hZ11a, hown11a, A11, Fc11, Fv11, V11, ya11, yb11, Cq11, -, hne11, st11⟩ := ldcCH X9 hx hZ4 hown4 (hw _ (List.mem_of_getElem? (i := 18) rfl)) (own_wS hw) e9 hS4 (by omega) (own_EW hw) (List.mem_of_getElem? (i := 0) rfl) C9.1 (vs := []) (z := (0 : Int32)) ⟨by decide, by decide⟩ (by decide) (by decide) (g := (mkF m 18 #[.val (.ref a), .val (.ref b), .val (.int (0 : Int32)), .val (.int (0 : Int32)), .val .null, .unset] [(.ref a)])) rfl (hb hby d_jdk_42_method_149_code_18) (n := 0) (by decide) (by decide) (by decide) (by decide)
  have k11 : To p.tables e below S0 (T11.setTop (mkF m 20 #[.val (.ref a), .val (.ref b), .val (.int (0 : Int32)), .val (.int (0 : Int32)), .val .null, .unset] [(.ref a11), (.ref a)])) := fun tt hq => k10 tt (st11 tt hq)
  have hZ11 : Z.Warmed39 T11.vm := hZ11a
  have hown11 : T11.vm.findClass "java/lang/String" = some m.cls := hown11a
  have z11 : h9.size ≤ h11.size := E11.1
  have C11 := C9.trans Cq11
  have f12 : Safe Z own_EL T11.vm h11 a := (Cq11.safe (adr_lt (by omega)) (Safe.wr W9 f5 C4.1 f5))
  have nx11_a : ¬ (@Eq Nat a a11) ∧ ¬ (@Eq Nat a b11) := hne11 a f12
  obtain ⟨T13, X13, e13, st13⟩ := getF X11 hx hZ11 hown11 (host := "") (Or.inl (hw _ (List.mem_of_getElem? (i := 25) rfl))) Via.refl e11 Fc11 (g := (mkF m 20 #[.val (.ref a), .val (.ref b), .val (.int (0 : Int32)), .val (.int (0 : Int32)), .val .null, .unset] [(.ref a11), (.ref a)])) rfl rfl (hb hby d_jdk_42_method_149_code_20)
  have k13 : To p.tables e below S0 (T13.setTop (mkF m 23 #[.val (.ref a), .val (.ref b), .val (.int (0 : Int32)), .val (.int (0 : Int32)), .val .null, .unset] [(.int (0 : Int32)), (.ref a)])) := fun tt hq => k11 tt (st13 tt hq)
  have f14 : Exa Z h11 a "java/lang/String" := ((f7.wr W9).ext E11)
  have f15 : Fld Z h11 a "java/lang/String" "coder" "B" u2 := (((F2.ext E4).other W9 (Or.inr (slot_ne (Or.inr (hw _ (List.mem_of_getElem? (i := 21) rfl))) (Or.inr (hw _ (List.mem_of_getElem? (i := 20) rfl))) (by decide) (t := .byte) (t' := (.array .byte)) (by decide) (by decide)))).ext E11)
  obtain ⟨T16, h16, X16, e16, W16, st16⟩ := putF X13 hx hZ11 hown11 (host := "") (Or.inl (hw _ (List.mem_of_getElem? (i := 25) rfl))) Via.refl e13 f15 f14 (Or.inr ⟨(hw _ (List.mem_of_getElem? (i := 21) rfl)), rfl, hnm⟩) (hw _ (List.mem_of_getElem? (i := 6) rfl)) (ty := .byte) (by decide) rfl rfl (g := (mkF m 23 #[.val (.ref a), .val (.ref b), .val (.int (0 : Int32)), .val (.int (0 : Int32)), .val .null, .unset] [(.int (0 : Int32)), (.ref a)])) rfl rfl (hb hby d_jdk_42_method_149_code_23)
  have k16 : To p.tables e below S0 (T16.setTop (mkF m 26 #[.val (.ref a), .val (.ref b), .val (.int (0 : Int32)), .val (.int (0 : Int32)), .val .null, .unset] [])) := fun tt hq => k13 tt (st16 tt hq)
  have z16 : h16.size = h11.size := W16.size
  have F16 := f15.same W16
  have N16 := Fr.snoc X16 N9 (by omega : n0 ≤ a)
  have C16 := C11.trans (CHr.wr W16 f12 C11.1)
  have f17 : Arv Z h16 b4 c4 .byte (0 : Int32) [] (.int 0) := (((V4.other W9 (adr_ne (by omega))).ext E11).other W16 (adr_ne (by omega)))
  have f18 : Exa Z h16 a "java/lang/String" := (f14.wr W16)
  have f19 : Fld Z h16 a "java/lang/String" "value" "[B" (.ref b4) := ((F9.ext E11).other W16 (Or.inr (slot_ne (Or.inr (hw _ (List.mem_of_getElem? (i := 20) rfl))) (Or.inr (hw _ (List.mem_of_getElem? (i := 21) rfl))) (by decide) (t := (.array .byte)) (t' := .byte) (by decide) (by decide))))
  refine retVoidW X16 hx hZ11 (own_EW hw) hS11 (by omega) C16 e16 hret hlk (hb hby d_jdk_42_method_149_code_26) k16 ?_ (by decide) (by decide)
  exact ⟨rfl, N16, (((((Keep.refl h0 [a]).ext E4).wr W9 (Or.inl (by simp))).ext E11).wr W16 (Or.inl (by simp))), b4, c4, f17.lt, f18, f19, F16, f17⟩
set_option maxRecDepth 65536 in
set_option maxHeartbeats 40000000 in
theorem rm_n1_0 (l : Launch) (Z : State) (a0 : Array Value) (hw : ∀ d ∈ tables_1, d.before a0 Z = true) (a : Addr) (b : Addr) (kb : ClassId) (u1 : Value) (u2 : Value) (h0 : Heap) (n0 : Nat) (hn0 : n0 ≤ h0.size) (E0 : Exa Z h0 a "java/lang/String") (F1 : Fld Z h0 a "java/lang/String" "value" "[B" u1) (F2 : Fld Z h0 a "java/lang/String" "coder" "B" u2) (P0 : Arv Z h0 b kb .char (0 : Int32) [] (.int (0 : Int32))) (ga : n0 ≤ a) (ya : @LT.lt Nat instLTNat a h0.size) :
    ConW l Z own_EL (⟨"java/lang/String", "<init>", "([C)V"⟩ : MethodName) jdk_42_method_3_code 2 none [] ({ frames := 2, cells := 4, slots := 8, locals := 29 } : Room) #[(.ref a), (.ref b)] h0 [a] (fun v h L => v = none ∧ Fr n0 L ∧ Keep h0 h [a] ∧ ∃ (t : Addr) (k : ClassId), (@LT.lt Nat instLTNat t h.size) ∧ Exa Z h a "java/lang/String" ∧ Fld Z h a "java/lang/String" "value" "[B" (.ref t) ∧ Fld Z h a "java/lang/String" "coder" "B" (.int (0 : Int32)) ∧ Arv Z h t k .byte (0 : Int32) [] (.int 0)) := by
  refine enterW (Ls := #[.val (.ref a), .val (.ref b)]) (plainFor_of_name pn_1) (fun m => by exact entry_eq rfl) ?_
  intro p e s m below meth cd_ s₁ S0 vm0 hx hby hml hret hlk hnm hown hZ X0 e0 k0 C0 hsf hS0
  have N0 := Fr.nil n0
  have Sf_a : Safe Z own_EL vm0 h0 a := hsf _ (List.mem_of_getElem? (i := 0) rfl)
  have k1 : To p.tables e below S0 (s₁.setTop (mkF m 4 #[.val (.ref a), .val (.ref b)] [(.ref b), (.int (0 : Int32)), (.ref b), (.ref a)])) := fun tt hq => k0 tt (by
    show Steps _ _ _ (s₁.setTop (mkF m 0 #[.val (.ref a), .val (.ref b)] [])) _
    refine XS.aloadN X0.here hx rfl (hb hby d_jdk_42_method_3_code_0) rfl rfl ?_
    show Steps _ _ _ (s₁.setTop (mkF m 1 #[.val (.ref a), .val (.ref b)] [(.ref a)])) _
    refine XS.aloadN X0.here hx rfl (hb hby d_jdk_42_method_3_code_1) rfl rfl ?_
    show Steps _ _ _ (s₁.setTop (mkF m 2 #[.val (.ref a), .val (.ref b)] [(.ref b), (.ref a)])) _
    refine XS.iconst X0.here hx rfl (hb hby d_jdk_42_method_3_code_2) ?_
    show Steps _ _ _ (s₁.setTop (mkF m 3 #[.val (.ref a), .val (.ref b)] [(.int (0 : Int32)), (.ref b), (.ref a)])) _
    refine XS.aloadN X0.here hx rfl (hb hby d_jdk_42_method_3_code_3) rfl rfl ?_
    show Steps _ _ _ (s₁.setTop (mkF m 4 #[.val (.ref a), .val (.ref b)] [(.ref b), (.int (0 : Int32)), (.ref b), (.ref a)])) _
    exact hq)
  obtain ⟨cl2, Ar2, -, S2, M2, -, -⟩ := id P0
  have st2 := fun tt => X0.arraylength hx (by rw [e0]; exact Ar2.1) (State.isArrayOf_alike hZ.alike Ar2.2.1) (g := (mkF m 4 #[.val (.ref a), .val (.ref b)] [(.ref b), (.int (0 : Int32)), (.ref b), (.ref a)])) rfl rfl (hb hby d_jdk_42_method_3_code_4) tt
  rw [len_of S2 M2] at st2
  have k2 : To p.tables e below S0 (s₁.setTop (mkF m 5 #[.val (.ref a), .val (.ref b)] [(.int (0 : Int32)), (.int (0 : Int32)), (.ref b), (.ref a)])) := fun tt hq => k1 tt (st2 tt hq)
  have k3 : To p.tables e below S0 (s₁.setTop (mkF m 6 #[.val (.ref a), .val (.ref b)] [.null, (.int (0 : Int32)), (.int (0 : Int32)), (.ref b), (.ref a)])) := fun tt hq => k2 tt (by
    show Steps _ _ _ (s₁.setTop (mkF m 5 #[.val (.ref a), .val (.ref b)] [(.int (0 : Int32)), (.int (0 : Int32)), (.ref b), (.ref a)])) _
    refine XS.aconstNull X0.here hx rfl (hb hby d_jdk_42_method_3_code_5) ?_
    show Steps _ _ _ (s₁.setTop (mkF m 6 #[.val (.ref a), .val (.ref b)] [.null, (.int (0 : Int32)), (.int (0 : Int32)), (.ref b), (.ref a)])) _
    exact hq)
  obtain ⟨_, T4, L4, X4, ⟨rfl, Nq4, Kq4, t4, kt4, gt4, P40, P41, P42, P43⟩, k4a, Cq4, hS4, hZ4, hown4⟩ := callCW X0 hx hZ (y := (⟨"java/lang/String", "<init>", "([CIILjava/lang/Void;)V"⟩ : MethodName)) rfl hown hS0 (by omega) (hw _ (List.mem_of_getElem? (i := 11) rfl)) (hw _ (List.mem_of_getElem? (i := 12) rfl)) (hw _ (List.mem_of_getElem? (i := 14) rfl)) (by decide) (backOfW (W := 0) (rm_n4_0 l Z a0 hw a b kb u1 u2 h0 n0 (by omega) E0 F1 F2 P0 (by omega) (by omega)) hZ (hw _ (List.mem_of_getElem? (i := 14) rfl)) (hw _ (List.mem_of_getElem? (i := 7) rfl)) (by decide) (by decide) (own_EW hw) C0.1 (allS ⟨adr_lt (by omega), Sf_a⟩ all0)) e0 (argsL := [(.ref b), (.int (0 : Int32)), (.int (0 : Int32)), .null]) (rest := []) rfl rfl pd_3 rfl (by rw [hml]; rfl) (hb hby d_jdk_42_method_3_code_6) (Nat.le_of_eq rfl) (by decide) (by decide) k3
  have k4 : To p.tables e below S0 (T4.setTop (mkF m 9 #[.val (.ref a), .val (.ref b)] [])) := k4a
  have N4 := N0.app Nq4
  obtain ⟨h4, e4⟩ : ∃ z, T4.heap = z := ⟨_, rfl⟩
  rw [e4] at Kq4 gt4 P40 P41 P42 P43 Cq4 hS4
  have z4 : h0.size ≤ h4.size := Kq4.1
  have C4 := C0.trans Cq4
  refine retVoidW X4 hx hZ4 (own_EW hw) hS4 (by omega) C4 e4 hret hlk (hb hby d_jdk_42_method_3_code_9) k4 ?_ (by decide) (by decide)
  exact ⟨rfl, N4, ((Keep.refl h0 [a]).trans Kq4 (allS (Or.inl (by simp)) all0)), t4, kt4, P43.lt, P40, P41, P42, P43⟩
theorem d_method_2_code_0 : decode method_2_code 0 = .ok (.iload_n 0, 1) := by decide +kernel
theorem d_method_2_code_1 : decode method_2_code 1 = .ok (.iconst 3, 1) := by decide +kernel
theorem d_method_2_code_2 : decode method_2_code 2 = .ok (.iand, 1) := by decide +kernel
theorem d_method_2_code_3 : decode method_2_code 3 = .ok (.istore 4, 2) := by decide +kernel
theorem d_method_2_code_5 : decode method_2_code 5 = .ok (.iload 4, 2) := by decide +kernel
theorem d_method_2_code_7 : decode method_2_code 7 = .ok (.ifCond .ne 11, 3) := by decide +kernel
theorem d_method_2_code_10 : decode method_2_code 10 = .ok (.iconst 0, 1) := by decide +kernel
theorem d_method_2_code_11 : decode method_2_code 11 = .ok (.newarray .char, 2) := by decide +kernel
theorem d_method_2_code_13 : decode method_2_code 13 = .ok (.astore 5, 2) := by decide +kernel
theorem d_method_2_code_15 : decode method_2_code 15 = .ok (.goto 90, 3) := by decide +kernel
theorem d_method_2_code_18 : decode method_2_code 18 = .ok (.iload 4, 2) := by decide +kernel
theorem d_method_2_code_20 : decode method_2_code 20 = .ok (.iconst 1, 1) := by decide +kernel
theorem d_method_2_code_21 : decode method_2_code 21 = .ok (.if_icmp .ne 20, 3) := by decide +kernel
theorem d_method_2_code_24 : decode method_2_code 24 = .ok (.iconst 1, 1) := by decide +kernel
theorem d_method_2_code_25 : decode method_2_code 25 = .ok (.newarray .char, 2) := by decide +kernel
theorem d_method_2_code_27 : decode method_2_code 27 = .ok (.dup, 1) := by decide +kernel
theorem d_method_2_code_28 : decode method_2_code 28 = .ok (.iconst 0, 1) := by decide +kernel
theorem d_method_2_code_29 : decode method_2_code 29 = .ok (.iload_n 1, 1) := by decide +kernel
theorem d_method_2_code_30 : decode method_2_code 30 = .ok (.sipush 255, 3) := by decide +kernel
theorem d_method_2_code_33 : decode method_2_code 33 = .ok (.iand, 1) := by decide +kernel
theorem d_method_2_code_34 : decode method_2_code 34 = .ok (.i2c, 1) := by decide +kernel
theorem d_method_2_code_35 : decode method_2_code 35 = .ok (.castore, 1) := by decide +kernel
theorem d_method_2_code_36 : decode method_2_code 36 = .ok (.astore 5, 2) := by decide +kernel
theorem d_method_2_code_38 : decode method_2_code 38 = .ok (.goto 67, 3) := by decide +kernel
theorem d_method_2_code_41 : decode method_2_code 41 = .ok (.iload 4, 2) := by decide +kernel
theorem d_method_2_code_43 : decode method_2_code 43 = .ok (.iconst 2, 1) := by decide +kernel
theorem d_method_2_code_44 : decode method_2_code 44 = .ok (.if_icmp .ne 29, 3) := by decide +kernel
theorem d_method_2_code_47 : decode method_2_code 47 = .ok (.iconst 2, 1) := by decide +kernel
theorem d_method_2_code_48 : decode method_2_code 48 = .ok (.newarray .char, 2) := by decide +kernel
theorem d_method_2_code_50 : decode method_2_code 50 = .ok (.dup, 1) := by decide +kernel
theorem d_method_2_code_51 : decode method_2_code 51 = .ok (.iconst 0, 1) := by decide +kernel
theorem d_method_2_code_52 : decode method_2_code 52 = .ok (.iload_n 1, 1) := by decide +kernel
theorem d_method_2_code_53 : decode method_2_code 53 = .ok (.sipush 255, 3) := by decide +kernel
theorem d_method_2_code_56 : decode method_2_code 56 = .ok (.iand, 1) := by decide +kernel
theorem d_method_2_code_57 : decode method_2_code 57 = .ok (.i2c, 1) := by decide +kernel
theorem d_method_2_code_58 : decode method_2_code 58 = .ok (.castore, 1) := by decide +kernel
theorem d_method_2_code_59 : decode method_2_code 59 = .ok (.dup, 1) := by decide +kernel
theorem d_method_2_code_60 : decode method_2_code 60 = .ok (.iconst 1, 1) := by decide +kernel
theorem d_method_2_code_61 : decode method_2_code 61 = .ok (.iload_n 2, 1) := by decide +kernel
theorem d_method_2_code_62 : decode method_2_code 62 = .ok (.sipush 255, 3) := by decide +kernel
theorem d_method_2_code_65 : decode method_2_code 65 = .ok (.iand, 1) := by decide +kernel
theorem d_method_2_code_66 : decode method_2_code 66 = .ok (.i2c, 1) := by decide +kernel
theorem d_method_2_code_67 : decode method_2_code 67 = .ok (.castore, 1) := by decide +kernel
theorem d_method_2_code_68 : decode method_2_code 68 = .ok (.astore 5, 2) := by decide +kernel
theorem d_method_2_code_70 : decode method_2_code 70 = .ok (.goto 35, 3) := by decide +kernel
theorem d_method_2_code_73 : decode method_2_code 73 = .ok (.iconst 3, 1) := by decide +kernel
theorem d_method_2_code_74 : decode method_2_code 74 = .ok (.newarray .char, 2) := by decide +kernel
theorem d_method_2_code_76 : decode method_2_code 76 = .ok (.dup, 1) := by decide +kernel
theorem d_method_2_code_77 : decode method_2_code 77 = .ok (.iconst 0, 1) := by decide +kernel
theorem d_method_2_code_78 : decode method_2_code 78 = .ok (.iload_n 1, 1) := by decide +kernel
theorem d_method_2_code_79 : decode method_2_code 79 = .ok (.sipush 255, 3) := by decide +kernel
theorem d_method_2_code_82 : decode method_2_code 82 = .ok (.iand, 1) := by decide +kernel
theorem d_method_2_code_83 : decode method_2_code 83 = .ok (.i2c, 1) := by decide +kernel
theorem d_method_2_code_84 : decode method_2_code 84 = .ok (.castore, 1) := by decide +kernel
theorem d_method_2_code_85 : decode method_2_code 85 = .ok (.dup, 1) := by decide +kernel
theorem d_method_2_code_86 : decode method_2_code 86 = .ok (.iconst 1, 1) := by decide +kernel
theorem d_method_2_code_87 : decode method_2_code 87 = .ok (.iload_n 2, 1) := by decide +kernel
theorem d_method_2_code_88 : decode method_2_code 88 = .ok (.sipush 255, 3) := by decide +kernel
theorem d_method_2_code_91 : decode method_2_code 91 = .ok (.iand, 1) := by decide +kernel
theorem d_method_2_code_92 : decode method_2_code 92 = .ok (.i2c, 1) := by decide +kernel
theorem d_method_2_code_93 : decode method_2_code 93 = .ok (.castore, 1) := by decide +kernel
theorem d_method_2_code_94 : decode method_2_code 94 = .ok (.dup, 1) := by decide +kernel
theorem d_method_2_code_95 : decode method_2_code 95 = .ok (.iconst 2, 1) := by decide +kernel
theorem d_method_2_code_96 : decode method_2_code 96 = .ok (.iload_n 3, 1) := by decide +kernel
theorem d_method_2_code_97 : decode method_2_code 97 = .ok (.sipush 255, 3) := by decide +kernel
theorem d_method_2_code_100 : decode method_2_code 100 = .ok (.iand, 1) := by decide +kernel
theorem d_method_2_code_101 : decode method_2_code 101 = .ok (.i2c, 1) := by decide +kernel
theorem d_method_2_code_102 : decode method_2_code 102 = .ok (.castore, 1) := by decide +kernel
theorem d_method_2_code_103 : decode method_2_code 103 = .ok (.astore 5, 2) := by decide +kernel
theorem d_method_2_code_105 : decode method_2_code 105 = .ok (.new 7, 3) := by decide +kernel
theorem d_method_2_code_108 : decode method_2_code 108 = .ok (.dup, 1) := by decide +kernel
theorem d_method_2_code_109 : decode method_2_code 109 = .ok (.aload 5, 2) := by decide +kernel
theorem d_method_2_code_111 : decode method_2_code 111 = .ok (.invokespecial 9, 3) := by decide +kernel
theorem d_method_2_code_114 : decode method_2_code 114 = .ok (.areturn, 1) := by decide +kernel
theorem pn_2 : plainName "com/example/debtd/debtd/service/EnteredExpenseUnreadablePinLaw" = true := by first | (simp [plainName, overriddenIn]; done) | decide +kernel
theorem pd_4 : parseMethodDescriptor "([C)V" = some ⟨[(.array .char)], none⟩ := by decide +kernel
set_option maxRecDepth 65536 in
set_option maxHeartbeats 40000000 in
theorem rm_draw (l : Launch) (Z : State) (a0 : Array Value) (hw : ∀ d ∈ tables_1, d.before a0 Z = true) (zc : Int32) (n : Int32) (i : Int32) (j : Int32) (k : Int32) (h0 : Heap) (n0 : Nat) (hn0 : n0 ≤ h0.size) (S_c : Sta Z Z.heap "java/lang/String" "COMPACT_STRINGS" "Z" (.int zc)) (hzc : ¬ zc = (0 : Int32)) (O0 : Old Z n0 h0) :
    ConW l Z own_EL (⟨"com/example/debtd/debtd/service/EnteredExpenseUnreadablePinLaw", "draw", "(IIII)Ljava/lang/String;"⟩ : MethodName) method_2_code 6 (some (.object "java/lang/String")) [] ({ frames := 4, cells := 6, slots := 12, locals := 66 } : Room) #[(.int n), (.int i), (.int j), (.int k)] h0 [] (fun v h L => ∃ a : Addr, v = some (.ref a) ∧ Fr n0 L ∧ h0.size ≤ a ∧ Keep h0 h [] ∧ Exa Z h a "java/lang/String") := by
  refine enterW (Ls := #[.val (.int n), .val (.int i), .val (.int j), .val (.int k), .unset, .unset]) (plainFor_of_name pn_2) (fun m => by exact entry_eq rfl) ?_
  intro p e s m below meth cd_ s₁ S0 vm0 hx hby hml hret hlk hnm hown hZ X0 e0 k0 C0 hsf hS0
  have N0 := Fr.nil n0
  have k1 : To p.tables e below S0 (s₁.setTop (mkF m 7 #[.val (.int n), .val (.int i), .val (.int j), .val (.int k), .val (.int (n &&& (3 : Int32))), .unset] [(.int (n &&& (3 : Int32)))])) := fun tt hq => k0 tt (by
    show Steps _ _ _ (s₁.setTop (mkF m 0 #[.val (.int n), .val (.int i), .val (.int j), .val (.int k), .unset, .unset] [])) _
    refine XS.iloadN X0.here hx rfl (hb hby d_method_2_code_0) rfl ?_
    show Steps _ _ _ (s₁.setTop (mkF m 1 #[.val (.int n), .val (.int i), .val (.int j), .val (.int k), .unset, .unset] [(.int n)])) _
    refine XS.iconst X0.here hx rfl (hb hby d_method_2_code_1) ?_
    show Steps _ _ _ (s₁.setTop (mkF m 2 #[.val (.int n), .val (.int i), .val (.int j), .val (.int k), .unset, .unset] [(.int (3 : Int32)), (.int n)])) _
    refine XS.iand X0.here hx rfl (hb hby d_method_2_code_2) rfl ?_
    show Steps _ _ _ (s₁.setTop (mkF m 3 #[.val (.int n), .val (.int i), .val (.int j), .val (.int k), .unset, .unset] [(.int (n &&& (3 : Int32)))])) _
    refine XS.istore X0.here hx rfl (hb hby d_method_2_code_3) rfl (l' := #[.val (.int n), .val (.int i), .val (.int j), .val (.int k), .val (.int (n &&& (3 : Int32))), .unset]) rfl ?_
    show Steps _ _ _ (s₁.setTop (mkF m 5 #[.val (.int n), .val (.int i), .val (.int j), .val (.int k), .val (.int (n &&& (3 : Int32))), .unset] [])) _
    refine XS.iload X0.here hx rfl (hb hby d_method_2_code_5) rfl ?_
    show Steps _ _ _ (s₁.setTop (mkF m 7 #[.val (.int n), .val (.int i), .val (.int j), .val (.int k), .val (.int (n &&& (3 : Int32))), .unset] [(.int (n &&& (3 : Int32)))])) _
    exact hq)
  by_cases hc7_2 : (n &&& (3 : Int32)) = (0 : Int32)
  · -- pc 7, holds
    have k3 : To p.tables e below S0 (s₁.setTop (mkF m 11 #[.val (.int n), .val (.int i), .val (.int j), .val (.int k), .val (.int (n &&& (3 : Int32))), .unset] [(.int (0 : Int32))])) := fun tt hq => k1 tt (by
      show Steps _ _ _ (s₁.setTop (mkF m 7 #[.val (.int n), .val (.int i), .val (.int j), .val (.int k), .val (.int (n &&& (3 : Int32))), .unset] [(.int (n &&& (3 : Int32)))])) _
      refine XS.ifNo X0.here hx rfl (hb hby d_method_2_code_7) rfl ((if0 _ _).trans (teq hc7_2).2) ?_
      show Steps _ _ _ (s₁.setTop (mkF m 10 #[.val (.int n), .val (.int i), .val (.int j), .val (.int k), .val (.int (n &&& (3 : Int32))), .unset] [])) _
      refine XS.iconst X0.here hx rfl (hb hby d_method_2_code_10) ?_
      show Steps _ _ _ (s₁.setTop (mkF m 11 #[.val (.int n), .val (.int i), .val (.int j), .val (.int k), .val (.int (n &&& (3 : Int32))), .unset] [(.int (0 : Int32))])) _
      exact hq)
    obtain ⟨T4, h4, c4, X4, e4, E4, A4, st4⟩ := newP X0 hx hZ (hw _ (List.mem_of_getElem? (i := 4) rfl)) e0 (g := (mkF m 11 #[.val (.int n), .val (.int i), .val (.int j), .val (.int k), .val (.int (n &&& (3 : Int32))), .unset] [(.int (0 : Int32))])) rfl (hb hby d_method_2_code_11) rfl (by decide) (cap := 0) (by decide) (by decide) (by decide) (by decide)
    obtain ⟨b4, g4⟩ : ∃ z, z = h0.size := ⟨_, rfl⟩
    rw [← g4] at A4 st4
    have k4 : To p.tables e below S0 (T4.setTop (mkF m 13 #[.val (.int n), .val (.int i), .val (.int j), .val (.int k), .val (.int (n &&& (3 : Int32))), .unset] [(.ref b4)])) := fun tt hq => k3 tt (st4 tt hq)
    have z4 : h0.size ≤ h4.size := E4.1
    have C4 := C0.trans (CHr.ext E4 C0.1)
    have V4 : Arv Z h4 b4 c4 .char (0 : Int32) [] (.int (0 : Int32)) := (Arv.new A4 (by decide)).pad (pad_rep [] (.int (0 : Int32)) 0)
    have y4 : @LT.lt Nat instLTNat b4 h4.size := V4.lt
    have k5 : To p.tables e below S0 (T4.setTop (mkF m 105 #[.val (.int n), .val (.int i), .val (.int j), .val (.int k), .val (.int (n &&& (3 : Int32))), .val (.ref b4)] [])) := fun tt hq => k4 tt (by
      show Steps _ _ _ (T4.setTop (mkF m 13 #[.val (.int n), .val (.int i), .val (.int j), .val (.int k), .val (.int (n &&& (3 : Int32))), .unset] [(.ref b4)])) _
      refine XS.astore X4.here hx rfl (hb hby d_method_2_code_13) rfl rfl (l' := #[.val (.int n), .val (.int i), .val (.int j), .val (.int k), .val (.int (n &&& (3 : Int32))), .val (.ref b4)]) rfl ?_
      show Steps _ _ _ (T4.setTop (mkF m 15 #[.val (.int n), .val (.int i), .val (.int j), .val (.int k), .val (.int (n &&& (3 : Int32))), .val (.ref b4)] [])) _
      refine XS.goto X4.here hx rfl (pc0 := 15) (pc' := 105) rfl (hb hby d_method_2_code_15) (by decide) (by decide) ?_
      show Steps _ _ _ (T4.setTop (mkF m 105 #[.val (.int n), .val (.int i), .val (.int j), .val (.int k), .val (.int (n &&& (3 : Int32))), .val (.ref b4)] [])) _
      exact hq)
    obtain ⟨T6, h6, X6, e6, E6, A6, D6, -, st6⟩ := newO X4 hx hZ hown (hw _ (List.mem_of_getElem? (i := 5) rfl)) (hw _ (List.mem_of_getElem? (i := 6) rfl)) (hw _ (List.mem_of_getElem? (i := 7) rfl)) e4 (g := (mkF m 105 #[.val (.int n), .val (.int i), .val (.int j), .val (.int k), .val (.int (n &&& (3 : Int32))), .val (.ref b4)] [])) rfl (hb hby d_method_2_code_105) (by decide) (by decide)
    obtain ⟨b6, g6⟩ : ∃ z, z = h4.size := ⟨_, rfl⟩
    rw [← g6] at A6 D6 st6
    have k6 : To p.tables e below S0 (T6.setTop (mkF m 108 #[.val (.int n), .val (.int i), .val (.int j), .val (.int k), .val (.int (n &&& (3 : Int32))), .val (.ref b4)] [(.ref b6)])) := fun tt hq => k5 tt (st6 tt hq)
    have z6 : h4.size ≤ h6.size := E6.1
    have y6 : @LT.lt Nat instLTNat b6 h6.size := A6.lt
    have C6 := C4.trans (CHr.ext E6 C4.1)
    have Sf6 : Safe Z own_EL vm0 h6 b6 := Safe.ext E6 C4.1 (Safe.new (by omega))
    have F6_value : Fld Z h6 b6 "java/lang/String" "value" "[B" .null := D6 (Or.inr (hw _ (List.mem_of_getElem? (i := 20) rfl))) (ty := (.array .byte)) (by decide)
    have F6_coder : Fld Z h6 b6 "java/lang/String" "coder" "B" (.int (0 : Int32)) := D6 (Or.inr (hw _ (List.mem_of_getElem? (i := 21) rfl))) (ty := .byte) (by decide)
    have k7 : To p.tables e below S0 (T6.setTop (mkF m 111 #[.val (.int n), .val (.int i), .val (.int j), .val (.int k), .val (.int (n &&& (3 : Int32))), .val (.ref b4)] [(.ref b4), (.ref b6), (.ref b6)])) := fun tt hq => k6 tt (by
      show Steps _ _ _ (T6.setTop (mkF m 108 #[.val (.int n), .val (.int i), .val (.int j), .val (.int k), .val (.int (n &&& (3 : Int32))), .val (.ref b4)] [(.ref b6)])) _
      refine XS.dup X6.here hx rfl (hb hby d_method_2_code_108) rfl rfl ?_
      show Steps _ _ _ (T6.setTop (mkF m 109 #[.val (.int n), .val (.int i), .val (.int j), .val (.int k), .val (.int (n &&& (3 : Int32))), .val (.ref b4)] [(.ref b6), (.ref b6)])) _
      refine XS.aload X6.here hx rfl (hb hby d_method_2_code_109) rfl rfl ?_
      show Steps _ _ _ (T6.setTop (mkF m 111 #[.val (.int n), .val (.int i), .val (.int j), .val (.int k), .val (.int (n &&& (3 : Int32))), .val (.ref b4)] [(.ref b4), (.ref b6), (.ref b6)])) _
      exact hq)
    have f8 : Arv Z h6 b4 c4 .char (0 : Int32) [] (.int (0 : Int32)) := (V4.ext E6)
    obtain ⟨_, T9, L9, X9, ⟨rfl, Nq9, Kq9, t9, kt9, gt9, P90, P91, P92, P93⟩, k9a, Cq9, hS9, hZ9, hown9⟩ := callCW X6 hx hZ (y := (⟨"java/lang/String", "<init>", "([C)V"⟩ : MethodName)) rfl hown hS0 (by omega) (hw _ (List.mem_of_getElem? (i := 8) rfl)) (hw _ (List.mem_of_getElem? (i := 9) rfl)) (hw _ (List.mem_of_getElem? (i := 10) rfl)) (by decide) (backOfW (W := 1) (rm_n1_0 l Z a0 hw b6 b4 c4 .null (.int (0 : Int32)) h6 n0 (by omega) A6 F6_value F6_coder f8 (by omega) (by omega)) hZ (hw _ (List.mem_of_getElem? (i := 10) rfl)) (hw _ (List.mem_of_getElem? (i := 7) rfl)) (by decide) (by decide) (own_EW hw) C6.1 (allS ⟨adr_lt (by omega), Sf6⟩ all0)) e6 (argsL := [(.ref b4)]) (rest := [(.ref b6)]) rfl rfl pd_4 rfl (by rw [hml]; rfl) (hb hby d_method_2_code_111) (Nat.le_of_eq rfl) (by decide) (by decide) k7
    have k9 : To p.tables e below S0 (T9.setTop (mkF m 114 #[.val (.int n), .val (.int i), .val (.int j), .val (.int k), .val (.int (n &&& (3 : Int32))), .val (.ref b4)] [(.ref b6)])) := k9a
    have N9 := N0.app Nq9
    obtain ⟨h9, e9⟩ : ∃ z, T9.heap = z := ⟨_, rfl⟩
    rw [e9] at Kq9 gt9 P90 P91 P92 P93 Cq9 hS9
    have z9 : h6.size ≤ h9.size := Kq9.1
    have C9 := C6.trans Cq9
    refine retRefW X9 hx hZ9 (own_EW hw) hS9 (by omega) C9 e9 hret hlk rfl rfl (hb hby d_method_2_code_114) k9 ?_ (by decide) (by decide)
    exact ⟨_, rfl, N9, (by omega), ((((Keep.refl h0 []).ext E4).ext E6).trans Kq9 (allS (Or.inr (by omega)) all0)), P90⟩
  · -- pc 7, holds not
    have k10 : To p.tables e below S0 (s₁.setTop (mkF m 21 #[.val (.int n), .val (.int i), .val (.int j), .val (.int k), .val (.int (n &&& (3 : Int32))), .unset] [(.int (1 : Int32)), (.int (n &&& (3 : Int32)))])) := fun tt hq => k1 tt (by
      show Steps _ _ _ (s₁.setTop (mkF m 7 #[.val (.int n), .val (.int i), .val (.int j), .val (.int k), .val (.int (n &&& (3 : Int32))), .unset] [(.int (n &&& (3 : Int32)))])) _
      refine XS.ifYes X0.here hx rfl (pc0 := 7) (pc' := 18) rfl (hb hby d_method_2_code_7) rfl ((if0 _ _).trans (feq hc7_2).2) (by decide) (by decide) ?_
      show Steps _ _ _ (s₁.setTop (mkF m 18 #[.val (.int n), .val (.int i), .val (.int j), .val (.int k), .val (.int (n &&& (3 : Int32))), .unset] [])) _
      refine XS.iload X0.here hx rfl (hb hby d_method_2_code_18) rfl ?_
      show Steps _ _ _ (s₁.setTop (mkF m 20 #[.val (.int n), .val (.int i), .val (.int j), .val (.int k), .val (.int (n &&& (3 : Int32))), .unset] [(.int (n &&& (3 : Int32)))])) _
      refine XS.iconst X0.here hx rfl (hb hby d_method_2_code_20) ?_
      show Steps _ _ _ (s₁.setTop (mkF m 21 #[.val (.int n), .val (.int i), .val (.int j), .val (.int k), .val (.int (n &&& (3 : Int32))), .unset] [(.int (1 : Int32)), (.int (n &&& (3 : Int32)))])) _
      exact hq)
    by_cases hc21_11 : (n &&& (3 : Int32)) = (1 : Int32)
    · -- pc 21, holds
      have k12 : To p.tables e below S0 (s₁.setTop (mkF m 25 #[.val (.int n), .val (.int i), .val (.int j), .val (.int k), .val (.int (n &&& (3 : Int32))), .unset] [(.int (1 : Int32))])) := fun tt hq => k10 tt (by
        show Steps _ _ _ (s₁.setTop (mkF m 21 #[.val (.int n), .val (.int i), .val (.int j), .val (.int k), .val (.int (n &&& (3 : Int32))), .unset] [(.int (1 : Int32)), (.int (n &&& (3 : Int32)))])) _
        refine XS.icmpNo X0.here hx rfl (hb hby d_method_2_code_21) rfl (teq hc21_11).2 ?_
        show Steps _ _ _ (s₁.setTop (mkF m 24 #[.val (.int n), .val (.int i), .val (.int j), .val (.int k), .val (.int (n &&& (3 : Int32))), .unset] [])) _
        refine XS.iconst X0.here hx rfl (hb hby d_method_2_code_24) ?_
        show Steps _ _ _ (s₁.setTop (mkF m 25 #[.val (.int n), .val (.int i), .val (.int j), .val (.int k), .val (.int (n &&& (3 : Int32))), .unset] [(.int (1 : Int32))])) _
        exact hq)
      obtain ⟨T13, h13, c13, X13, e13, E13, A13, st13⟩ := newP X0 hx hZ (hw _ (List.mem_of_getElem? (i := 4) rfl)) e0 (g := (mkF m 25 #[.val (.int n), .val (.int i), .val (.int j), .val (.int k), .val (.int (n &&& (3 : Int32))), .unset] [(.int (1 : Int32))])) rfl (hb hby d_method_2_code_25) rfl (by decide) (cap := 1) (by decide) (by decide) (by decide) (by decide)
      obtain ⟨b13, g13⟩ : ∃ z, z = h0.size := ⟨_, rfl⟩
      rw [← g13] at A13 st13
      have k13 : To p.tables e below S0 (T13.setTop (mkF m 27 #[.val (.int n), .val (.int i), .val (.int j), .val (.int k), .val (.int (n &&& (3 : Int32))), .unset] [(.ref b13)])) := fun tt hq => k12 tt (st13 tt hq)
      have z13 : h0.size ≤ h13.size := E13.1
      have C13 := C0.trans (CHr.ext E13 C0.1)
      have V13 : Arv Z h13 b13 c13 .char (1 : Int32) [(.int (0 : Int32))] (.int (0 : Int32)) := (Arv.new A13 (by decide)).pad (pad_rep [] (.int (0 : Int32)) 1)
      have y13 : @LT.lt Nat instLTNat b13 h13.size := V13.lt
      have k14 : To p.tables e below S0 (T13.setTop (mkF m 35 #[.val (.int n), .val (.int i), .val (.int j), .val (.int k), .val (.int (n &&& (3 : Int32))), .unset] [(.int ((i &&& (255 : Int32)).toUInt32.toUInt16.toUInt32.toInt32)), (.int (0 : Int32)), (.ref b13), (.ref b13)])) := fun tt hq => k13 tt (by
        show Steps _ _ _ (T13.setTop (mkF m 27 #[.val (.int n), .val (.int i), .val (.int j), .val (.int k), .val (.int (n &&& (3 : Int32))), .unset] [(.ref b13)])) _
        refine XS.dup X13.here hx rfl (hb hby d_method_2_code_27) rfl rfl ?_
        show Steps _ _ _ (T13.setTop (mkF m 28 #[.val (.int n), .val (.int i), .val (.int j), .val (.int k), .val (.int (n &&& (3 : Int32))), .unset] [(.ref b13), (.ref b13)])) _
        refine XS.iconst X13.here hx rfl (hb hby d_method_2_code_28) ?_
        show Steps _ _ _ (T13.setTop (mkF m 29 #[.val (.int n), .val (.int i), .val (.int j), .val (.int k), .val (.int (n &&& (3 : Int32))), .unset] [(.int (0 : Int32)), (.ref b13), (.ref b13)])) _
        refine XS.iloadN X13.here hx rfl (hb hby d_method_2_code_29) rfl ?_
        show Steps _ _ _ (T13.setTop (mkF m 30 #[.val (.int n), .val (.int i), .val (.int j), .val (.int k), .val (.int (n &&& (3 : Int32))), .unset] [(.int i), (.int (0 : Int32)), (.ref b13), (.ref b13)])) _
        refine XS.sipush X13.here hx rfl (hb hby d_method_2_code_30) ?_
        show Steps _ _ _ (T13.setTop (mkF m 33 #[.val (.int n), .val (.int i), .val (.int j), .val (.int k), .val (.int (n &&& (3 : Int32))), .unset] [(.int (255 : Int32)), (.int i), (.int (0 : Int32)), (.ref b13), (.ref b13)])) _
        refine XS.iand X13.here hx rfl (hb hby d_method_2_code_33) rfl ?_
        show Steps _ _ _ (T13.setTop (mkF m 34 #[.val (.int n), .val (.int i), .val (.int j), .val (.int k), .val (.int (n &&& (3 : Int32))), .unset] [(.int (i &&& (255 : Int32))), (.int (0 : Int32)), (.ref b13), (.ref b13)])) _
        refine XS.i2c X13.here hx rfl (hb hby d_method_2_code_34) rfl ?_
        show Steps _ _ _ (T13.setTop (mkF m 35 #[.val (.int n), .val (.int i), .val (.int j), .val (.int k), .val (.int (n &&& (3 : Int32))), .unset] [(.int ((i &&& (255 : Int32)).toUInt32.toUInt16.toUInt32.toInt32)), (.int (0 : Int32)), (.ref b13), (.ref b13)])) _
        exact hq)
      have k15 : To p.tables e below S0 (T13.setTop (mkF m 35 #[.val (.int n), .val (.int i), .val (.int j), .val (.int k), .val (.int (n &&& (3 : Int32))), .unset] [(.int (i &&& (255 : Int32))), (.int (0 : Int32)), (.ref b13), (.ref b13)])) := by have hq := k14; rw [i2c_mask] at hq; exact hq
      obtain ⟨cl16, Ar16, q16, S16, M16, G16, J16⟩ := id V13
      obtain ⟨T16, h16, X16, e16, W16, st16⟩ := stC X13 hx hZ e13 Ar16 (j := (0 : Int32)) (inb_of S16 ⟨by decide, by decide⟩) (g := (mkF m 35 #[.val (.int n), .val (.int i), .val (.int j), .val (.int k), .val (.int (n &&& (3 : Int32))), .unset] [(.int (i &&& (255 : Int32))), (.int (0 : Int32)), (.ref b13), (.ref b13)])) rfl rfl (hb hby d_method_2_code_35)
      have k16 : To p.tables e below S0 (T16.setTop (mkF m 36 #[.val (.int n), .val (.int i), .val (.int j), .val (.int k), .val (.int (n &&& (3 : Int32))), .unset] [(.ref b13)])) := fun tt hq => k15 tt (st16 tt hq)
      have z16 : h16.size = h13.size := W16.size
      have C16 := C13.trans (CHr.wr W16 (Safe.arv hZ.alike V13 (by decide)) C13.1)
      rw [own_narc (own_m255 _)] at W16
      have V16 : Arv Z h16 b13 c13 .char (1 : Int32) [(.int (i &&& (255 : Int32)))] (.int (0 : Int32)) := Arv.set Ar16 q16 S16 M16 G16 J16 (own_fitc (own_m255 _)) W16 0 rfl (Nat.le_of_ble_eq_true rfl)
      have N16 := Fr.snoc X16 N0 (by omega : n0 ≤ b13)
      have k17 : To p.tables e below S0 (T16.setTop (mkF m 105 #[.val (.int n), .val (.int i), .val (.int j), .val (.int k), .val (.int (n &&& (3 : Int32))), .val (.ref b13)] [])) := fun tt hq => k16 tt (by
        show Steps _ _ _ (T16.setTop (mkF m 36 #[.val (.int n), .val (.int i), .val (.int j), .val (.int k), .val (.int (n &&& (3 : Int32))), .unset] [(.ref b13)])) _
        refine XS.astore X16.here hx rfl (hb hby d_method_2_code_36) rfl rfl (l' := #[.val (.int n), .val (.int i), .val (.int j), .val (.int k), .val (.int (n &&& (3 : Int32))), .val (.ref b13)]) rfl ?_
        show Steps _ _ _ (T16.setTop (mkF m 38 #[.val (.int n), .val (.int i), .val (.int j), .val (.int k), .val (.int (n &&& (3 : Int32))), .val (.ref b13)] [])) _
        refine XS.goto X16.here hx rfl (pc0 := 38) (pc' := 105) rfl (hb hby d_method_2_code_38) (by decide) (by decide) ?_
        show Steps _ _ _ (T16.setTop (mkF m 105 #[.val (.int n), .val (.int i), .val (.int j), .val (.int k), .val (.int (n &&& (3 : Int32))), .val (.ref b13)] [])) _
        exact hq)
      obtain ⟨T18, h18, X18, e18, E18, A18, D18, -, st18⟩ := newO X16 hx hZ hown (hw _ (List.mem_of_getElem? (i := 5) rfl)) (hw _ (List.mem_of_getElem? (i := 6) rfl)) (hw _ (List.mem_of_getElem? (i := 7) rfl)) e16 (g := (mkF m 105 #[.val (.int n), .val (.int i), .val (.int j), .val (.int k), .val (.int (n &&& (3 : Int32))), .val (.ref b13)] [])) rfl (hb hby d_method_2_code_105) (by decide) (by decide)
      obtain ⟨b18, g18⟩ : ∃ z, z = h16.size := ⟨_, rfl⟩
      rw [← g18] at A18 D18 st18
      have k18 : To p.tables e below S0 (T18.setTop (mkF m 108 #[.val (.int n), .val (.int i), .val (.int j), .val (.int k), .val (.int (n &&& (3 : Int32))), .val (.ref b13)] [(.ref b18)])) := fun tt hq => k17 tt (st18 tt hq)
      have z18 : h16.size ≤ h18.size := E18.1
      have y18 : @LT.lt Nat instLTNat b18 h18.size := A18.lt
      have C18 := C16.trans (CHr.ext E18 C16.1)
      have Sf18 : Safe Z own_EL vm0 h18 b18 := Safe.ext E18 C16.1 (Safe.new (by omega))
      have F18_value : Fld Z h18 b18 "java/lang/String" "value" "[B" .null := D18 (Or.inr (hw _ (List.mem_of_getElem? (i := 20) rfl))) (ty := (.array .byte)) (by decide)
      have F18_coder : Fld Z h18 b18 "java/lang/String" "coder" "B" (.int (0 : Int32)) := D18 (Or.inr (hw _ (List.mem_of_getElem? (i := 21) rfl))) (ty := .byte) (by decide)
      have k19 : To p.tables e below S0 (T18.setTop (mkF m 111 #[.val (.int n), .val (.int i), .val (.int j), .val (.int k), .val (.int (n &&& (3 : Int32))), .val (.ref b13)] [(.ref b13), (.ref b18), (.ref b18)])) := fun tt hq => k18 tt (by
        show Steps _ _ _ (T18.setTop (mkF m 108 #[.val (.int n), .val (.int i), .val (.int j), .val (.int k), .val (.int (n &&& (3 : Int32))), .val (.ref b13)] [(.ref b18)])) _
        refine XS.dup X18.here hx rfl (hb hby d_method_2_code_108) rfl rfl ?_
        show Steps _ _ _ (T18.setTop (mkF m 109 #[.val (.int n), .val (.int i), .val (.int j), .val (.int k), .val (.int (n &&& (3 : Int32))), .val (.ref b13)] [(.ref b18), (.ref b18)])) _
        refine XS.aload X18.here hx rfl (hb hby d_method_2_code_109) rfl rfl ?_
        show Steps _ _ _ (T18.setTop (mkF m 111 #[.val (.int n), .val (.int i), .val (.int j), .val (.int k), .val (.int (n &&& (3 : Int32))), .val (.ref b13)] [(.ref b13), (.ref b18), (.ref b18)])) _
        exact hq)
      have f20 : Old Z n0 h18 := (((O0.ext E13).wr W16 (by omega)).ext E18)
      have f21 : Arv Z h18 b13 c13 .char (1 : Int32) [(.int (i &&& (255 : Int32)))] (.int (0 : Int32)) := (V16.ext E18)
      obtain ⟨_, T22, L22, X22, ⟨rfl, Nq22, Kq22, t22, kt22, gt22, P220, P221, P222, P223⟩, k22a⟩ := callC' X18 hx hZ (y := (⟨"java/lang/String", "<init>", "([C)V"⟩ : MethodName)) rfl hown (hw _ (List.mem_of_getElem? (i := 8) rfl)) (hw _ (List.mem_of_getElem? (i := 9) rfl)) (hw _ (List.mem_of_getElem? (i := 10) rfl)) (by decide) (backC (W := 1) (rm_n1_1 l Z a0 hw zc b18 b13 c13 .null (.int (0 : Int32)) (i &&& (255 : Int32)) h18 n0 (by omega) S_c hzc f20 A18 F18_value F18_coder f21 (by omega) (by omega) (by omega) (by omega) (own_m255 _)) hZ (hw _ (List.mem_of_getElem? (i := 10) rfl)) (hw _ (List.mem_of_getElem? (i := 7) rfl)) (by decide) (by decide)) e18 (argsL := [(.ref b13)]) (rest := [(.ref b18)]) rfl rfl pd_4 rfl (by rw [hml]; rfl) (hb hby d_method_2_code_111) (Nat.le_of_eq rfl) (by decide) (by decide) k19
      have k22 : To p.tables e below S0 (T22.setTop (mkF m 114 #[.val (.int n), .val (.int i), .val (.int j), .val (.int k), .val (.int (n &&& (3 : Int32))), .val (.ref b13)] [(.ref b18)])) := k22a
      have N22 := N16.app Nq22
      obtain ⟨h22, e22⟩ : ∃ z, T22.heap = z := ⟨_, rfl⟩
      rw [e22] at Kq22 P220 P221 P222 P223
      have z22 : h18.size ≤ h22.size := Kq22.1
      have C22 := C18.trans (CHr.keep Kq22 (sfS Sf18 sf0) C18.1)
      have y22 : @LT.lt Nat instLTNat t22 h22.size := P223.lt
      refine retRefW X22 hx hZ (own_EW hw) hS0 (by omega) C22 e22 hret hlk rfl rfl (hb hby d_method_2_code_114) k22 ?_ (by decide) (by decide)
      exact ⟨_, rfl, N22, (by omega), (((((Keep.refl h0 []).ext E13).wr W16 (Or.inr (by omega))).ext E18).trans Kq22 (allS (Or.inr (by omega)) all0)), P220⟩
    · -- pc 21, holds not
      have k23 : To p.tables e below S0 (s₁.setTop (mkF m 44 #[.val (.int n), .val (.int i), .val (.int j), .val (.int k), .val (.int (n &&& (3 : Int32))), .unset] [(.int (2 : Int32)), (.int (n &&& (3 : Int32)))])) := fun tt hq => k10 tt (by
        show Steps _ _ _ (s₁.setTop (mkF m 21 #[.val (.int n), .val (.int i), .val (.int j), .val (.int k), .val (.int (n &&& (3 : Int32))), .unset] [(.int (1 : Int32)), (.int (n &&& (3 : Int32)))])) _
        refine XS.icmpYes X0.here hx rfl (pc0 := 21) (pc' := 41) rfl (hb hby d_method_2_code_21) rfl (feq hc21_11).2 (by decide) (by decide) ?_
        show Steps _ _ _ (s₁.setTop (mkF m 41 #[.val (.int n), .val (.int i), .val (.int j), .val (.int k), .val (.int (n &&& (3 : Int32))), .unset] [])) _
        refine XS.iload X0.here hx rfl (hb hby d_method_2_code_41) rfl ?_
        show Steps _ _ _ (s₁.setTop (mkF m 43 #[.val (.int n), .val (.int i), .val (.int j), .val (.int k), .val (.int (n &&& (3 : Int32))), .unset] [(.int (n &&& (3 : Int32)))])) _
        refine XS.iconst X0.here hx rfl (hb hby d_method_2_code_43) ?_
        show Steps _ _ _ (s₁.setTop (mkF m 44 #[.val (.int n), .val (.int i), .val (.int j), .val (.int k), .val (.int (n &&& (3 : Int32))), .unset] [(.int (2 : Int32)), (.int (n &&& (3 : Int32)))])) _
        exact hq)
      by_cases hc44_24 : (n &&& (3 : Int32)) = (2 : Int32)
      · -- pc 44, holds
        have k25 : To p.tables e below S0 (s₁.setTop (mkF m 48 #[.val (.int n), .val (.int i), .val (.int j), .val (.int k), .val (.int (n &&& (3 : Int32))), .unset] [(.int (2 : Int32))])) := fun tt hq => k23 tt (by
          show Steps _ _ _ (s₁.setTop (mkF m 44 #[.val (.int n), .val (.int i), .val (.int j), .val (.int k), .val (.int (n &&& (3 : Int32))), .unset] [(.int (2 : Int32)), (.int (n &&& (3 : Int32)))])) _
          refine XS.icmpNo X0.here hx rfl (hb hby d_method_2_code_44) rfl (teq hc44_24).2 ?_
          show Steps _ _ _ (s₁.setTop (mkF m 47 #[.val (.int n), .val (.int i), .val (.int j), .val (.int k), .val (.int (n &&& (3 : Int32))), .unset] [])) _
          refine XS.iconst X0.here hx rfl (hb hby d_method_2_code_47) ?_
          show Steps _ _ _ (s₁.setTop (mkF m 48 #[.val (.int n), .val (.int i), .val (.int j), .val (.int k), .val (.int (n &&& (3 : Int32))), .unset] [(.int (2 : Int32))])) _
          exact hq)
        obtain ⟨T26, h26, c26, X26, e26, E26, A26, st26⟩ := newP X0 hx hZ (hw _ (List.mem_of_getElem? (i := 4) rfl)) e0 (g := (mkF m 48 #[.val (.int n), .val (.int i), .val (.int j), .val (.int k), .val (.int (n &&& (3 : Int32))), .unset] [(.int (2 : Int32))])) rfl (hb hby d_method_2_code_48) rfl (by decide) (cap := 2) (by decide) (by decide) (by decide) (by decide)
        obtain ⟨b26, g26⟩ : ∃ z, z = h0.size := ⟨_, rfl⟩
        rw [← g26] at A26 st26
        have k26 : To p.tables e below S0 (T26.setTop (mkF m 50 #[.val (.int n), .val (.int i), .val (.int j), .val (.int k), .val (.int (n &&& (3 : Int32))), .unset] [(.ref b26)])) := fun tt hq => k25 tt (st26 tt hq)
        have z26 : h0.size ≤ h26.size := E26.1
        have C26 := C0.trans (CHr.ext E26 C0.1)
        have V26 : Arv Z h26 b26 c26 .char (2 : Int32) [(.int (0 : Int32)), (.int (0 : Int32))] (.int (0 : Int32)) := (Arv.new A26 (by decide)).pad (pad_rep [] (.int (0 : Int32)) 2)
        have y26 : @LT.lt Nat instLTNat b26 h26.size := V26.lt
        have k27 : To p.tables e below S0 (T26.setTop (mkF m 58 #[.val (.int n), .val (.int i), .val (.int j), .val (.int k), .val (.int (n &&& (3 : Int32))), .unset] [(.int ((i &&& (255 : Int32)).toUInt32.toUInt16.toUInt32.toInt32)), (.int (0 : Int32)), (.ref b26), (.ref b26)])) := fun tt hq => k26 tt (by
          show Steps _ _ _ (T26.setTop (mkF m 50 #[.val (.int n), .val (.int i), .val (.int j), .val (.int k), .val (.int (n &&& (3 : Int32))), .unset] [(.ref b26)])) _
          refine XS.dup X26.here hx rfl (hb hby d_method_2_code_50) rfl rfl ?_
          show Steps _ _ _ (T26.setTop (mkF m 51 #[.val (.int n), .val (.int i), .val (.int j), .val (.int k), .val (.int (n &&& (3 : Int32))), .unset] [(.ref b26), (.ref b26)])) _
          refine XS.iconst X26.here hx rfl (hb hby d_method_2_code_51) ?_
          show Steps _ _ _ (T26.setTop (mkF m 52 #[.val (.int n), .val (.int i), .val (.int j), .val (.int k), .val (.int (n &&& (3 : Int32))), .unset] [(.int (0 : Int32)), (.ref b26), (.ref b26)])) _
          refine XS.iloadN X26.here hx rfl (hb hby d_method_2_code_52) rfl ?_
          show Steps _ _ _ (T26.setTop (mkF m 53 #[.val (.int n), .val (.int i), .val (.int j), .val (.int k), .val (.int (n &&& (3 : Int32))), .unset] [(.int i), (.int (0 : Int32)), (.ref b26), (.ref b26)])) _
          refine XS.sipush X26.here hx rfl (hb hby d_method_2_code_53) ?_
          show Steps _ _ _ (T26.setTop (mkF m 56 #[.val (.int n), .val (.int i), .val (.int j), .val (.int k), .val (.int (n &&& (3 : Int32))), .unset] [(.int (255 : Int32)), (.int i), (.int (0 : Int32)), (.ref b26), (.ref b26)])) _
          refine XS.iand X26.here hx rfl (hb hby d_method_2_code_56) rfl ?_
          show Steps _ _ _ (T26.setTop (mkF m 57 #[.val (.int n), .val (.int i), .val (.int j), .val (.int k), .val (.int (n &&& (3 : Int32))), .unset] [(.int (i &&& (255 : Int32))), (.int (0 : Int32)), (.ref b26), (.ref b26)])) _
          refine XS.i2c X26.here hx rfl (hb hby d_method_2_code_57) rfl ?_
          show Steps _ _ _ (T26.setTop (mkF m 58 #[.val (.int n), .val (.int i), .val (.int j), .val (.int k), .val (.int (n &&& (3 : Int32))), .unset] [(.int ((i &&& (255 : Int32)).toUInt32.toUInt16.toUInt32.toInt32)), (.int (0 : Int32)), (.ref b26), (.ref b26)])) _
          exact hq)
        have k28 : To p.tables e below S0 (T26.setTop (mkF m 58 #[.val (.int n), .val (.int i), .val (.int j), .val (.int k), .val (.int (n &&& (3 : Int32))), .unset] [(.int (i &&& (255 : Int32))), (.int (0 : Int32)), (.ref b26), (.ref b26)])) := by have hq := k27; rw [i2c_mask] at hq; exact hq
        obtain ⟨cl29, Ar29, q29, S29, M29, G29, J29⟩ := id V26
        obtain ⟨T29, h29, X29, e29, W29, st29⟩ := stC X26 hx hZ e26 Ar29 (j := (0 : Int32)) (inb_of S29 ⟨by decide, by decide⟩) (g := (mkF m 58 #[.val (.int n), .val (.int i), .val (.int j), .val (.int k), .val (.int (n &&& (3 : Int32))), .unset] [(.int (i &&& (255 : Int32))), (.int (0 : Int32)), (.ref b26), (.ref b26)])) rfl rfl (hb hby d_method_2_code_58)
        have k29 : To p.tables e below S0 (T29.setTop (mkF m 59 #[.val (.int n), .val (.int i), .val (.int j), .val (.int k), .val (.int (n &&& (3 : Int32))), .unset] [(.ref b26)])) := fun tt hq => k28 tt (st29 tt hq)
        have z29 : h29.size = h26.size := W29.size
        have C29 := C26.trans (CHr.wr W29 (Safe.arv hZ.alike V26 (by decide)) C26.1)
        rw [own_narc (own_m255 _)] at W29
        have V29 : Arv Z h29 b26 c26 .char (2 : Int32) [(.int (i &&& (255 : Int32))), (.int (0 : Int32))] (.int (0 : Int32)) := Arv.set Ar29 q29 S29 M29 G29 J29 (own_fitc (own_m255 _)) W29 0 rfl (Nat.le_of_ble_eq_true rfl)
        have N29 := Fr.snoc X29 N0 (by omega : n0 ≤ b26)
        have k30 : To p.tables e below S0 (T29.setTop (mkF m 67 #[.val (.int n), .val (.int i), .val (.int j), .val (.int k), .val (.int (n &&& (3 : Int32))), .unset] [(.int ((j &&& (255 : Int32)).toUInt32.toUInt16.toUInt32.toInt32)), (.int (1 : Int32)), (.ref b26), (.ref b26)])) := fun tt hq => k29 tt (by
          show Steps _ _ _ (T29.setTop (mkF m 59 #[.val (.int n), .val (.int i), .val (.int j), .val (.int k), .val (.int (n &&& (3 : Int32))), .unset] [(.ref b26)])) _
          refine XS.dup X29.here hx rfl (hb hby d_method_2_code_59) rfl rfl ?_
          show Steps _ _ _ (T29.setTop (mkF m 60 #[.val (.int n), .val (.int i), .val (.int j), .val (.int k), .val (.int (n &&& (3 : Int32))), .unset] [(.ref b26), (.ref b26)])) _
          refine XS.iconst X29.here hx rfl (hb hby d_method_2_code_60) ?_
          show Steps _ _ _ (T29.setTop (mkF m 61 #[.val (.int n), .val (.int i), .val (.int j), .val (.int k), .val (.int (n &&& (3 : Int32))), .unset] [(.int (1 : Int32)), (.ref b26), (.ref b26)])) _
          refine XS.iloadN X29.here hx rfl (hb hby d_method_2_code_61) rfl ?_
          show Steps _ _ _ (T29.setTop (mkF m 62 #[.val (.int n), .val (.int i), .val (.int j), .val (.int k), .val (.int (n &&& (3 : Int32))), .unset] [(.int j), (.int (1 : Int32)), (.ref b26), (.ref b26)])) _
          refine XS.sipush X29.here hx rfl (hb hby d_method_2_code_62) ?_
          show Steps _ _ _ (T29.setTop (mkF m 65 #[.val (.int n), .val (.int i), .val (.int j), .val (.int k), .val (.int (n &&& (3 : Int32))), .unset] [(.int (255 : Int32)), (.int j), (.int (1 : Int32)), (.ref b26), (.ref b26)])) _
          refine XS.iand X29.here hx rfl (hb hby d_method_2_code_65) rfl ?_
          show Steps _ _ _ (T29.setTop (mkF m 66 #[.val (.int n), .val (.int i), .val (.int j), .val (.int k), .val (.int (n &&& (3 : Int32))), .unset] [(.int (j &&& (255 : Int32))), (.int (1 : Int32)), (.ref b26), (.ref b26)])) _
          refine XS.i2c X29.here hx rfl (hb hby d_method_2_code_66) rfl ?_
          show Steps _ _ _ (T29.setTop (mkF m 67 #[.val (.int n), .val (.int i), .val (.int j), .val (.int k), .val (.int (n &&& (3 : Int32))), .unset] [(.int ((j &&& (255 : Int32)).toUInt32.toUInt16.toUInt32.toInt32)), (.int (1 : Int32)), (.ref b26), (.ref b26)])) _
          exact hq)
        have k31 : To p.tables e below S0 (T29.setTop (mkF m 67 #[.val (.int n), .val (.int i), .val (.int j), .val (.int k), .val (.int (n &&& (3 : Int32))), .unset] [(.int (j &&& (255 : Int32))), (.int (1 : Int32)), (.ref b26), (.ref b26)])) := by have hq := k30; rw [i2c_mask] at hq; exact hq
        obtain ⟨cl32, Ar32, q32, S32, M32, G32, J32⟩ := id V29
        obtain ⟨T32, h32, X32, e32, W32, st32⟩ := stC X29 hx hZ e29 Ar32 (j := (1 : Int32)) (inb_of S32 ⟨by decide, by decide⟩) (g := (mkF m 67 #[.val (.int n), .val (.int i), .val (.int j), .val (.int k), .val (.int (n &&& (3 : Int32))), .unset] [(.int (j &&& (255 : Int32))), (.int (1 : Int32)), (.ref b26), (.ref b26)])) rfl rfl (hb hby d_method_2_code_67)
        have k32 : To p.tables e below S0 (T32.setTop (mkF m 68 #[.val (.int n), .val (.int i), .val (.int j), .val (.int k), .val (.int (n &&& (3 : Int32))), .unset] [(.ref b26)])) := fun tt hq => k31 tt (st32 tt hq)
        have z32 : h32.size = h29.size := W32.size
        have C32 := C29.trans (CHr.wr W32 (Safe.arv hZ.alike V29 (by decide)) C29.1)
        rw [own_narc (own_m255 _)] at W32
        have V32 : Arv Z h32 b26 c26 .char (2 : Int32) [(.int (i &&& (255 : Int32))), (.int (j &&& (255 : Int32)))] (.int (0 : Int32)) := Arv.set Ar32 q32 S32 M32 G32 J32 (own_fitc (own_m255 _)) W32 1 rfl (Nat.le_of_ble_eq_true rfl)
        have N32 := Fr.snoc X32 N29 (by omega : n0 ≤ b26)
        have k33 : To p.tables e below S0 (T32.setTop (mkF m 105 #[.val (.int n), .val (.int i), .val (.int j), .val (.int k), .val (.int (n &&& (3 : Int32))), .val (.ref b26)] [])) := fun tt hq => k32 tt (by
          show Steps _ _ _ (T32.setTop (mkF m 68 #[.val (.int n), .val (.int i), .val (.int j), .val (.int k), .val (.int (n &&& (3 : Int32))), .unset] [(.ref b26)])) _
          refine XS.astore X32.here hx rfl (hb hby d_method_2_code_68) rfl rfl (l' := #[.val (.int n), .val (.int i), .val (.int j), .val (.int k), .val (.int (n &&& (3 : Int32))), .val (.ref b26)]) rfl ?_
          show Steps _ _ _ (T32.setTop (mkF m 70 #[.val (.int n), .val (.int i), .val (.int j), .val (.int k), .val (.int (n &&& (3 : Int32))), .val (.ref b26)] [])) _
          refine XS.goto X32.here hx rfl (pc0 := 70) (pc' := 105) rfl (hb hby d_method_2_code_70) (by decide) (by decide) ?_
          show Steps _ _ _ (T32.setTop (mkF m 105 #[.val (.int n), .val (.int i), .val (.int j), .val (.int k), .val (.int (n &&& (3 : Int32))), .val (.ref b26)] [])) _
          exact hq)
        obtain ⟨T34, h34, X34, e34, E34, A34, D34, -, st34⟩ := newO X32 hx hZ hown (hw _ (List.mem_of_getElem? (i := 5) rfl)) (hw _ (List.mem_of_getElem? (i := 6) rfl)) (hw _ (List.mem_of_getElem? (i := 7) rfl)) e32 (g := (mkF m 105 #[.val (.int n), .val (.int i), .val (.int j), .val (.int k), .val (.int (n &&& (3 : Int32))), .val (.ref b26)] [])) rfl (hb hby d_method_2_code_105) (by decide) (by decide)
        obtain ⟨b34, g34⟩ : ∃ z, z = h32.size := ⟨_, rfl⟩
        rw [← g34] at A34 D34 st34
        have k34 : To p.tables e below S0 (T34.setTop (mkF m 108 #[.val (.int n), .val (.int i), .val (.int j), .val (.int k), .val (.int (n &&& (3 : Int32))), .val (.ref b26)] [(.ref b34)])) := fun tt hq => k33 tt (st34 tt hq)
        have z34 : h32.size ≤ h34.size := E34.1
        have y34 : @LT.lt Nat instLTNat b34 h34.size := A34.lt
        have C34 := C32.trans (CHr.ext E34 C32.1)
        have Sf34 : Safe Z own_EL vm0 h34 b34 := Safe.ext E34 C32.1 (Safe.new (by omega))
        have F34_value : Fld Z h34 b34 "java/lang/String" "value" "[B" .null := D34 (Or.inr (hw _ (List.mem_of_getElem? (i := 20) rfl))) (ty := (.array .byte)) (by decide)
        have F34_coder : Fld Z h34 b34 "java/lang/String" "coder" "B" (.int (0 : Int32)) := D34 (Or.inr (hw _ (List.mem_of_getElem? (i := 21) rfl))) (ty := .byte) (by decide)
        have k35 : To p.tables e below S0 (T34.setTop (mkF m 111 #[.val (.int n), .val (.int i), .val (.int j), .val (.int k), .val (.int (n &&& (3 : Int32))), .val (.ref b26)] [(.ref b26), (.ref b34), (.ref b34)])) := fun tt hq => k34 tt (by
          show Steps _ _ _ (T34.setTop (mkF m 108 #[.val (.int n), .val (.int i), .val (.int j), .val (.int k), .val (.int (n &&& (3 : Int32))), .val (.ref b26)] [(.ref b34)])) _
          refine XS.dup X34.here hx rfl (hb hby d_method_2_code_108) rfl rfl ?_
          show Steps _ _ _ (T34.setTop (mkF m 109 #[.val (.int n), .val (.int i), .val (.int j), .val (.int k), .val (.int (n &&& (3 : Int32))), .val (.ref b26)] [(.ref b34), (.ref b34)])) _
          refine XS.aload X34.here hx rfl (hb hby d_method_2_code_109) rfl rfl ?_
          show Steps _ _ _ (T34.setTop (mkF m 111 #[.val (.int n), .val (.int i), .val (.int j), .val (.int k), .val (.int (n &&& (3 : Int32))), .val (.ref b26)] [(.ref b26), (.ref b34), (.ref b34)])) _
          exact hq)
        have f36 : Old Z n0 h34 := ((((O0.ext E26).wr W29 (by omega)).wr W32 (by omega)).ext E34)
        have f37 : Arv Z h34 b26 c26 .char (2 : Int32) [(.int (i &&& (255 : Int32))), (.int (j &&& (255 : Int32)))] (.int (0 : Int32)) := (V32.ext E34)
        obtain ⟨_, T38, L38, X38, ⟨rfl, Nq38, Kq38, t38, kt38, gt38, P380, P381, P382, P383⟩, k38a⟩ := callC' X34 hx hZ (y := (⟨"java/lang/String", "<init>", "([C)V"⟩ : MethodName)) rfl hown (hw _ (List.mem_of_getElem? (i := 8) rfl)) (hw _ (List.mem_of_getElem? (i := 9) rfl)) (hw _ (List.mem_of_getElem? (i := 10) rfl)) (by decide) (backC (W := 1) (rm_n1_2 l Z a0 hw zc b34 b26 c26 .null (.int (0 : Int32)) (i &&& (255 : Int32)) (j &&& (255 : Int32)) h34 n0 (by omega) S_c hzc f36 A34 F34_value F34_coder f37 (by omega) (by omega) (by omega) (by omega) (own_m255 _) (own_m255 _)) hZ (hw _ (List.mem_of_getElem? (i := 10) rfl)) (hw _ (List.mem_of_getElem? (i := 7) rfl)) (by decide) (by decide)) e34 (argsL := [(.ref b26)]) (rest := [(.ref b34)]) rfl rfl pd_4 rfl (by rw [hml]; rfl) (hb hby d_method_2_code_111) (Nat.le_of_eq rfl) (by decide) (by decide) k35
        have k38 : To p.tables e below S0 (T38.setTop (mkF m 114 #[.val (.int n), .val (.int i), .val (.int j), .val (.int k), .val (.int (n &&& (3 : Int32))), .val (.ref b26)] [(.ref b34)])) := k38a
        have N38 := N32.app Nq38
        obtain ⟨h38, e38⟩ : ∃ z, T38.heap = z := ⟨_, rfl⟩
        rw [e38] at Kq38 P380 P381 P382 P383
        have z38 : h34.size ≤ h38.size := Kq38.1
        have C38 := C34.trans (CHr.keep Kq38 (sfS Sf34 sf0) C34.1)
        have y38 : @LT.lt Nat instLTNat t38 h38.size := P383.lt
        refine retRefW X38 hx hZ (own_EW hw) hS0 (by omega) C38 e38 hret hlk rfl rfl (hb hby d_method_2_code_114) k38 ?_ (by decide) (by decide)
        exact ⟨_, rfl, N38, (by omega), ((((((Keep.refl h0 []).ext E26).wr W29 (Or.inr (by omega))).wr W32 (Or.inr (by omega))).ext E34).trans Kq38 (allS (Or.inr (by omega)) all0)), P380⟩
      · -- pc 44, holds not
        have k39 : To p.tables e below S0 (s₁.setTop (mkF m 74 #[.val (.int n), .val (.int i), .val (.int j), .val (.int k), .val (.int (n &&& (3 : Int32))), .unset] [(.int (3 : Int32))])) := fun tt hq => k23 tt (by
          show Steps _ _ _ (s₁.setTop (mkF m 44 #[.val (.int n), .val (.int i), .val (.int j), .val (.int k), .val (.int (n &&& (3 : Int32))), .unset] [(.int (2 : Int32)), (.int (n &&& (3 : Int32)))])) _
          refine XS.icmpYes X0.here hx rfl (pc0 := 44) (pc' := 73) rfl (hb hby d_method_2_code_44) rfl (feq hc44_24).2 (by decide) (by decide) ?_
          show Steps _ _ _ (s₁.setTop (mkF m 73 #[.val (.int n), .val (.int i), .val (.int j), .val (.int k), .val (.int (n &&& (3 : Int32))), .unset] [])) _
          refine XS.iconst X0.here hx rfl (hb hby d_method_2_code_73) ?_
          show Steps _ _ _ (s₁.setTop (mkF m 74 #[.val (.int n), .val (.int i), .val (.int j), .val (.int k), .val (.int (n &&& (3 : Int32))), .unset] [(.int (3 : Int32))])) _
          exact hq)
        obtain ⟨T40, h40, c40, X40, e40, E40, A40, st40⟩ := newP X0 hx hZ (hw _ (List.mem_of_getElem? (i := 4) rfl)) e0 (g := (mkF m 74 #[.val (.int n), .val (.int i), .val (.int j), .val (.int k), .val (.int (n &&& (3 : Int32))), .unset] [(.int (3 : Int32))])) rfl (hb hby d_method_2_code_74) rfl (by decide) (cap := 3) (by decide) (by decide) (by decide) (by decide)
        obtain ⟨b40, g40⟩ : ∃ z, z = h0.size := ⟨_, rfl⟩
        rw [← g40] at A40 st40
        have k40 : To p.tables e below S0 (T40.setTop (mkF m 76 #[.val (.int n), .val (.int i), .val (.int j), .val (.int k), .val (.int (n &&& (3 : Int32))), .unset] [(.ref b40)])) := fun tt hq => k39 tt (st40 tt hq)
        have z40 : h0.size ≤ h40.size := E40.1
        have C40 := C0.trans (CHr.ext E40 C0.1)
        have V40 : Arv Z h40 b40 c40 .char (3 : Int32) [(.int (0 : Int32)), (.int (0 : Int32)), (.int (0 : Int32))] (.int (0 : Int32)) := (Arv.new A40 (by decide)).pad (pad_rep [] (.int (0 : Int32)) 3)
        have y40 : @LT.lt Nat instLTNat b40 h40.size := V40.lt
        have k41 : To p.tables e below S0 (T40.setTop (mkF m 84 #[.val (.int n), .val (.int i), .val (.int j), .val (.int k), .val (.int (n &&& (3 : Int32))), .unset] [(.int ((i &&& (255 : Int32)).toUInt32.toUInt16.toUInt32.toInt32)), (.int (0 : Int32)), (.ref b40), (.ref b40)])) := fun tt hq => k40 tt (by
          show Steps _ _ _ (T40.setTop (mkF m 76 #[.val (.int n), .val (.int i), .val (.int j), .val (.int k), .val (.int (n &&& (3 : Int32))), .unset] [(.ref b40)])) _
          refine XS.dup X40.here hx rfl (hb hby d_method_2_code_76) rfl rfl ?_
          show Steps _ _ _ (T40.setTop (mkF m 77 #[.val (.int n), .val (.int i), .val (.int j), .val (.int k), .val (.int (n &&& (3 : Int32))), .unset] [(.ref b40), (.ref b40)])) _
          refine XS.iconst X40.here hx rfl (hb hby d_method_2_code_77) ?_
          show Steps _ _ _ (T40.setTop (mkF m 78 #[.val (.int n), .val (.int i), .val (.int j), .val (.int k), .val (.int (n &&& (3 : Int32))), .unset] [(.int (0 : Int32)), (.ref b40), (.ref b40)])) _
          refine XS.iloadN X40.here hx rfl (hb hby d_method_2_code_78) rfl ?_
          show Steps _ _ _ (T40.setTop (mkF m 79 #[.val (.int n), .val (.int i), .val (.int j), .val (.int k), .val (.int (n &&& (3 : Int32))), .unset] [(.int i), (.int (0 : Int32)), (.ref b40), (.ref b40)])) _
          refine XS.sipush X40.here hx rfl (hb hby d_method_2_code_79) ?_
          show Steps _ _ _ (T40.setTop (mkF m 82 #[.val (.int n), .val (.int i), .val (.int j), .val (.int k), .val (.int (n &&& (3 : Int32))), .unset] [(.int (255 : Int32)), (.int i), (.int (0 : Int32)), (.ref b40), (.ref b40)])) _
          refine XS.iand X40.here hx rfl (hb hby d_method_2_code_82) rfl ?_
          show Steps _ _ _ (T40.setTop (mkF m 83 #[.val (.int n), .val (.int i), .val (.int j), .val (.int k), .val (.int (n &&& (3 : Int32))), .unset] [(.int (i &&& (255 : Int32))), (.int (0 : Int32)), (.ref b40), (.ref b40)])) _
          refine XS.i2c X40.here hx rfl (hb hby d_method_2_code_83) rfl ?_
          show Steps _ _ _ (T40.setTop (mkF m 84 #[.val (.int n), .val (.int i), .val (.int j), .val (.int k), .val (.int (n &&& (3 : Int32))), .unset] [(.int ((i &&& (255 : Int32)).toUInt32.toUInt16.toUInt32.toInt32)), (.int (0 : Int32)), (.ref b40), (.ref b40)])) _
          exact hq)
        have k42 : To p.tables e below S0 (T40.setTop (mkF m 84 #[.val (.int n), .val (.int i), .val (.int j), .val (.int k), .val (.int (n &&& (3 : Int32))), .unset] [(.int (i &&& (255 : Int32))), (.int (0 : Int32)), (.ref b40), (.ref b40)])) := by have hq := k41; rw [i2c_mask] at hq; exact hq
        obtain ⟨cl43, Ar43, q43, S43, M43, G43, J43⟩ := id V40
        obtain ⟨T43, h43, X43, e43, W43, st43⟩ := stC X40 hx hZ e40 Ar43 (j := (0 : Int32)) (inb_of S43 ⟨by decide, by decide⟩) (g := (mkF m 84 #[.val (.int n), .val (.int i), .val (.int j), .val (.int k), .val (.int (n &&& (3 : Int32))), .unset] [(.int (i &&& (255 : Int32))), (.int (0 : Int32)), (.ref b40), (.ref b40)])) rfl rfl (hb hby d_method_2_code_84)
        have k43 : To p.tables e below S0 (T43.setTop (mkF m 85 #[.val (.int n), .val (.int i), .val (.int j), .val (.int k), .val (.int (n &&& (3 : Int32))), .unset] [(.ref b40)])) := fun tt hq => k42 tt (st43 tt hq)
        have z43 : h43.size = h40.size := W43.size
        have C43 := C40.trans (CHr.wr W43 (Safe.arv hZ.alike V40 (by decide)) C40.1)
        rw [own_narc (own_m255 _)] at W43
        have V43 : Arv Z h43 b40 c40 .char (3 : Int32) [(.int (i &&& (255 : Int32))), (.int (0 : Int32)), (.int (0 : Int32))] (.int (0 : Int32)) := Arv.set Ar43 q43 S43 M43 G43 J43 (own_fitc (own_m255 _)) W43 0 rfl (Nat.le_of_ble_eq_true rfl)
        have N43 := Fr.snoc X43 N0 (by omega : n0 ≤ b40)
        have k44 : To p.tables e below S0 (T43.setTop (mkF m 93 #[.val (.int n), .val (.int i), .val (.int j), .val (.int k), .val (.int (n &&& (3 : Int32))), .unset] [(.int ((j &&& (255 : Int32)).toUInt32.toUInt16.toUInt32.toInt32)), (.int (1 : Int32)), (.ref b40), (.ref b40)])) := fun tt hq => k43 tt (by
          show Steps _ _ _ (T43.setTop (mkF m 85 #[.val (.int n), .val (.int i), .val (.int j), .val (.int k), .val (.int (n &&& (3 : Int32))), .unset] [(.ref b40)])) _
          refine XS.dup X43.here hx rfl (hb hby d_method_2_code_85) rfl rfl ?_
          show Steps _ _ _ (T43.setTop (mkF m 86 #[.val (.int n), .val (.int i), .val (.int j), .val (.int k), .val (.int (n &&& (3 : Int32))), .unset] [(.ref b40), (.ref b40)])) _
          refine XS.iconst X43.here hx rfl (hb hby d_method_2_code_86) ?_
          show Steps _ _ _ (T43.setTop (mkF m 87 #[.val (.int n), .val (.int i), .val (.int j), .val (.int k), .val (.int (n &&& (3 : Int32))), .unset] [(.int (1 : Int32)), (.ref b40), (.ref b40)])) _
          refine XS.iloadN X43.here hx rfl (hb hby d_method_2_code_87) rfl ?_
          show Steps _ _ _ (T43.setTop (mkF m 88 #[.val (.int n), .val (.int i), .val (.int j), .val (.int k), .val (.int (n &&& (3 : Int32))), .unset] [(.int j), (.int (1 : Int32)), (.ref b40), (.ref b40)])) _
          refine XS.sipush X43.here hx rfl (hb hby d_method_2_code_88) ?_
          show Steps _ _ _ (T43.setTop (mkF m 91 #[.val (.int n), .val (.int i), .val (.int j), .val (.int k), .val (.int (n &&& (3 : Int32))), .unset] [(.int (255 : Int32)), (.int j), (.int (1 : Int32)), (.ref b40), (.ref b40)])) _
          refine XS.iand X43.here hx rfl (hb hby d_method_2_code_91) rfl ?_
          show Steps _ _ _ (T43.setTop (mkF m 92 #[.val (.int n), .val (.int i), .val (.int j), .val (.int k), .val (.int (n &&& (3 : Int32))), .unset] [(.int (j &&& (255 : Int32))), (.int (1 : Int32)), (.ref b40), (.ref b40)])) _
          refine XS.i2c X43.here hx rfl (hb hby d_method_2_code_92) rfl ?_
          show Steps _ _ _ (T43.setTop (mkF m 93 #[.val (.int n), .val (.int i), .val (.int j), .val (.int k), .val (.int (n &&& (3 : Int32))), .unset] [(.int ((j &&& (255 : Int32)).toUInt32.toUInt16.toUInt32.toInt32)), (.int (1 : Int32)), (.ref b40), (.ref b40)])) _
          exact hq)
        have k45 : To p.tables e below S0 (T43.setTop (mkF m 93 #[.val (.int n), .val (.int i), .val (.int j), .val (.int k), .val (.int (n &&& (3 : Int32))), .unset] [(.int (j &&& (255 : Int32))), (.int (1 : Int32)), (.ref b40), (.ref b40)])) := by have hq := k44; rw [i2c_mask] at hq; exact hq
        obtain ⟨cl46, Ar46, q46, S46, M46, G46, J46⟩ := id V43
        obtain ⟨T46, h46, X46, e46, W46, st46⟩ := stC X43 hx hZ e43 Ar46 (j := (1 : Int32)) (inb_of S46 ⟨by decide, by decide⟩) (g := (mkF m 93 #[.val (.int n), .val (.int i), .val (.int j), .val (.int k), .val (.int (n &&& (3 : Int32))), .unset] [(.int (j &&& (255 : Int32))), (.int (1 : Int32)), (.ref b40), (.ref b40)])) rfl rfl (hb hby d_method_2_code_93)
        have k46 : To p.tables e below S0 (T46.setTop (mkF m 94 #[.val (.int n), .val (.int i), .val (.int j), .val (.int k), .val (.int (n &&& (3 : Int32))), .unset] [(.ref b40)])) := fun tt hq => k45 tt (st46 tt hq)
        have z46 : h46.size = h43.size := W46.size
        have C46 := C43.trans (CHr.wr W46 (Safe.arv hZ.alike V43 (by decide)) C43.1)
        rw [own_narc (own_m255 _)] at W46
        have V46 : Arv Z h46 b40 c40 .char (3 : Int32) [(.int (i &&& (255 : Int32))), (.int (j &&& (255 : Int32))), (.int (0 : Int32))] (.int (0 : Int32)) := Arv.set Ar46 q46 S46 M46 G46 J46 (own_fitc (own_m255 _)) W46 1 rfl (Nat.le_of_ble_eq_true rfl)
        have N46 := Fr.snoc X46 N43 (by omega : n0 ≤ b40)
        have k47 : To p.tables e below S0 (T46.setTop (mkF m 102 #[.val (.int n), .val (.int i), .val (.int j), .val (.int k), .val (.int (n &&& (3 : Int32))), .unset] [(.int ((k &&& (255 : Int32)).toUInt32.toUInt16.toUInt32.toInt32)), (.int (2 : Int32)), (.ref b40), (.ref b40)])) := fun tt hq => k46 tt (by
          show Steps _ _ _ (T46.setTop (mkF m 94 #[.val (.int n), .val (.int i), .val (.int j), .val (.int k), .val (.int (n &&& (3 : Int32))), .unset] [(.ref b40)])) _
          refine XS.dup X46.here hx rfl (hb hby d_method_2_code_94) rfl rfl ?_
          show Steps _ _ _ (T46.setTop (mkF m 95 #[.val (.int n), .val (.int i), .val (.int j), .val (.int k), .val (.int (n &&& (3 : Int32))), .unset] [(.ref b40), (.ref b40)])) _
          refine XS.iconst X46.here hx rfl (hb hby d_method_2_code_95) ?_
          show Steps _ _ _ (T46.setTop (mkF m 96 #[.val (.int n), .val (.int i), .val (.int j), .val (.int k), .val (.int (n &&& (3 : Int32))), .unset] [(.int (2 : Int32)), (.ref b40), (.ref b40)])) _
          refine XS.iloadN X46.here hx rfl (hb hby d_method_2_code_96) rfl ?_
          show Steps _ _ _ (T46.setTop (mkF m 97 #[.val (.int n), .val (.int i), .val (.int j), .val (.int k), .val (.int (n &&& (3 : Int32))), .unset] [(.int k), (.int (2 : Int32)), (.ref b40), (.ref b40)])) _
          refine XS.sipush X46.here hx rfl (hb hby d_method_2_code_97) ?_
          show Steps _ _ _ (T46.setTop (mkF m 100 #[.val (.int n), .val (.int i), .val (.int j), .val (.int k), .val (.int (n &&& (3 : Int32))), .unset] [(.int (255 : Int32)), (.int k), (.int (2 : Int32)), (.ref b40), (.ref b40)])) _
          refine XS.iand X46.here hx rfl (hb hby d_method_2_code_100) rfl ?_
          show Steps _ _ _ (T46.setTop (mkF m 101 #[.val (.int n), .val (.int i), .val (.int j), .val (.int k), .val (.int (n &&& (3 : Int32))), .unset] [(.int (k &&& (255 : Int32))), (.int (2 : Int32)), (.ref b40), (.ref b40)])) _
          refine XS.i2c X46.here hx rfl (hb hby d_method_2_code_101) rfl ?_
          show Steps _ _ _ (T46.setTop (mkF m 102 #[.val (.int n), .val (.int i), .val (.int j), .val (.int k), .val (.int (n &&& (3 : Int32))), .unset] [(.int ((k &&& (255 : Int32)).toUInt32.toUInt16.toUInt32.toInt32)), (.int (2 : Int32)), (.ref b40), (.ref b40)])) _
          exact hq)
        have k48 : To p.tables e below S0 (T46.setTop (mkF m 102 #[.val (.int n), .val (.int i), .val (.int j), .val (.int k), .val (.int (n &&& (3 : Int32))), .unset] [(.int (k &&& (255 : Int32))), (.int (2 : Int32)), (.ref b40), (.ref b40)])) := by have hq := k47; rw [i2c_mask] at hq; exact hq
        obtain ⟨cl49, Ar49, q49, S49, M49, G49, J49⟩ := id V46
        obtain ⟨T49, h49, X49, e49, W49, st49⟩ := stC X46 hx hZ e46 Ar49 (j := (2 : Int32)) (inb_of S49 ⟨by decide, by decide⟩) (g := (mkF m 102 #[.val (.int n), .val (.int i), .val (.int j), .val (.int k), .val (.int (n &&& (3 : Int32))), .unset] [(.int (k &&& (255 : Int32))), (.int (2 : Int32)), (.ref b40), (.ref b40)])) rfl rfl (hb hby d_method_2_code_102)
        have k49 : To p.tables e below S0 (T49.setTop (mkF m 103 #[.val (.int n), .val (.int i), .val (.int j), .val (.int k), .val (.int (n &&& (3 : Int32))), .unset] [(.ref b40)])) := fun tt hq => k48 tt (st49 tt hq)
        have z49 : h49.size = h46.size := W49.size
        have C49 := C46.trans (CHr.wr W49 (Safe.arv hZ.alike V46 (by decide)) C46.1)
        rw [own_narc (own_m255 _)] at W49
        have V49 : Arv Z h49 b40 c40 .char (3 : Int32) [(.int (i &&& (255 : Int32))), (.int (j &&& (255 : Int32))), (.int (k &&& (255 : Int32)))] (.int (0 : Int32)) := Arv.set Ar49 q49 S49 M49 G49 J49 (own_fitc (own_m255 _)) W49 2 rfl (Nat.le_of_ble_eq_true rfl)
        have N49 := Fr.snoc X49 N46 (by omega : n0 ≤ b40)
        have k50 : To p.tables e below S0 (T49.setTop (mkF m 105 #[.val (.int n), .val (.int i), .val (.int j), .val (.int k), .val (.int (n &&& (3 : Int32))), .val (.ref b40)] [])) := fun tt hq => k49 tt (by
          show Steps _ _ _ (T49.setTop (mkF m 103 #[.val (.int n), .val (.int i), .val (.int j), .val (.int k), .val (.int (n &&& (3 : Int32))), .unset] [(.ref b40)])) _
          refine XS.astore X49.here hx rfl (hb hby d_method_2_code_103) rfl rfl (l' := #[.val (.int n), .val (.int i), .val (.int j), .val (.int k), .val (.int (n &&& (3 : Int32))), .val (.ref b40)]) rfl ?_
          show Steps _ _ _ (T49.setTop (mkF m 105 #[.val (.int n), .val (.int i), .val (.int j), .val (.int k), .val (.int (n &&& (3 : Int32))), .val (.ref b40)] [])) _
          exact hq)
        obtain ⟨T51, h51, X51, e51, E51, A51, D51, -, st51⟩ := newO X49 hx hZ hown (hw _ (List.mem_of_getElem? (i := 5) rfl)) (hw _ (List.mem_of_getElem? (i := 6) rfl)) (hw _ (List.mem_of_getElem? (i := 7) rfl)) e49 (g := (mkF m 105 #[.val (.int n), .val (.int i), .val (.int j), .val (.int k), .val (.int (n &&& (3 : Int32))), .val (.ref b40)] [])) rfl (hb hby d_method_2_code_105) (by decide) (by decide)
        obtain ⟨b51, g51⟩ : ∃ z, z = h49.size := ⟨_, rfl⟩
        rw [← g51] at A51 D51 st51
        have k51 : To p.tables e below S0 (T51.setTop (mkF m 108 #[.val (.int n), .val (.int i), .val (.int j), .val (.int k), .val (.int (n &&& (3 : Int32))), .val (.ref b40)] [(.ref b51)])) := fun tt hq => k50 tt (st51 tt hq)
        have z51 : h49.size ≤ h51.size := E51.1
        have y51 : @LT.lt Nat instLTNat b51 h51.size := A51.lt
        have C51 := C49.trans (CHr.ext E51 C49.1)
        have Sf51 : Safe Z own_EL vm0 h51 b51 := Safe.ext E51 C49.1 (Safe.new (by omega))
        have F51_value : Fld Z h51 b51 "java/lang/String" "value" "[B" .null := D51 (Or.inr (hw _ (List.mem_of_getElem? (i := 20) rfl))) (ty := (.array .byte)) (by decide)
        have F51_coder : Fld Z h51 b51 "java/lang/String" "coder" "B" (.int (0 : Int32)) := D51 (Or.inr (hw _ (List.mem_of_getElem? (i := 21) rfl))) (ty := .byte) (by decide)
        have k52 : To p.tables e below S0 (T51.setTop (mkF m 111 #[.val (.int n), .val (.int i), .val (.int j), .val (.int k), .val (.int (n &&& (3 : Int32))), .val (.ref b40)] [(.ref b40), (.ref b51), (.ref b51)])) := fun tt hq => k51 tt (by
          show Steps _ _ _ (T51.setTop (mkF m 108 #[.val (.int n), .val (.int i), .val (.int j), .val (.int k), .val (.int (n &&& (3 : Int32))), .val (.ref b40)] [(.ref b51)])) _
          refine XS.dup X51.here hx rfl (hb hby d_method_2_code_108) rfl rfl ?_
          show Steps _ _ _ (T51.setTop (mkF m 109 #[.val (.int n), .val (.int i), .val (.int j), .val (.int k), .val (.int (n &&& (3 : Int32))), .val (.ref b40)] [(.ref b51), (.ref b51)])) _
          refine XS.aload X51.here hx rfl (hb hby d_method_2_code_109) rfl rfl ?_
          show Steps _ _ _ (T51.setTop (mkF m 111 #[.val (.int n), .val (.int i), .val (.int j), .val (.int k), .val (.int (n &&& (3 : Int32))), .val (.ref b40)] [(.ref b40), (.ref b51), (.ref b51)])) _
          exact hq)
        have f53 : Old Z n0 h51 := (((((O0.ext E40).wr W43 (by omega)).wr W46 (by omega)).wr W49 (by omega)).ext E51)
        have f54 : Arv Z h51 b40 c40 .char (3 : Int32) [(.int (i &&& (255 : Int32))), (.int (j &&& (255 : Int32))), (.int (k &&& (255 : Int32)))] (.int (0 : Int32)) := (V49.ext E51)
        obtain ⟨_, T55, L55, X55, ⟨rfl, Nq55, Kq55, t55, kt55, gt55, P550, P551, P552, P553⟩, k55a⟩ := callC' X51 hx hZ (y := (⟨"java/lang/String", "<init>", "([C)V"⟩ : MethodName)) rfl hown (hw _ (List.mem_of_getElem? (i := 8) rfl)) (hw _ (List.mem_of_getElem? (i := 9) rfl)) (hw _ (List.mem_of_getElem? (i := 10) rfl)) (by decide) (backC (W := 1) (rm_n1_3 l Z a0 hw zc b51 b40 c40 .null (.int (0 : Int32)) (i &&& (255 : Int32)) (j &&& (255 : Int32)) (k &&& (255 : Int32)) h51 n0 (by omega) S_c hzc f53 A51 F51_value F51_coder f54 (by omega) (by omega) (by omega) (by omega) (own_m255 _) (own_m255 _) (own_m255 _)) hZ (hw _ (List.mem_of_getElem? (i := 10) rfl)) (hw _ (List.mem_of_getElem? (i := 7) rfl)) (by decide) (by decide)) e51 (argsL := [(.ref b40)]) (rest := [(.ref b51)]) rfl rfl pd_4 rfl (by rw [hml]; rfl) (hb hby d_method_2_code_111) (Nat.le_of_eq rfl) (by decide) (by decide) k52
        have k55 : To p.tables e below S0 (T55.setTop (mkF m 114 #[.val (.int n), .val (.int i), .val (.int j), .val (.int k), .val (.int (n &&& (3 : Int32))), .val (.ref b40)] [(.ref b51)])) := k55a
        have N55 := N49.app Nq55
        obtain ⟨h55, e55⟩ : ∃ z, T55.heap = z := ⟨_, rfl⟩
        rw [e55] at Kq55 P550 P551 P552 P553
        have z55 : h51.size ≤ h55.size := Kq55.1
        have C55 := C51.trans (CHr.keep Kq55 (sfS Sf51 sf0) C51.1)
        have y55 : @LT.lt Nat instLTNat t55 h55.size := P553.lt
        refine retRefW X55 hx hZ (own_EW hw) hS0 (by omega) C55 e55 hret hlk rfl rfl (hb hby d_method_2_code_114) k55 ?_ (by decide) (by decide)
        exact ⟨_, rfl, N55, (by omega), (((((((Keep.refl h0 []).ext E40).wr W43 (Or.inr (by omega))).wr W46 (Or.inr (by omega))).wr W49 (Or.inr (by omega))).ext E51).trans Kq55 (allS (Or.inr (by omega)) all0)), P550⟩
theorem d_prog_25_method_2_code_0 : decode prog_25_method_2_code 0 = .ok (.aload_n 0, 1) := by decide +kernel
theorem d_prog_25_method_2_code_1 : decode prog_25_method_2_code 1 = .ok (.invokespecial 7, 3) := by decide +kernel
theorem d_prog_25_method_2_code_4 : decode prog_25_method_2_code 4 = .ok (.aload_n 0, 1) := by decide +kernel
theorem d_prog_25_method_2_code_5 : decode prog_25_method_2_code 5 = .ok (.aload_n 1, 1) := by decide +kernel
theorem d_prog_25_method_2_code_6 : decode prog_25_method_2_code 6 = .ok (.putfield 12, 3) := by decide +kernel
theorem d_prog_25_method_2_code_9 : decode prog_25_method_2_code 9 = .ok (.aload_n 0, 1) := by decide +kernel
theorem d_prog_25_method_2_code_10 : decode prog_25_method_2_code 10 = .ok (.aload_n 2, 1) := by decide +kernel
theorem d_prog_25_method_2_code_11 : decode prog_25_method_2_code 11 = .ok (.putfield 16, 3) := by decide +kernel
theorem d_prog_25_method_2_code_14 : decode prog_25_method_2_code 14 = .ok (.aload_n 0, 1) := by decide +kernel
theorem d_prog_25_method_2_code_15 : decode prog_25_method_2_code 15 = .ok (.aload_n 3, 1) := by decide +kernel
theorem d_prog_25_method_2_code_16 : decode prog_25_method_2_code 16 = .ok (.putfield 19, 3) := by decide +kernel
theorem d_prog_25_method_2_code_19 : decode prog_25_method_2_code 19 = .ok (.aload_n 0, 1) := by decide +kernel
theorem d_prog_25_method_2_code_20 : decode prog_25_method_2_code 20 = .ok (.aload 4, 2) := by decide +kernel
theorem d_prog_25_method_2_code_22 : decode prog_25_method_2_code 22 = .ok (.putfield 23, 3) := by decide +kernel
theorem d_prog_25_method_2_code_25 : decode prog_25_method_2_code 25 = .ok (.aload_n 0, 1) := by decide +kernel
theorem d_prog_25_method_2_code_26 : decode prog_25_method_2_code 26 = .ok (.aload 5, 2) := by decide +kernel
theorem d_prog_25_method_2_code_28 : decode prog_25_method_2_code 28 = .ok (.putfield 27, 3) := by decide +kernel
theorem d_prog_25_method_2_code_31 : decode prog_25_method_2_code 31 = .ok (.aload_n 0, 1) := by decide +kernel
theorem d_prog_25_method_2_code_32 : decode prog_25_method_2_code 32 = .ok (.aload 6, 2) := by decide +kernel
theorem d_prog_25_method_2_code_34 : decode prog_25_method_2_code 34 = .ok (.putfield 30, 3) := by decide +kernel
theorem d_prog_25_method_2_code_37 : decode prog_25_method_2_code 37 = .ok (.aload_n 0, 1) := by decide +kernel
theorem d_prog_25_method_2_code_38 : decode prog_25_method_2_code 38 = .ok (.aload 7, 2) := by decide +kernel
theorem d_prog_25_method_2_code_40 : decode prog_25_method_2_code 40 = .ok (.putfield 33, 3) := by decide +kernel
theorem d_prog_25_method_2_code_43 : decode prog_25_method_2_code 43 = .ok (.return_, 1) := by decide +kernel
theorem pn_3 : plainName "com/example/debtd/debtd/service/EnteredExpense" = true := by first | (simp [plainName, overriddenIn]; done) | decide +kernel
set_option maxRecDepth 65536 in
set_option maxHeartbeats 40000000 in
theorem rm_ei (l : Launch) (Z : State) (a0 : Array Value) (hw : ∀ d ∈ tables_1, d.before a0 Z = true) (a : Addr) (b : Addr) (h0 : Heap) (n0 : Nat) (hn0 : n0 ≤ h0.size) (P0 : Exa Z h0 a "com/example/debtd/debtd/service/EnteredExpense") (P1 : Fld Z h0 a "com/example/debtd/debtd/service/EnteredExpense" "description" "Ljava/lang/String;" .null) (P2 : Fld Z h0 a "com/example/debtd/debtd/service/EnteredExpense" "amount" "Ljava/lang/String;" .null) (P3 : Fld Z h0 a "com/example/debtd/debtd/service/EnteredExpense" "paidBy" "Ljava/lang/Integer;" .null) (P4 : Fld Z h0 a "com/example/debtd/debtd/service/EnteredExpense" "split" "Lcom/example/debtd/debtd/service/EnteredSplit;" .null) (P5 : Fld Z h0 a "com/example/debtd/debtd/service/EnteredExpense" "category" "Ljava/lang/String;" .null) (P6 : Fld Z h0 a "com/example/debtd/debtd/service/EnteredExpense" "date" "Ljava/lang/String;" .null) (P7 : Fld Z h0 a "com/example/debtd/debtd/service/EnteredExpense" "unreadable" "Ljava/lang/String;" .null) (ga : n0 ≤ a) :
    Con l Z (⟨"com/example/debtd/debtd/service/EnteredExpense", "<init>", "(Ljava/lang/String;Ljava/lang/String;Ljava/lang/Integer;Lcom/example/debtd/debtd/service/EnteredSplit;Ljava/lang/String;Ljava/lang/String;Ljava/lang/String;)V"⟩ : MethodName) prog_25_method_2_code 8 none [] ({ frames := 1, cells := 0, slots := 0, locals := 12 } : Room) #[(.ref a), .null, .null, .null, .null, .null, .null, (.ref b)] h0 (fun v h L => v = none ∧ Fr n0 L ∧ Keep h0 h [a] ∧ Exa Z h a "com/example/debtd/debtd/service/EnteredExpense" ∧ Fld Z h a "com/example/debtd/debtd/service/EnteredExpense" "description" "Ljava/lang/String;" .null ∧ Fld Z h a "com/example/debtd/debtd/service/EnteredExpense" "amount" "Ljava/lang/String;" .null ∧ Fld Z h a "com/example/debtd/debtd/service/EnteredExpense" "paidBy" "Ljava/lang/Integer;" .null ∧ Fld Z h a "com/example/debtd/debtd/service/EnteredExpense" "split" "Lcom/example/debtd/debtd/service/EnteredSplit;" .null ∧ Fld Z h a "com/example/debtd/debtd/service/EnteredExpense" "category" "Ljava/lang/String;" .null ∧ Fld Z h a "com/example/debtd/debtd/service/EnteredExpense" "date" "Ljava/lang/String;" .null ∧ Fld Z h a "com/example/debtd/debtd/service/EnteredExpense" "unreadable" "Ljava/lang/String;" (.ref b)) := by
  refine enter (Ls := #[.val (.ref a), .val .null, .val .null, .val .null, .val .null, .val .null, .val .null, .val (.ref b)]) (plainFor_of_name pn_3) (fun m => by exact entry_eq rfl) ?_
  intro p e s m below meth cd_ s₁ S0 hx hby hml hret hlk hnm hown hZ X0 e0 k0
  have N0 := Fr.nil n0
  have k1 : To p.tables e below S0 (s₁.setTop (mkF m 1 #[.val (.ref a), .val .null, .val .null, .val .null, .val .null, .val .null, .val .null, .val (.ref b)] [(.ref a)])) := fun tt hq => k0 tt (by
    show Steps _ _ _ (s₁.setTop (mkF m 0 #[.val (.ref a), .val .null, .val .null, .val .null, .val .null, .val .null, .val .null, .val (.ref b)] [])) _
    refine XS.aloadN X0.here hx rfl (hb hby d_prog_25_method_2_code_0) rfl rfl ?_
    show Steps _ _ _ (s₁.setTop (mkF m 1 #[.val (.ref a), .val .null, .val .null, .val .null, .val .null, .val .null, .val .null, .val (.ref b)] [(.ref a)])) _
    exact hq)
  obtain ⟨T2, X2, e2, st2⟩ := initO X0 hx hZ hown (hw _ (List.mem_of_getElem? (i := 35) rfl)) (hw _ (List.mem_of_getElem? (i := 16) rfl)) (hw _ (List.mem_of_getElem? (i := 17) rfl)) e0 (g := (mkF m 1 #[.val (.ref a), .val .null, .val .null, .val .null, .val .null, .val .null, .val .null, .val (.ref b)] [(.ref a)])) rfl (by rw [hml]; rfl) rfl (hb hby d_prog_25_method_2_code_1) (by decide) (W := 0) (by show 2 * 0 + _ ≤ _; exact Nat.le_of_eq rfl) (by decide)
  have k2 : To p.tables e below S0 (T2.setTop (mkF m 4 #[.val (.ref a), .val .null, .val .null, .val .null, .val .null, .val .null, .val .null, .val (.ref b)] [])) := fun tt hq => k1 tt (st2 tt hq)
  have k3 : To p.tables e below S0 (T2.setTop (mkF m 6 #[.val (.ref a), .val .null, .val .null, .val .null, .val .null, .val .null, .val .null, .val (.ref b)] [.null, (.ref a)])) := fun tt hq => k2 tt (by
    show Steps _ _ _ (T2.setTop (mkF m 4 #[.val (.ref a), .val .null, .val .null, .val .null, .val .null, .val .null, .val .null, .val (.ref b)] [])) _
    refine XS.aloadN X2.here hx rfl (hb hby d_prog_25_method_2_code_4) rfl rfl ?_
    show Steps _ _ _ (T2.setTop (mkF m 5 #[.val (.ref a), .val .null, .val .null, .val .null, .val .null, .val .null, .val .null, .val (.ref b)] [(.ref a)])) _
    refine XS.aloadN X2.here hx rfl (hb hby d_prog_25_method_2_code_5) rfl rfl ?_
    show Steps _ _ _ (T2.setTop (mkF m 6 #[.val (.ref a), .val .null, .val .null, .val .null, .val .null, .val .null, .val .null, .val (.ref b)] [.null, (.ref a)])) _
    exact hq)
  obtain ⟨T4, h4, X4, e4, W4, st4⟩ := putF X2 hx hZ hown (host := "") (Or.inl (hw _ (List.mem_of_getElem? (i := 36) rfl))) Via.refl e2 P1 P0 (Or.inr ⟨(hw _ (List.mem_of_getElem? (i := 37) rfl)), rfl, hnm⟩) (hw _ (List.mem_of_getElem? (i := 31) rfl)) (ty := (.object "java/lang/String")) (by decide) rfl rfl (g := (mkF m 6 #[.val (.ref a), .val .null, .val .null, .val .null, .val .null, .val .null, .val .null, .val (.ref b)] [.null, (.ref a)])) rfl rfl (hb hby d_prog_25_method_2_code_6)
  have k4 : To p.tables e below S0 (T4.setTop (mkF m 9 #[.val (.ref a), .val .null, .val .null, .val .null, .val .null, .val .null, .val .null, .val (.ref b)] [])) := fun tt hq => k3 tt (st4 tt hq)
  have z4 : h4.size = h0.size := W4.size
  have F4 := P1.same W4
  have N4 := Fr.snoc X4 N0 (by omega : n0 ≤ a)
  have f5 : Exa Z h4 a "com/example/debtd/debtd/service/EnteredExpense" := (P0.wr W4)
  have f6 : Fld Z h4 a "com/example/debtd/debtd/service/EnteredExpense" "amount" "Ljava/lang/String;" .null := (P2.other W4 (Or.inr (slot_ne (Or.inr (hw _ (List.mem_of_getElem? (i := 39) rfl))) (Or.inr (hw _ (List.mem_of_getElem? (i := 37) rfl))) (by decide) (t := (.object "java/lang/String")) (t' := (.object "java/lang/String")) (by decide) (by decide))))
  have k7 : To p.tables e below S0 (T4.setTop (mkF m 11 #[.val (.ref a), .val .null, .val .null, .val .null, .val .null, .val .null, .val .null, .val (.ref b)] [.null, (.ref a)])) := fun tt hq => k4 tt (by
    show Steps _ _ _ (T4.setTop (mkF m 9 #[.val (.ref a), .val .null, .val .null, .val .null, .val .null, .val .null, .val .null, .val (.ref b)] [])) _
    refine XS.aloadN X4.here hx rfl (hb hby d_prog_25_method_2_code_9) rfl rfl ?_
    show Steps _ _ _ (T4.setTop (mkF m 10 #[.val (.ref a), .val .null, .val .null, .val .null, .val .null, .val .null, .val .null, .val (.ref b)] [(.ref a)])) _
    refine XS.aloadN X4.here hx rfl (hb hby d_prog_25_method_2_code_10) rfl rfl ?_
    show Steps _ _ _ (T4.setTop (mkF m 11 #[.val (.ref a), .val .null, .val .null, .val .null, .val .null, .val .null, .val .null, .val (.ref b)] [.null, (.ref a)])) _
    exact hq)
  obtain ⟨T8, h8, X8, e8, W8, st8⟩ := putF X4 hx hZ hown (host := "") (Or.inl (hw _ (List.mem_of_getElem? (i := 38) rfl))) Via.refl e4 f6 f5 (Or.inr ⟨(hw _ (List.mem_of_getElem? (i := 39) rfl)), rfl, hnm⟩) (hw _ (List.mem_of_getElem? (i := 31) rfl)) (ty := (.object "java/lang/String")) (by decide) rfl rfl (g := (mkF m 11 #[.val (.ref a), .val .null, .val .null, .val .null, .val .null, .val .null, .val .null, .val (.ref b)] [.null, (.ref a)])) rfl rfl (hb hby d_prog_25_method_2_code_11)
  have k8 : To p.tables e below S0 (T8.setTop (mkF m 14 #[.val (.ref a), .val .null, .val .null, .val .null, .val .null, .val .null, .val .null, .val (.ref b)] [])) := fun tt hq => k7 tt (st8 tt hq)
  have z8 : h8.size = h4.size := W8.size
  have F8 := f6.same W8
  have N8 := Fr.snoc X8 N4 (by omega : n0 ≤ a)
  have f9 : Exa Z h8 a "com/example/debtd/debtd/service/EnteredExpense" := (f5.wr W8)
  have f10 : Fld Z h8 a "com/example/debtd/debtd/service/EnteredExpense" "paidBy" "Ljava/lang/Integer;" .null := ((P3.other W4 (Or.inr (slot_ne (Or.inr (hw _ (List.mem_of_getElem? (i := 41) rfl))) (Or.inr (hw _ (List.mem_of_getElem? (i := 37) rfl))) (by decide) (t := (.object "java/lang/Integer")) (t' := (.object "java/lang/String")) (by decide) (by decide)))).other W8 (Or.inr (slot_ne (Or.inr (hw _ (List.mem_of_getElem? (i := 41) rfl))) (Or.inr (hw _ (List.mem_of_getElem? (i := 39) rfl))) (by decide) (t := (.object "java/lang/Integer")) (t' := (.object "java/lang/String")) (by decide) (by decide))))
  have k11 : To p.tables e below S0 (T8.setTop (mkF m 16 #[.val (.ref a), .val .null, .val .null, .val .null, .val .null, .val .null, .val .null, .val (.ref b)] [.null, (.ref a)])) := fun tt hq => k8 tt (by
    show Steps _ _ _ (T8.setTop (mkF m 14 #[.val (.ref a), .val .null, .val .null, .val .null, .val .null, .val .null, .val .null, .val (.ref b)] [])) _
    refine XS.aloadN X8.here hx rfl (hb hby d_prog_25_method_2_code_14) rfl rfl ?_
    show Steps _ _ _ (T8.setTop (mkF m 15 #[.val (.ref a), .val .null, .val .null, .val .null, .val .null, .val .null, .val .null, .val (.ref b)] [(.ref a)])) _
    refine XS.aloadN X8.here hx rfl (hb hby d_prog_25_method_2_code_15) rfl rfl ?_
    show Steps _ _ _ (T8.setTop (mkF m 16 #[.val (.ref a), .val .null, .val .null, .val .null, .val .null, .val .null, .val .null, .val (.ref b)] [.null, (.ref a)])) _
    exact hq)
  obtain ⟨T12, h12, X12, e12, W12, st12⟩ := putF X8 hx hZ hown (host := "") (Or.inl (hw _ (List.mem_of_getElem? (i := 40) rfl))) Via.refl e8 f10 f9 (Or.inr ⟨(hw _ (List.mem_of_getElem? (i := 41) rfl)), rfl, hnm⟩) (hw _ (List.mem_of_getElem? (i := 31) rfl)) (ty := (.object "java/lang/Integer")) (by decide) rfl rfl (g := (mkF m 16 #[.val (.ref a), .val .null, .val .null, .val .null, .val .null, .val .null, .val .null, .val (.ref b)] [.null, (.ref a)])) rfl rfl (hb hby d_prog_25_method_2_code_16)
  have k12 : To p.tables e below S0 (T12.setTop (mkF m 19 #[.val (.ref a), .val .null, .val .null, .val .null, .val .null, .val .null, .val .null, .val (.ref b)] [])) := fun tt hq => k11 tt (st12 tt hq)
  have z12 : h12.size = h8.size := W12.size
  have F12 := f10.same W12
  have N12 := Fr.snoc X12 N8 (by omega : n0 ≤ a)
  have f13 : Exa Z h12 a "com/example/debtd/debtd/service/EnteredExpense" := (f9.wr W12)
  have f14 : Fld Z h12 a "com/example/debtd/debtd/service/EnteredExpense" "split" "Lcom/example/debtd/debtd/service/EnteredSplit;" .null := (((P4.other W4 (Or.inr (slot_ne (Or.inr (hw _ (List.mem_of_getElem? (i := 43) rfl))) (Or.inr (hw _ (List.mem_of_getElem? (i := 37) rfl))) (by decide) (t := (.object "com/example/debtd/debtd/service/EnteredSplit")) (t' := (.object "java/lang/String")) (by decide) (by decide)))).other W8 (Or.inr (slot_ne (Or.inr (hw _ (List.mem_of_getElem? (i := 43) rfl))) (Or.inr (hw _ (List.mem_of_getElem? (i := 39) rfl))) (by decide) (t := (.object "com/example/debtd/debtd/service/EnteredSplit")) (t' := (.object "java/lang/String")) (by decide) (by decide)))).other W12 (Or.inr (slot_ne (Or.inr (hw _ (List.mem_of_getElem? (i := 43) rfl))) (Or.inr (hw _ (List.mem_of_getElem? (i := 41) rfl))) (by decide) (t := (.object "com/example/debtd/debtd/service/EnteredSplit")) (t' := (.object "java/lang/Integer")) (by decide) (by decide))))
  have k15 : To p.tables e below S0 (T12.setTop (mkF m 22 #[.val (.ref a), .val .null, .val .null, .val .null, .val .null, .val .null, .val .null, .val (.ref b)] [.null, (.ref a)])) := fun tt hq => k12 tt (by
    show Steps _ _ _ (T12.setTop (mkF m 19 #[.val (.ref a), .val .null, .val .null, .val .null, .val .null, .val .null, .val .null, .val (.ref b)] [])) _
    refine XS.aloadN X12.here hx rfl (hb hby d_prog_25_method_2_code_19) rfl rfl ?_
    show Steps _ _ _ (T12.setTop (mkF m 20 #[.val (.ref a), .val .null, .val .null, .val .null, .val .null, .val .null, .val .null, .val (.ref b)] [(.ref a)])) _
    refine XS.aload X12.here hx rfl (hb hby d_prog_25_method_2_code_20) rfl rfl ?_
    show Steps _ _ _ (T12.setTop (mkF m 22 #[.val (.ref a), .val .null, .val .null, .val .null, .val .null, .val .null, .val .null, .val (.ref b)] [.null, (.ref a)])) _
    exact hq)
  obtain ⟨T16, h16, X16, e16, W16, st16⟩ := putF X12 hx hZ hown (host := "") (Or.inl (hw _ (List.mem_of_getElem? (i := 42) rfl))) Via.refl e12 f14 f13 (Or.inr ⟨(hw _ (List.mem_of_getElem? (i := 43) rfl)), rfl, hnm⟩) (hw _ (List.mem_of_getElem? (i := 31) rfl)) (ty := (.object "com/example/debtd/debtd/service/EnteredSplit")) (by decide) rfl rfl (g := (mkF m 22 #[.val (.ref a), .val .null, .val .null, .val .null, .val .null, .val .null, .val .null, .val (.ref b)] [.null, (.ref a)])) rfl rfl (hb hby d_prog_25_method_2_code_22)
  have k16 : To p.tables e below S0 (T16.setTop (mkF m 25 #[.val (.ref a), .val .null, .val .null, .val .null, .val .null, .val .null, .val .null, .val (.ref b)] [])) := fun tt hq => k15 tt (st16 tt hq)
  have z16 : h16.size = h12.size := W16.size
  have F16 := f14.same W16
  have N16 := Fr.snoc X16 N12 (by omega : n0 ≤ a)
  have f17 : Exa Z h16 a "com/example/debtd/debtd/service/EnteredExpense" := (f13.wr W16)
  have f18 : Fld Z h16 a "com/example/debtd/debtd/service/EnteredExpense" "category" "Ljava/lang/String;" .null := ((((P5.other W4 (Or.inr (slot_ne (Or.inr (hw _ (List.mem_of_getElem? (i := 45) rfl))) (Or.inr (hw _ (List.mem_of_getElem? (i := 37) rfl))) (by decide) (t := (.object "java/lang/String")) (t' := (.object "java/lang/String")) (by decide) (by decide)))).other W8 (Or.inr (slot_ne (Or.inr (hw _ (List.mem_of_getElem? (i := 45) rfl))) (Or.inr (hw _ (List.mem_of_getElem? (i := 39) rfl))) (by decide) (t := (.object "java/lang/String")) (t' := (.object "java/lang/String")) (by decide) (by decide)))).other W12 (Or.inr (slot_ne (Or.inr (hw _ (List.mem_of_getElem? (i := 45) rfl))) (Or.inr (hw _ (List.mem_of_getElem? (i := 41) rfl))) (by decide) (t := (.object "java/lang/String")) (t' := (.object "java/lang/Integer")) (by decide) (by decide)))).other W16 (Or.inr (slot_ne (Or.inr (hw _ (List.mem_of_getElem? (i := 45) rfl))) (Or.inr (hw _ (List.mem_of_getElem? (i := 43) rfl))) (by decide) (t := (.object "java/lang/String")) (t' := (.object "com/example/debtd/debtd/service/EnteredSplit")) (by decide) (by decide))))
  have k19 : To p.tables e below S0 (T16.setTop (mkF m 28 #[.val (.ref a), .val .null, .val .null, .val .null, .val .null, .val .null, .val .null, .val (.ref b)] [.null, (.ref a)])) := fun tt hq => k16 tt (by
    show Steps _ _ _ (T16.setTop (mkF m 25 #[.val (.ref a), .val .null, .val .null, .val .null, .val .null, .val .null, .val .null, .val (.ref b)] [])) _
    refine XS.aloadN X16.here hx rfl (hb hby d_prog_25_method_2_code_25) rfl rfl ?_
    show Steps _ _ _ (T16.setTop (mkF m 26 #[.val (.ref a), .val .null, .val .null, .val .null, .val .null, .val .null, .val .null, .val (.ref b)] [(.ref a)])) _
    refine XS.aload X16.here hx rfl (hb hby d_prog_25_method_2_code_26) rfl rfl ?_
    show Steps _ _ _ (T16.setTop (mkF m 28 #[.val (.ref a), .val .null, .val .null, .val .null, .val .null, .val .null, .val .null, .val (.ref b)] [.null, (.ref a)])) _
    exact hq)
  obtain ⟨T20, h20, X20, e20, W20, st20⟩ := putF X16 hx hZ hown (host := "") (Or.inl (hw _ (List.mem_of_getElem? (i := 44) rfl))) Via.refl e16 f18 f17 (Or.inr ⟨(hw _ (List.mem_of_getElem? (i := 45) rfl)), rfl, hnm⟩) (hw _ (List.mem_of_getElem? (i := 31) rfl)) (ty := (.object "java/lang/String")) (by decide) rfl rfl (g := (mkF m 28 #[.val (.ref a), .val .null, .val .null, .val .null, .val .null, .val .null, .val .null, .val (.ref b)] [.null, (.ref a)])) rfl rfl (hb hby d_prog_25_method_2_code_28)
  have k20 : To p.tables e below S0 (T20.setTop (mkF m 31 #[.val (.ref a), .val .null, .val .null, .val .null, .val .null, .val .null, .val .null, .val (.ref b)] [])) := fun tt hq => k19 tt (st20 tt hq)
  have z20 : h20.size = h16.size := W20.size
  have F20 := f18.same W20
  have N20 := Fr.snoc X20 N16 (by omega : n0 ≤ a)
  have f21 : Exa Z h20 a "com/example/debtd/debtd/service/EnteredExpense" := (f17.wr W20)
  have f22 : Fld Z h20 a "com/example/debtd/debtd/service/EnteredExpense" "date" "Ljava/lang/String;" .null := (((((P6.other W4 (Or.inr (slot_ne (Or.inr (hw _ (List.mem_of_getElem? (i := 47) rfl))) (Or.inr (hw _ (List.mem_of_getElem? (i := 37) rfl))) (by decide) (t := (.object "java/lang/String")) (t' := (.object "java/lang/String")) (by decide) (by decide)))).other W8 (Or.inr (slot_ne (Or.inr (hw _ (List.mem_of_getElem? (i := 47) rfl))) (Or.inr (hw _ (List.mem_of_getElem? (i := 39) rfl))) (by decide) (t := (.object "java/lang/String")) (t' := (.object "java/lang/String")) (by decide) (by decide)))).other W12 (Or.inr (slot_ne (Or.inr (hw _ (List.mem_of_getElem? (i := 47) rfl))) (Or.inr (hw _ (List.mem_of_getElem? (i := 41) rfl))) (by decide) (t := (.object "java/lang/String")) (t' := (.object "java/lang/Integer")) (by decide) (by decide)))).other W16 (Or.inr (slot_ne (Or.inr (hw _ (List.mem_of_getElem? (i := 47) rfl))) (Or.inr (hw _ (List.mem_of_getElem? (i := 43) rfl))) (by decide) (t := (.object "java/lang/String")) (t' := (.object "com/example/debtd/debtd/service/EnteredSplit")) (by decide) (by decide)))).other W20 (Or.inr (slot_ne (Or.inr (hw _ (List.mem_of_getElem? (i := 47) rfl))) (Or.inr (hw _ (List.mem_of_getElem? (i := 45) rfl))) (by decide) (t := (.object "java/lang/String")) (t' := (.object "java/lang/String")) (by decide) (by decide))))
  have k23 : To p.tables e below S0 (T20.setTop (mkF m 34 #[.val (.ref a), .val .null, .val .null, .val .null, .val .null, .val .null, .val .null, .val (.ref b)] [.null, (.ref a)])) := fun tt hq => k20 tt (by
    show Steps _ _ _ (T20.setTop (mkF m 31 #[.val (.ref a), .val .null, .val .null, .val .null, .val .null, .val .null, .val .null, .val (.ref b)] [])) _
    refine XS.aloadN X20.here hx rfl (hb hby d_prog_25_method_2_code_31) rfl rfl ?_
    show Steps _ _ _ (T20.setTop (mkF m 32 #[.val (.ref a), .val .null, .val .null, .val .null, .val .null, .val .null, .val .null, .val (.ref b)] [(.ref a)])) _
    refine XS.aload X20.here hx rfl (hb hby d_prog_25_method_2_code_32) rfl rfl ?_
    show Steps _ _ _ (T20.setTop (mkF m 34 #[.val (.ref a), .val .null, .val .null, .val .null, .val .null, .val .null, .val .null, .val (.ref b)] [.null, (.ref a)])) _
    exact hq)
  obtain ⟨T24, h24, X24, e24, W24, st24⟩ := putF X20 hx hZ hown (host := "") (Or.inl (hw _ (List.mem_of_getElem? (i := 46) rfl))) Via.refl e20 f22 f21 (Or.inr ⟨(hw _ (List.mem_of_getElem? (i := 47) rfl)), rfl, hnm⟩) (hw _ (List.mem_of_getElem? (i := 31) rfl)) (ty := (.object "java/lang/String")) (by decide) rfl rfl (g := (mkF m 34 #[.val (.ref a), .val .null, .val .null, .val .null, .val .null, .val .null, .val .null, .val (.ref b)] [.null, (.ref a)])) rfl rfl (hb hby d_prog_25_method_2_code_34)
  have k24 : To p.tables e below S0 (T24.setTop (mkF m 37 #[.val (.ref a), .val .null, .val .null, .val .null, .val .null, .val .null, .val .null, .val (.ref b)] [])) := fun tt hq => k23 tt (st24 tt hq)
  have z24 : h24.size = h20.size := W24.size
  have F24 := f22.same W24
  have N24 := Fr.snoc X24 N20 (by omega : n0 ≤ a)
  have f25 : Exa Z h24 a "com/example/debtd/debtd/service/EnteredExpense" := (f21.wr W24)
  have f26 : Fld Z h24 a "com/example/debtd/debtd/service/EnteredExpense" "unreadable" "Ljava/lang/String;" .null := ((((((P7.other W4 (Or.inr (slot_ne (Or.inr (hw _ (List.mem_of_getElem? (i := 49) rfl))) (Or.inr (hw _ (List.mem_of_getElem? (i := 37) rfl))) (by decide) (t := (.object "java/lang/String")) (t' := (.object "java/lang/String")) (by decide) (by decide)))).other W8 (Or.inr (slot_ne (Or.inr (hw _ (List.mem_of_getElem? (i := 49) rfl))) (Or.inr (hw _ (List.mem_of_getElem? (i := 39) rfl))) (by decide) (t := (.object "java/lang/String")) (t' := (.object "java/lang/String")) (by decide) (by decide)))).other W12 (Or.inr (slot_ne (Or.inr (hw _ (List.mem_of_getElem? (i := 49) rfl))) (Or.inr (hw _ (List.mem_of_getElem? (i := 41) rfl))) (by decide) (t := (.object "java/lang/String")) (t' := (.object "java/lang/Integer")) (by decide) (by decide)))).other W16 (Or.inr (slot_ne (Or.inr (hw _ (List.mem_of_getElem? (i := 49) rfl))) (Or.inr (hw _ (List.mem_of_getElem? (i := 43) rfl))) (by decide) (t := (.object "java/lang/String")) (t' := (.object "com/example/debtd/debtd/service/EnteredSplit")) (by decide) (by decide)))).other W20 (Or.inr (slot_ne (Or.inr (hw _ (List.mem_of_getElem? (i := 49) rfl))) (Or.inr (hw _ (List.mem_of_getElem? (i := 45) rfl))) (by decide) (t := (.object "java/lang/String")) (t' := (.object "java/lang/String")) (by decide) (by decide)))).other W24 (Or.inr (slot_ne (Or.inr (hw _ (List.mem_of_getElem? (i := 49) rfl))) (Or.inr (hw _ (List.mem_of_getElem? (i := 47) rfl))) (by decide) (t := (.object "java/lang/String")) (t' := (.object "java/lang/String")) (by decide) (by decide))))
  have k27 : To p.tables e below S0 (T24.setTop (mkF m 40 #[.val (.ref a), .val .null, .val .null, .val .null, .val .null, .val .null, .val .null, .val (.ref b)] [(.ref b), (.ref a)])) := fun tt hq => k24 tt (by
    show Steps _ _ _ (T24.setTop (mkF m 37 #[.val (.ref a), .val .null, .val .null, .val .null, .val .null, .val .null, .val .null, .val (.ref b)] [])) _
    refine XS.aloadN X24.here hx rfl (hb hby d_prog_25_method_2_code_37) rfl rfl ?_
    show Steps _ _ _ (T24.setTop (mkF m 38 #[.val (.ref a), .val .null, .val .null, .val .null, .val .null, .val .null, .val .null, .val (.ref b)] [(.ref a)])) _
    refine XS.aload X24.here hx rfl (hb hby d_prog_25_method_2_code_38) rfl rfl ?_
    show Steps _ _ _ (T24.setTop (mkF m 40 #[.val (.ref a), .val .null, .val .null, .val .null, .val .null, .val .null, .val .null, .val (.ref b)] [(.ref b), (.ref a)])) _
    exact hq)
  obtain ⟨T28, h28, X28, e28, W28, st28⟩ := putF X24 hx hZ hown (host := "") (Or.inl (hw _ (List.mem_of_getElem? (i := 48) rfl))) Via.refl e24 f26 f25 (Or.inr ⟨(hw _ (List.mem_of_getElem? (i := 49) rfl)), rfl, hnm⟩) (hw _ (List.mem_of_getElem? (i := 31) rfl)) (ty := (.object "java/lang/String")) (by decide) rfl rfl (g := (mkF m 40 #[.val (.ref a), .val .null, .val .null, .val .null, .val .null, .val .null, .val .null, .val (.ref b)] [(.ref b), (.ref a)])) rfl rfl (hb hby d_prog_25_method_2_code_40)
  have k28 : To p.tables e below S0 (T28.setTop (mkF m 43 #[.val (.ref a), .val .null, .val .null, .val .null, .val .null, .val .null, .val .null, .val (.ref b)] [])) := fun tt hq => k27 tt (st28 tt hq)
  have z28 : h28.size = h24.size := W28.size
  have F28 := f26.same W28
  have N28 := Fr.snoc X28 N24 (by omega : n0 ≤ a)
  have f29 : Exa Z h28 a "com/example/debtd/debtd/service/EnteredExpense" := (f25.wr W28)
  have f30 : Fld Z h28 a "com/example/debtd/debtd/service/EnteredExpense" "description" "Ljava/lang/String;" .null := ((((((F4.other W8 (Or.inr (slot_ne (Or.inr (hw _ (List.mem_of_getElem? (i := 37) rfl))) (Or.inr (hw _ (List.mem_of_getElem? (i := 39) rfl))) (by decide) (t := (.object "java/lang/String")) (t' := (.object "java/lang/String")) (by decide) (by decide)))).other W12 (Or.inr (slot_ne (Or.inr (hw _ (List.mem_of_getElem? (i := 37) rfl))) (Or.inr (hw _ (List.mem_of_getElem? (i := 41) rfl))) (by decide) (t := (.object "java/lang/String")) (t' := (.object "java/lang/Integer")) (by decide) (by decide)))).other W16 (Or.inr (slot_ne (Or.inr (hw _ (List.mem_of_getElem? (i := 37) rfl))) (Or.inr (hw _ (List.mem_of_getElem? (i := 43) rfl))) (by decide) (t := (.object "java/lang/String")) (t' := (.object "com/example/debtd/debtd/service/EnteredSplit")) (by decide) (by decide)))).other W20 (Or.inr (slot_ne (Or.inr (hw _ (List.mem_of_getElem? (i := 37) rfl))) (Or.inr (hw _ (List.mem_of_getElem? (i := 45) rfl))) (by decide) (t := (.object "java/lang/String")) (t' := (.object "java/lang/String")) (by decide) (by decide)))).other W24 (Or.inr (slot_ne (Or.inr (hw _ (List.mem_of_getElem? (i := 37) rfl))) (Or.inr (hw _ (List.mem_of_getElem? (i := 47) rfl))) (by decide) (t := (.object "java/lang/String")) (t' := (.object "java/lang/String")) (by decide) (by decide)))).other W28 (Or.inr (slot_ne (Or.inr (hw _ (List.mem_of_getElem? (i := 37) rfl))) (Or.inr (hw _ (List.mem_of_getElem? (i := 49) rfl))) (by decide) (t := (.object "java/lang/String")) (t' := (.object "java/lang/String")) (by decide) (by decide))))
  have f31 : Fld Z h28 a "com/example/debtd/debtd/service/EnteredExpense" "amount" "Ljava/lang/String;" .null := (((((F8.other W12 (Or.inr (slot_ne (Or.inr (hw _ (List.mem_of_getElem? (i := 39) rfl))) (Or.inr (hw _ (List.mem_of_getElem? (i := 41) rfl))) (by decide) (t := (.object "java/lang/String")) (t' := (.object "java/lang/Integer")) (by decide) (by decide)))).other W16 (Or.inr (slot_ne (Or.inr (hw _ (List.mem_of_getElem? (i := 39) rfl))) (Or.inr (hw _ (List.mem_of_getElem? (i := 43) rfl))) (by decide) (t := (.object "java/lang/String")) (t' := (.object "com/example/debtd/debtd/service/EnteredSplit")) (by decide) (by decide)))).other W20 (Or.inr (slot_ne (Or.inr (hw _ (List.mem_of_getElem? (i := 39) rfl))) (Or.inr (hw _ (List.mem_of_getElem? (i := 45) rfl))) (by decide) (t := (.object "java/lang/String")) (t' := (.object "java/lang/String")) (by decide) (by decide)))).other W24 (Or.inr (slot_ne (Or.inr (hw _ (List.mem_of_getElem? (i := 39) rfl))) (Or.inr (hw _ (List.mem_of_getElem? (i := 47) rfl))) (by decide) (t := (.object "java/lang/String")) (t' := (.object "java/lang/String")) (by decide) (by decide)))).other W28 (Or.inr (slot_ne (Or.inr (hw _ (List.mem_of_getElem? (i := 39) rfl))) (Or.inr (hw _ (List.mem_of_getElem? (i := 49) rfl))) (by decide) (t := (.object "java/lang/String")) (t' := (.object "java/lang/String")) (by decide) (by decide))))
  have f32 : Fld Z h28 a "com/example/debtd/debtd/service/EnteredExpense" "paidBy" "Ljava/lang/Integer;" .null := ((((F12.other W16 (Or.inr (slot_ne (Or.inr (hw _ (List.mem_of_getElem? (i := 41) rfl))) (Or.inr (hw _ (List.mem_of_getElem? (i := 43) rfl))) (by decide) (t := (.object "java/lang/Integer")) (t' := (.object "com/example/debtd/debtd/service/EnteredSplit")) (by decide) (by decide)))).other W20 (Or.inr (slot_ne (Or.inr (hw _ (List.mem_of_getElem? (i := 41) rfl))) (Or.inr (hw _ (List.mem_of_getElem? (i := 45) rfl))) (by decide) (t := (.object "java/lang/Integer")) (t' := (.object "java/lang/String")) (by decide) (by decide)))).other W24 (Or.inr (slot_ne (Or.inr (hw _ (List.mem_of_getElem? (i := 41) rfl))) (Or.inr (hw _ (List.mem_of_getElem? (i := 47) rfl))) (by decide) (t := (.object "java/lang/Integer")) (t' := (.object "java/lang/String")) (by decide) (by decide)))).other W28 (Or.inr (slot_ne (Or.inr (hw _ (List.mem_of_getElem? (i := 41) rfl))) (Or.inr (hw _ (List.mem_of_getElem? (i := 49) rfl))) (by decide) (t := (.object "java/lang/Integer")) (t' := (.object "java/lang/String")) (by decide) (by decide))))
  have f33 : Fld Z h28 a "com/example/debtd/debtd/service/EnteredExpense" "split" "Lcom/example/debtd/debtd/service/EnteredSplit;" .null := (((F16.other W20 (Or.inr (slot_ne (Or.inr (hw _ (List.mem_of_getElem? (i := 43) rfl))) (Or.inr (hw _ (List.mem_of_getElem? (i := 45) rfl))) (by decide) (t := (.object "com/example/debtd/debtd/service/EnteredSplit")) (t' := (.object "java/lang/String")) (by decide) (by decide)))).other W24 (Or.inr (slot_ne (Or.inr (hw _ (List.mem_of_getElem? (i := 43) rfl))) (Or.inr (hw _ (List.mem_of_getElem? (i := 47) rfl))) (by decide) (t := (.object "com/example/debtd/debtd/service/EnteredSplit")) (t' := (.object "java/lang/String")) (by decide) (by decide)))).other W28 (Or.inr (slot_ne (Or.inr (hw _ (List.mem_of_getElem? (i := 43) rfl))) (Or.inr (hw _ (List.mem_of_getElem? (i := 49) rfl))) (by decide) (t := (.object "com/example/debtd/debtd/service/EnteredSplit")) (t' := (.object "java/lang/String")) (by decide) (by decide))))
  have f34 : Fld Z h28 a "com/example/debtd/debtd/service/EnteredExpense" "category" "Ljava/lang/String;" .null := ((F20.other W24 (Or.inr (slot_ne (Or.inr (hw _ (List.mem_of_getElem? (i := 45) rfl))) (Or.inr (hw _ (List.mem_of_getElem? (i := 47) rfl))) (by decide) (t := (.object "java/lang/String")) (t' := (.object "java/lang/String")) (by decide) (by decide)))).other W28 (Or.inr (slot_ne (Or.inr (hw _ (List.mem_of_getElem? (i := 45) rfl))) (Or.inr (hw _ (List.mem_of_getElem? (i := 49) rfl))) (by decide) (t := (.object "java/lang/String")) (t' := (.object "java/lang/String")) (by decide) (by decide))))
  have f35 : Fld Z h28 a "com/example/debtd/debtd/service/EnteredExpense" "date" "Ljava/lang/String;" .null := (F24.other W28 (Or.inr (slot_ne (Or.inr (hw _ (List.mem_of_getElem? (i := 47) rfl))) (Or.inr (hw _ (List.mem_of_getElem? (i := 49) rfl))) (by decide) (t := (.object "java/lang/String")) (t' := (.object "java/lang/String")) (by decide) (by decide))))
  have hE := e28
  refine retVoid X28 hx hret hlk (hb hby d_prog_25_method_2_code_43) k28 ?_ (by decide) (by decide)
  try rw [hE]
  exact ⟨rfl, N28, ((((((((Keep.refl h0 [a]).wr W4 (Or.inl (by simp))).wr W8 (Or.inl (by simp))).wr W12 (Or.inl (by simp))).wr W16 (Or.inl (by simp))).wr W20 (Or.inl (by simp))).wr W24 (Or.inl (by simp))).wr W28 (Or.inl (by simp))), f29, f30, f31, f32, f33, f34, f35, F28⟩
theorem d_prog_25_method_3_code_0 : decode prog_25_method_3_code 0 = .ok (.new 2, 3) := by decide +kernel
theorem d_prog_25_method_3_code_3 : decode prog_25_method_3_code 3 = .ok (.dup, 1) := by decide +kernel
theorem d_prog_25_method_3_code_4 : decode prog_25_method_3_code 4 = .ok (.aconst_null, 1) := by decide +kernel
theorem d_prog_25_method_3_code_5 : decode prog_25_method_3_code 5 = .ok (.aconst_null, 1) := by decide +kernel
theorem d_prog_25_method_3_code_6 : decode prog_25_method_3_code 6 = .ok (.aconst_null, 1) := by decide +kernel
theorem d_prog_25_method_3_code_7 : decode prog_25_method_3_code 7 = .ok (.aconst_null, 1) := by decide +kernel
theorem d_prog_25_method_3_code_8 : decode prog_25_method_3_code 8 = .ok (.aconst_null, 1) := by decide +kernel
theorem d_prog_25_method_3_code_9 : decode prog_25_method_3_code 9 = .ok (.aconst_null, 1) := by decide +kernel
theorem d_prog_25_method_3_code_10 : decode prog_25_method_3_code 10 = .ok (.aload_n 0, 1) := by decide +kernel
theorem d_prog_25_method_3_code_11 : decode prog_25_method_3_code 11 = .ok (.invokespecial 1, 3) := by decide +kernel
theorem d_prog_25_method_3_code_14 : decode prog_25_method_3_code 14 = .ok (.areturn, 1) := by decide +kernel
theorem pd_5 : parseMethodDescriptor "(Ljava/lang/String;Ljava/lang/String;Ljava/lang/Integer;Lcom/example/debtd/debtd/service/EnteredSplit;Ljava/lang/String;Ljava/lang/String;Ljava/lang/String;)V" = some ⟨[(.object "java/lang/String"), (.object "java/lang/String"), (.object "java/lang/Integer"), (.object "com/example/debtd/debtd/service/EnteredSplit"), (.object "java/lang/String"), (.object "java/lang/String"), (.object "java/lang/String")], none⟩ := by decide +kernel
set_option maxRecDepth 65536 in
set_option maxHeartbeats 40000000 in
theorem rm_eu (l : Launch) (Z : State) (a0 : Array Value) (hw : ∀ d ∈ tables_1, d.before a0 Z = true) (b : Addr) (h0 : Heap) (n0 : Nat) (hn0 : n0 ≤ h0.size)  :
    Con l Z (⟨"com/example/debtd/debtd/service/EnteredExpense", "unreadable", "(Ljava/lang/String;)Lcom/example/debtd/debtd/service/EnteredExpense;"⟩ : MethodName) prog_25_method_3_code 1 (some (.object "com/example/debtd/debtd/service/EnteredExpense")) [] ({ frames := 2, cells := 1, slots := 7, locals := 32 } : Room) #[(.ref b)] h0 (fun v h L => ∃ a : Addr, v = some (.ref a) ∧ Fr n0 L ∧ h0.size ≤ a ∧ Keep h0 h [] ∧ Exa Z h a "com/example/debtd/debtd/service/EnteredExpense" ∧ Fld Z h a "com/example/debtd/debtd/service/EnteredExpense" "description" "Ljava/lang/String;" .null ∧ Fld Z h a "com/example/debtd/debtd/service/EnteredExpense" "amount" "Ljava/lang/String;" .null ∧ Fld Z h a "com/example/debtd/debtd/service/EnteredExpense" "paidBy" "Ljava/lang/Integer;" .null ∧ Fld Z h a "com/example/debtd/debtd/service/EnteredExpense" "split" "Lcom/example/debtd/debtd/service/EnteredSplit;" .null ∧ Fld Z h a "com/example/debtd/debtd/service/EnteredExpense" "category" "Ljava/lang/String;" .null ∧ Fld Z h a "com/example/debtd/debtd/service/EnteredExpense" "date" "Ljava/lang/String;" .null ∧ Fld Z h a "com/example/debtd/debtd/service/EnteredExpense" "unreadable" "Ljava/lang/String;" (.ref b)) := by
  refine enter (Ls := #[.val (.ref b)]) (plainFor_of_name pn_3) (fun m => by exact entry_eq rfl) ?_
  intro p e s m below meth cd_ s₁ S0 hx hby hml hret hlk hnm hown hZ X0 e0 k0
  have N0 := Fr.nil n0
  obtain ⟨T1, h1, X1, e1, E1, A1, D1, -, st1⟩ := newO X0 hx hZ hown (hw _ (List.mem_of_getElem? (i := 30) rfl)) (hw _ (List.mem_of_getElem? (i := 31) rfl)) (hw _ (List.mem_of_getElem? (i := 28) rfl)) e0 (g := (mkF m 0 #[.val (.ref b)] [])) rfl (hb hby d_prog_25_method_3_code_0) (by decide) (by decide)
  obtain ⟨b1, g1⟩ : ∃ z, z = h0.size := ⟨_, rfl⟩
  rw [← g1] at A1 D1 st1
  have k1 : To p.tables e below S0 (T1.setTop (mkF m 3 #[.val (.ref b)] [(.ref b1)])) := fun tt hq => k0 tt (st1 tt hq)
  have z1 : h0.size ≤ h1.size := E1.1
  have y1 : @LT.lt Nat instLTNat b1 h1.size := A1.lt
  have F1_description : Fld Z h1 b1 "com/example/debtd/debtd/service/EnteredExpense" "description" "Ljava/lang/String;" .null := D1 (Or.inr (hw _ (List.mem_of_getElem? (i := 37) rfl))) (ty := (.object "java/lang/String")) (by decide)
  have F1_amount : Fld Z h1 b1 "com/example/debtd/debtd/service/EnteredExpense" "amount" "Ljava/lang/String;" .null := D1 (Or.inr (hw _ (List.mem_of_getElem? (i := 39) rfl))) (ty := (.object "java/lang/String")) (by decide)
  have F1_paidBy : Fld Z h1 b1 "com/example/debtd/debtd/service/EnteredExpense" "paidBy" "Ljava/lang/Integer;" .null := D1 (Or.inr (hw _ (List.mem_of_getElem? (i := 41) rfl))) (ty := (.object "java/lang/Integer")) (by decide)
  have F1_split : Fld Z h1 b1 "com/example/debtd/debtd/service/EnteredExpense" "split" "Lcom/example/debtd/debtd/service/EnteredSplit;" .null := D1 (Or.inr (hw _ (List.mem_of_getElem? (i := 43) rfl))) (ty := (.object "com/example/debtd/debtd/service/EnteredSplit")) (by decide)
  have F1_category : Fld Z h1 b1 "com/example/debtd/debtd/service/EnteredExpense" "category" "Ljava/lang/String;" .null := D1 (Or.inr (hw _ (List.mem_of_getElem? (i := 45) rfl))) (ty := (.object "java/lang/String")) (by decide)
  have F1_date : Fld Z h1 b1 "com/example/debtd/debtd/service/EnteredExpense" "date" "Ljava/lang/String;" .null := D1 (Or.inr (hw _ (List.mem_of_getElem? (i := 47) rfl))) (ty := (.object "java/lang/String")) (by decide)
  have F1_unreadable : Fld Z h1 b1 "com/example/debtd/debtd/service/EnteredExpense" "unreadable" "Ljava/lang/String;" .null := D1 (Or.inr (hw _ (List.mem_of_getElem? (i := 49) rfl))) (ty := (.object "java/lang/String")) (by decide)
  have k2 : To p.tables e below S0 (T1.setTop (mkF m 11 #[.val (.ref b)] [(.ref b), .null, .null, .null, .null, .null, .null, (.ref b1), (.ref b1)])) := fun tt hq => k1 tt (by
    show Steps _ _ _ (T1.setTop (mkF m 3 #[.val (.ref b)] [(.ref b1)])) _
    refine XS.dup X1.here hx rfl (hb hby d_prog_25_method_3_code_3) rfl rfl ?_
    show Steps _ _ _ (T1.setTop (mkF m 4 #[.val (.ref b)] [(.ref b1), (.ref b1)])) _
    refine XS.aconstNull X1.here hx rfl (hb hby d_prog_25_method_3_code_4) ?_
    show Steps _ _ _ (T1.setTop (mkF m 5 #[.val (.ref b)] [.null, (.ref b1), (.ref b1)])) _
    refine XS.aconstNull X1.here hx rfl (hb hby d_prog_25_method_3_code_5) ?_
    show Steps _ _ _ (T1.setTop (mkF m 6 #[.val (.ref b)] [.null, .null, (.ref b1), (.ref b1)])) _
    refine XS.aconstNull X1.here hx rfl (hb hby d_prog_25_method_3_code_6) ?_
    show Steps _ _ _ (T1.setTop (mkF m 7 #[.val (.ref b)] [.null, .null, .null, (.ref b1), (.ref b1)])) _
    refine XS.aconstNull X1.here hx rfl (hb hby d_prog_25_method_3_code_7) ?_
    show Steps _ _ _ (T1.setTop (mkF m 8 #[.val (.ref b)] [.null, .null, .null, .null, (.ref b1), (.ref b1)])) _
    refine XS.aconstNull X1.here hx rfl (hb hby d_prog_25_method_3_code_8) ?_
    show Steps _ _ _ (T1.setTop (mkF m 9 #[.val (.ref b)] [.null, .null, .null, .null, .null, (.ref b1), (.ref b1)])) _
    refine XS.aconstNull X1.here hx rfl (hb hby d_prog_25_method_3_code_9) ?_
    show Steps _ _ _ (T1.setTop (mkF m 10 #[.val (.ref b)] [.null, .null, .null, .null, .null, .null, (.ref b1), (.ref b1)])) _
    refine XS.aloadN X1.here hx rfl (hb hby d_prog_25_method_3_code_10) rfl rfl ?_
    show Steps _ _ _ (T1.setTop (mkF m 11 #[.val (.ref b)] [(.ref b), .null, .null, .null, .null, .null, .null, (.ref b1), (.ref b1)])) _
    exact hq)
  obtain ⟨_, T3, L3, X3, ⟨rfl, Nq3, Kq3, P3_0, P3_1, P3_2, P3_3, P3_4, P3_5, P3_6, P3_7⟩, k3a⟩ := callC' X1 hx hZ (y := (⟨"com/example/debtd/debtd/service/EnteredExpense", "<init>", "(Ljava/lang/String;Ljava/lang/String;Ljava/lang/Integer;Lcom/example/debtd/debtd/service/EnteredSplit;Ljava/lang/String;Ljava/lang/String;Ljava/lang/String;)V"⟩ : MethodName)) rfl hown (hw _ (List.mem_of_getElem? (i := 32) rfl)) (hw _ (List.mem_of_getElem? (i := 33) rfl)) (hw _ (List.mem_of_getElem? (i := 34) rfl)) (by decide) (backC (W := 1) (rm_ei l Z a0 hw b1 b h1 n0 (by omega) A1 F1_description F1_amount F1_paidBy F1_split F1_category F1_date F1_unreadable (by omega)) hZ (hw _ (List.mem_of_getElem? (i := 34) rfl)) (hw _ (List.mem_of_getElem? (i := 28) rfl)) (by decide) (by decide)) e1 (argsL := [.null, .null, .null, .null, .null, .null, (.ref b)]) (rest := [(.ref b1)]) rfl rfl pd_5 rfl (by rw [hml]; rfl) (hb hby d_prog_25_method_3_code_11) (Nat.le_of_eq rfl) (by decide) (by decide) k2
  have k3 : To p.tables e below S0 (T3.setTop (mkF m 14 #[.val (.ref b)] [(.ref b1)])) := k3a
  have N3 := N0.app Nq3
  obtain ⟨h3, e3⟩ : ∃ z, T3.heap = z := ⟨_, rfl⟩
  rw [e3] at Kq3 P3_0 P3_1 P3_2 P3_3 P3_4 P3_5 P3_6 P3_7
  have z3 : h1.size ≤ h3.size := Kq3.1
  have hE := e3
  refine retRef X3 hx hret hlk rfl rfl (hb hby d_prog_25_method_3_code_14) k3 ?_ (by decide) (by decide)
  try rw [hE]
  exact ⟨_, rfl, N3, (by omega), (((Keep.refl h0 []).ext E1).trans Kq3 (allS (Or.inr (by omega)) all0)), P3_0, P3_1, P3_2, P3_3, P3_4, P3_5, P3_6, P3_7⟩
theorem d_prog_25_method_5_code_0 : decode prog_25_method_5_code 0 = .ok (.aload_n 0, 1) := by decide +kernel
theorem d_prog_25_method_5_code_1 : decode prog_25_method_5_code 1 = .ok (.getfield 12, 3) := by decide +kernel
theorem d_prog_25_method_5_code_4 : decode prog_25_method_5_code 4 = .ok (.areturn, 1) := by decide +kernel
set_option maxRecDepth 65536 in
set_option maxHeartbeats 40000000 in
theorem rm_gdescription (l : Launch) (Z : State) (a0 : Array Value) (hw : ∀ d ∈ tables_1, d.before a0 Z = true) (a : Addr) (u : Value) (h0 : Heap) (n0 : Nat) (hn0 : n0 ≤ h0.size) (F0 : Fld Z h0 a "com/example/debtd/debtd/service/EnteredExpense" "description" "Ljava/lang/String;" u) (hu : u.isRef = true) :
    Con l Z (⟨"com/example/debtd/debtd/service/EnteredExpense", "description", "()Ljava/lang/String;"⟩ : MethodName) prog_25_method_5_code 1 (some (.object "java/lang/String")) [] ({ frames := 0, cells := 0, slots := 0, locals := 0 } : Room) #[(.ref a)] h0 (fun v h L => v = some u ∧ Fr n0 L ∧ h = h0) := by
  refine enter (Ls := #[.val (.ref a)]) (plainFor_of_name pn_3) (fun m => by exact entry_eq rfl) ?_
  intro p e s m below meth cd_ s₁ S0 hx hby hml hret hlk hnm hown hZ X0 e0 k0
  have N0 := Fr.nil n0
  have k1 : To p.tables e below S0 (s₁.setTop (mkF m 1 #[.val (.ref a)] [(.ref a)])) := fun tt hq => k0 tt (by
    show Steps _ _ _ (s₁.setTop (mkF m 0 #[.val (.ref a)] [])) _
    refine XS.aloadN X0.here hx rfl (hb hby d_prog_25_method_5_code_0) rfl rfl ?_
    show Steps _ _ _ (s₁.setTop (mkF m 1 #[.val (.ref a)] [(.ref a)])) _
    exact hq)
  obtain ⟨T2, X2, e2, st2⟩ := getF X0 hx hZ hown (host := "") (Or.inl (hw _ (List.mem_of_getElem? (i := 36) rfl))) Via.refl e0 F0 (g := (mkF m 1 #[.val (.ref a)] [(.ref a)])) rfl rfl (hb hby d_prog_25_method_5_code_1)
  have k2 : To p.tables e below S0 (T2.setTop (mkF m 4 #[.val (.ref a)] [u])) := fun tt hq => k1 tt (st2 tt hq)
  have hE := e2
  refine retRef X2 hx hret hlk rfl hu (hb hby d_prog_25_method_5_code_4) k2 ?_ (by decide) (by decide)
  try rw [hE]
  exact ⟨rfl, N0, rfl⟩
theorem d_prog_25_method_6_code_0 : decode prog_25_method_6_code 0 = .ok (.aload_n 0, 1) := by decide +kernel
theorem d_prog_25_method_6_code_1 : decode prog_25_method_6_code 1 = .ok (.getfield 16, 3) := by decide +kernel
theorem d_prog_25_method_6_code_4 : decode prog_25_method_6_code 4 = .ok (.areturn, 1) := by decide +kernel
set_option maxRecDepth 65536 in
set_option maxHeartbeats 40000000 in
theorem rm_gamount (l : Launch) (Z : State) (a0 : Array Value) (hw : ∀ d ∈ tables_1, d.before a0 Z = true) (a : Addr) (u : Value) (h0 : Heap) (n0 : Nat) (hn0 : n0 ≤ h0.size) (F0 : Fld Z h0 a "com/example/debtd/debtd/service/EnteredExpense" "amount" "Ljava/lang/String;" u) (hu : u.isRef = true) :
    Con l Z (⟨"com/example/debtd/debtd/service/EnteredExpense", "amount", "()Ljava/lang/String;"⟩ : MethodName) prog_25_method_6_code 1 (some (.object "java/lang/String")) [] ({ frames := 0, cells := 0, slots := 0, locals := 0 } : Room) #[(.ref a)] h0 (fun v h L => v = some u ∧ Fr n0 L ∧ h = h0) := by
  refine enter (Ls := #[.val (.ref a)]) (plainFor_of_name pn_3) (fun m => by exact entry_eq rfl) ?_
  intro p e s m below meth cd_ s₁ S0 hx hby hml hret hlk hnm hown hZ X0 e0 k0
  have N0 := Fr.nil n0
  have k1 : To p.tables e below S0 (s₁.setTop (mkF m 1 #[.val (.ref a)] [(.ref a)])) := fun tt hq => k0 tt (by
    show Steps _ _ _ (s₁.setTop (mkF m 0 #[.val (.ref a)] [])) _
    refine XS.aloadN X0.here hx rfl (hb hby d_prog_25_method_6_code_0) rfl rfl ?_
    show Steps _ _ _ (s₁.setTop (mkF m 1 #[.val (.ref a)] [(.ref a)])) _
    exact hq)
  obtain ⟨T2, X2, e2, st2⟩ := getF X0 hx hZ hown (host := "") (Or.inl (hw _ (List.mem_of_getElem? (i := 38) rfl))) Via.refl e0 F0 (g := (mkF m 1 #[.val (.ref a)] [(.ref a)])) rfl rfl (hb hby d_prog_25_method_6_code_1)
  have k2 : To p.tables e below S0 (T2.setTop (mkF m 4 #[.val (.ref a)] [u])) := fun tt hq => k1 tt (st2 tt hq)
  have hE := e2
  refine retRef X2 hx hret hlk rfl hu (hb hby d_prog_25_method_6_code_4) k2 ?_ (by decide) (by decide)
  try rw [hE]
  exact ⟨rfl, N0, rfl⟩
theorem d_prog_25_method_7_code_0 : decode prog_25_method_7_code 0 = .ok (.aload_n 0, 1) := by decide +kernel
theorem d_prog_25_method_7_code_1 : decode prog_25_method_7_code 1 = .ok (.getfield 19, 3) := by decide +kernel
theorem d_prog_25_method_7_code_4 : decode prog_25_method_7_code 4 = .ok (.areturn, 1) := by decide +kernel
set_option maxRecDepth 65536 in
set_option maxHeartbeats 40000000 in
theorem rm_gpaidBy (l : Launch) (Z : State) (a0 : Array Value) (hw : ∀ d ∈ tables_1, d.before a0 Z = true) (a : Addr) (u : Value) (h0 : Heap) (n0 : Nat) (hn0 : n0 ≤ h0.size) (F0 : Fld Z h0 a "com/example/debtd/debtd/service/EnteredExpense" "paidBy" "Ljava/lang/Integer;" u) (hu : u.isRef = true) :
    Con l Z (⟨"com/example/debtd/debtd/service/EnteredExpense", "paidBy", "()Ljava/lang/Integer;"⟩ : MethodName) prog_25_method_7_code 1 (some (.object "java/lang/Integer")) [] ({ frames := 0, cells := 0, slots := 0, locals := 0 } : Room) #[(.ref a)] h0 (fun v h L => v = some u ∧ Fr n0 L ∧ h = h0) := by
  refine enter (Ls := #[.val (.ref a)]) (plainFor_of_name pn_3) (fun m => by exact entry_eq rfl) ?_
  intro p e s m below meth cd_ s₁ S0 hx hby hml hret hlk hnm hown hZ X0 e0 k0
  have N0 := Fr.nil n0
  have k1 : To p.tables e below S0 (s₁.setTop (mkF m 1 #[.val (.ref a)] [(.ref a)])) := fun tt hq => k0 tt (by
    show Steps _ _ _ (s₁.setTop (mkF m 0 #[.val (.ref a)] [])) _
    refine XS.aloadN X0.here hx rfl (hb hby d_prog_25_method_7_code_0) rfl rfl ?_
    show Steps _ _ _ (s₁.setTop (mkF m 1 #[.val (.ref a)] [(.ref a)])) _
    exact hq)
  obtain ⟨T2, X2, e2, st2⟩ := getF X0 hx hZ hown (host := "") (Or.inl (hw _ (List.mem_of_getElem? (i := 40) rfl))) Via.refl e0 F0 (g := (mkF m 1 #[.val (.ref a)] [(.ref a)])) rfl rfl (hb hby d_prog_25_method_7_code_1)
  have k2 : To p.tables e below S0 (T2.setTop (mkF m 4 #[.val (.ref a)] [u])) := fun tt hq => k1 tt (st2 tt hq)
  have hE := e2
  refine retRef X2 hx hret hlk rfl hu (hb hby d_prog_25_method_7_code_4) k2 ?_ (by decide) (by decide)
  try rw [hE]
  exact ⟨rfl, N0, rfl⟩
theorem d_prog_25_method_8_code_0 : decode prog_25_method_8_code 0 = .ok (.aload_n 0, 1) := by decide +kernel
theorem d_prog_25_method_8_code_1 : decode prog_25_method_8_code 1 = .ok (.getfield 23, 3) := by decide +kernel
theorem d_prog_25_method_8_code_4 : decode prog_25_method_8_code 4 = .ok (.areturn, 1) := by decide +kernel
set_option maxRecDepth 65536 in
set_option maxHeartbeats 40000000 in
theorem rm_gsplit (l : Launch) (Z : State) (a0 : Array Value) (hw : ∀ d ∈ tables_1, d.before a0 Z = true) (a : Addr) (u : Value) (h0 : Heap) (n0 : Nat) (hn0 : n0 ≤ h0.size) (F0 : Fld Z h0 a "com/example/debtd/debtd/service/EnteredExpense" "split" "Lcom/example/debtd/debtd/service/EnteredSplit;" u) (hu : u.isRef = true) :
    Con l Z (⟨"com/example/debtd/debtd/service/EnteredExpense", "split", "()Lcom/example/debtd/debtd/service/EnteredSplit;"⟩ : MethodName) prog_25_method_8_code 1 (some (.object "com/example/debtd/debtd/service/EnteredSplit")) [] ({ frames := 0, cells := 0, slots := 0, locals := 0 } : Room) #[(.ref a)] h0 (fun v h L => v = some u ∧ Fr n0 L ∧ h = h0) := by
  refine enter (Ls := #[.val (.ref a)]) (plainFor_of_name pn_3) (fun m => by exact entry_eq rfl) ?_
  intro p e s m below meth cd_ s₁ S0 hx hby hml hret hlk hnm hown hZ X0 e0 k0
  have N0 := Fr.nil n0
  have k1 : To p.tables e below S0 (s₁.setTop (mkF m 1 #[.val (.ref a)] [(.ref a)])) := fun tt hq => k0 tt (by
    show Steps _ _ _ (s₁.setTop (mkF m 0 #[.val (.ref a)] [])) _
    refine XS.aloadN X0.here hx rfl (hb hby d_prog_25_method_8_code_0) rfl rfl ?_
    show Steps _ _ _ (s₁.setTop (mkF m 1 #[.val (.ref a)] [(.ref a)])) _
    exact hq)
  obtain ⟨T2, X2, e2, st2⟩ := getF X0 hx hZ hown (host := "") (Or.inl (hw _ (List.mem_of_getElem? (i := 42) rfl))) Via.refl e0 F0 (g := (mkF m 1 #[.val (.ref a)] [(.ref a)])) rfl rfl (hb hby d_prog_25_method_8_code_1)
  have k2 : To p.tables e below S0 (T2.setTop (mkF m 4 #[.val (.ref a)] [u])) := fun tt hq => k1 tt (st2 tt hq)
  have hE := e2
  refine retRef X2 hx hret hlk rfl hu (hb hby d_prog_25_method_8_code_4) k2 ?_ (by decide) (by decide)
  try rw [hE]
  exact ⟨rfl, N0, rfl⟩
theorem d_prog_25_method_9_code_0 : decode prog_25_method_9_code 0 = .ok (.aload_n 0, 1) := by decide +kernel
theorem d_prog_25_method_9_code_1 : decode prog_25_method_9_code 1 = .ok (.getfield 27, 3) := by decide +kernel
theorem d_prog_25_method_9_code_4 : decode prog_25_method_9_code 4 = .ok (.areturn, 1) := by decide +kernel
set_option maxRecDepth 65536 in
set_option maxHeartbeats 40000000 in
theorem rm_gcategory (l : Launch) (Z : State) (a0 : Array Value) (hw : ∀ d ∈ tables_1, d.before a0 Z = true) (a : Addr) (u : Value) (h0 : Heap) (n0 : Nat) (hn0 : n0 ≤ h0.size) (F0 : Fld Z h0 a "com/example/debtd/debtd/service/EnteredExpense" "category" "Ljava/lang/String;" u) (hu : u.isRef = true) :
    Con l Z (⟨"com/example/debtd/debtd/service/EnteredExpense", "category", "()Ljava/lang/String;"⟩ : MethodName) prog_25_method_9_code 1 (some (.object "java/lang/String")) [] ({ frames := 0, cells := 0, slots := 0, locals := 0 } : Room) #[(.ref a)] h0 (fun v h L => v = some u ∧ Fr n0 L ∧ h = h0) := by
  refine enter (Ls := #[.val (.ref a)]) (plainFor_of_name pn_3) (fun m => by exact entry_eq rfl) ?_
  intro p e s m below meth cd_ s₁ S0 hx hby hml hret hlk hnm hown hZ X0 e0 k0
  have N0 := Fr.nil n0
  have k1 : To p.tables e below S0 (s₁.setTop (mkF m 1 #[.val (.ref a)] [(.ref a)])) := fun tt hq => k0 tt (by
    show Steps _ _ _ (s₁.setTop (mkF m 0 #[.val (.ref a)] [])) _
    refine XS.aloadN X0.here hx rfl (hb hby d_prog_25_method_9_code_0) rfl rfl ?_
    show Steps _ _ _ (s₁.setTop (mkF m 1 #[.val (.ref a)] [(.ref a)])) _
    exact hq)
  obtain ⟨T2, X2, e2, st2⟩ := getF X0 hx hZ hown (host := "") (Or.inl (hw _ (List.mem_of_getElem? (i := 44) rfl))) Via.refl e0 F0 (g := (mkF m 1 #[.val (.ref a)] [(.ref a)])) rfl rfl (hb hby d_prog_25_method_9_code_1)
  have k2 : To p.tables e below S0 (T2.setTop (mkF m 4 #[.val (.ref a)] [u])) := fun tt hq => k1 tt (st2 tt hq)
  have hE := e2
  refine retRef X2 hx hret hlk rfl hu (hb hby d_prog_25_method_9_code_4) k2 ?_ (by decide) (by decide)
  try rw [hE]
  exact ⟨rfl, N0, rfl⟩
theorem d_prog_25_method_10_code_0 : decode prog_25_method_10_code 0 = .ok (.aload_n 0, 1) := by decide +kernel
theorem d_prog_25_method_10_code_1 : decode prog_25_method_10_code 1 = .ok (.getfield 30, 3) := by decide +kernel
theorem d_prog_25_method_10_code_4 : decode prog_25_method_10_code 4 = .ok (.areturn, 1) := by decide +kernel
set_option maxRecDepth 65536 in
set_option maxHeartbeats 40000000 in
theorem rm_gdate (l : Launch) (Z : State) (a0 : Array Value) (hw : ∀ d ∈ tables_1, d.before a0 Z = true) (a : Addr) (u : Value) (h0 : Heap) (n0 : Nat) (hn0 : n0 ≤ h0.size) (F0 : Fld Z h0 a "com/example/debtd/debtd/service/EnteredExpense" "date" "Ljava/lang/String;" u) (hu : u.isRef = true) :
    Con l Z (⟨"com/example/debtd/debtd/service/EnteredExpense", "date", "()Ljava/lang/String;"⟩ : MethodName) prog_25_method_10_code 1 (some (.object "java/lang/String")) [] ({ frames := 0, cells := 0, slots := 0, locals := 0 } : Room) #[(.ref a)] h0 (fun v h L => v = some u ∧ Fr n0 L ∧ h = h0) := by
  refine enter (Ls := #[.val (.ref a)]) (plainFor_of_name pn_3) (fun m => by exact entry_eq rfl) ?_
  intro p e s m below meth cd_ s₁ S0 hx hby hml hret hlk hnm hown hZ X0 e0 k0
  have N0 := Fr.nil n0
  have k1 : To p.tables e below S0 (s₁.setTop (mkF m 1 #[.val (.ref a)] [(.ref a)])) := fun tt hq => k0 tt (by
    show Steps _ _ _ (s₁.setTop (mkF m 0 #[.val (.ref a)] [])) _
    refine XS.aloadN X0.here hx rfl (hb hby d_prog_25_method_10_code_0) rfl rfl ?_
    show Steps _ _ _ (s₁.setTop (mkF m 1 #[.val (.ref a)] [(.ref a)])) _
    exact hq)
  obtain ⟨T2, X2, e2, st2⟩ := getF X0 hx hZ hown (host := "") (Or.inl (hw _ (List.mem_of_getElem? (i := 46) rfl))) Via.refl e0 F0 (g := (mkF m 1 #[.val (.ref a)] [(.ref a)])) rfl rfl (hb hby d_prog_25_method_10_code_1)
  have k2 : To p.tables e below S0 (T2.setTop (mkF m 4 #[.val (.ref a)] [u])) := fun tt hq => k1 tt (st2 tt hq)
  have hE := e2
  refine retRef X2 hx hret hlk rfl hu (hb hby d_prog_25_method_10_code_4) k2 ?_ (by decide) (by decide)
  try rw [hE]
  exact ⟨rfl, N0, rfl⟩
theorem d_prog_25_method_4_code_0 : decode prog_25_method_4_code 0 = .ok (.aload_n 0, 1) := by decide +kernel
theorem d_prog_25_method_4_code_1 : decode prog_25_method_4_code 1 = .ok (.getfield 33, 3) := by decide +kernel
theorem d_prog_25_method_4_code_4 : decode prog_25_method_4_code 4 = .ok (.areturn, 1) := by decide +kernel
set_option maxRecDepth 65536 in
set_option maxHeartbeats 40000000 in
theorem rm_gunreadable (l : Launch) (Z : State) (a0 : Array Value) (hw : ∀ d ∈ tables_1, d.before a0 Z = true) (a : Addr) (u : Value) (h0 : Heap) (n0 : Nat) (hn0 : n0 ≤ h0.size) (F0 : Fld Z h0 a "com/example/debtd/debtd/service/EnteredExpense" "unreadable" "Ljava/lang/String;" u) (hu : u.isRef = true) :
    Con l Z (⟨"com/example/debtd/debtd/service/EnteredExpense", "unreadable", "()Ljava/lang/String;"⟩ : MethodName) prog_25_method_4_code 1 (some (.object "java/lang/String")) [] ({ frames := 0, cells := 0, slots := 0, locals := 0 } : Room) #[(.ref a)] h0 (fun v h L => v = some u ∧ Fr n0 L ∧ h = h0) := by
  refine enter (Ls := #[.val (.ref a)]) (plainFor_of_name pn_3) (fun m => by exact entry_eq rfl) ?_
  intro p e s m below meth cd_ s₁ S0 hx hby hml hret hlk hnm hown hZ X0 e0 k0
  have N0 := Fr.nil n0
  have k1 : To p.tables e below S0 (s₁.setTop (mkF m 1 #[.val (.ref a)] [(.ref a)])) := fun tt hq => k0 tt (by
    show Steps _ _ _ (s₁.setTop (mkF m 0 #[.val (.ref a)] [])) _
    refine XS.aloadN X0.here hx rfl (hb hby d_prog_25_method_4_code_0) rfl rfl ?_
    show Steps _ _ _ (s₁.setTop (mkF m 1 #[.val (.ref a)] [(.ref a)])) _
    exact hq)
  obtain ⟨T2, X2, e2, st2⟩ := getF X0 hx hZ hown (host := "") (Or.inl (hw _ (List.mem_of_getElem? (i := 48) rfl))) Via.refl e0 F0 (g := (mkF m 1 #[.val (.ref a)] [(.ref a)])) rfl rfl (hb hby d_prog_25_method_4_code_1)
  have k2 : To p.tables e below S0 (T2.setTop (mkF m 4 #[.val (.ref a)] [u])) := fun tt hq => k1 tt (st2 tt hq)
  have hE := e2
  refine retRef X2 hx hret hlk rfl hu (hb hby d_prog_25_method_4_code_4) k2 ?_ (by decide) (by decide)
  try rw [hE]
  exact ⟨rfl, N0, rfl⟩
theorem d_jdk_42_method_66_code_0 : decode jdk_42_method_66_code 0 = .ok (.aload_n 0, 1) := by decide +kernel
theorem d_jdk_42_method_66_code_1 : decode jdk_42_method_66_code 1 = .ok (.aload_n 1, 1) := by decide +kernel
theorem d_jdk_42_method_66_code_2 : decode jdk_42_method_66_code 2 = .ok (.if_acmp .ne 5, 3) := by decide +kernel
theorem d_jdk_42_method_66_code_5 : decode jdk_42_method_66_code 5 = .ok (.iconst 1, 1) := by decide +kernel
theorem d_jdk_42_method_66_code_6 : decode jdk_42_method_66_code 6 = .ok (.ireturn, 1) := by decide +kernel
theorem d_jdk_42_method_66_code_7 : decode jdk_42_method_66_code 7 = .ok (.aload_n 1, 1) := by decide +kernel
theorem d_jdk_42_method_66_code_8 : decode jdk_42_method_66_code 8 = .ok (.instanceof 10, 3) := by decide +kernel
theorem d_jdk_42_method_66_code_11 : decode jdk_42_method_66_code 11 = .ok (.ifCond .eq 43, 3) := by decide +kernel
theorem d_jdk_42_method_66_code_14 : decode jdk_42_method_66_code 14 = .ok (.aload_n 1, 1) := by decide +kernel
theorem d_jdk_42_method_66_code_15 : decode jdk_42_method_66_code 15 = .ok (.checkcast 10, 3) := by decide +kernel
theorem d_jdk_42_method_66_code_18 : decode jdk_42_method_66_code 18 = .ok (.astore_n 2, 1) := by decide +kernel
theorem d_jdk_42_method_66_code_19 : decode jdk_42_method_66_code 19 = .ok (.getstatic 38, 3) := by decide +kernel
theorem d_jdk_42_method_66_code_22 : decode jdk_42_method_66_code 22 = .ok (.ifCond .eq 14, 3) := by decide +kernel
theorem d_jdk_42_method_66_code_25 : decode jdk_42_method_66_code 25 = .ok (.aload_n 0, 1) := by decide +kernel
theorem d_jdk_42_method_66_code_26 : decode jdk_42_method_66_code 26 = .ok (.getfield 15, 3) := by decide +kernel
theorem d_jdk_42_method_66_code_29 : decode jdk_42_method_66_code 29 = .ok (.aload_n 2, 1) := by decide +kernel
theorem d_jdk_42_method_66_code_30 : decode jdk_42_method_66_code 30 = .ok (.getfield 15, 3) := by decide +kernel
theorem d_jdk_42_method_66_code_33 : decode jdk_42_method_66_code 33 = .ok (.if_icmp .ne 21, 3) := by decide +kernel
theorem d_jdk_42_method_66_code_36 : decode jdk_42_method_66_code 36 = .ok (.aload_n 0, 1) := by decide +kernel
theorem d_jdk_42_method_66_code_37 : decode jdk_42_method_66_code 37 = .ok (.getfield 9, 3) := by decide +kernel
theorem d_jdk_42_method_66_code_40 : decode jdk_42_method_66_code 40 = .ok (.aload_n 2, 1) := by decide +kernel
theorem d_jdk_42_method_66_code_41 : decode jdk_42_method_66_code 41 = .ok (.getfield 9, 3) := by decide +kernel
theorem d_jdk_42_method_66_code_44 : decode jdk_42_method_66_code 44 = .ok (.invokestatic 541, 3) := by decide +kernel
theorem d_jdk_42_method_66_code_47 : decode jdk_42_method_66_code 47 = .ok (.ifCond .eq 7, 3) := by decide +kernel
theorem d_jdk_42_method_66_code_50 : decode jdk_42_method_66_code 50 = .ok (.iconst 1, 1) := by decide +kernel
theorem d_jdk_42_method_66_code_51 : decode jdk_42_method_66_code 51 = .ok (.goto 4, 3) := by decide +kernel
theorem d_jdk_42_method_66_code_54 : decode jdk_42_method_66_code 54 = .ok (.iconst 0, 1) := by decide +kernel
theorem d_jdk_42_method_66_code_55 : decode jdk_42_method_66_code 55 = .ok (.ireturn, 1) := by decide +kernel
set_option maxRecDepth 65536 in
set_option maxHeartbeats 40000000 in
theorem rm_eq (l : Launch) (Z : State) (a0 : Array Value) (hw : ∀ d ∈ tables_1, d.before a0 Z = true) (a : Addr) (h0 : Heap) (n0 : Nat) (hn0 : n0 ≤ h0.size)  :
    Con l Z (⟨"java/lang/String", "equals", "(Ljava/lang/Object;)Z"⟩ : MethodName) jdk_42_method_66_code 3 (some .boolean) [] ({ frames := 0, cells := 0, slots := 0, locals := 0 } : Room) #[(.ref a), (.ref a)] h0 (fun v h L => v = some (.int (1 : Int32)) ∧ Fr n0 L ∧ h = h0) := by
  refine enter (Ls := #[.val (.ref a), .val (.ref a), .unset]) (plainFor_of_name pn_1) (fun m => by exact entry_eq rfl) ?_
  intro p e s m below meth cd_ s₁ S0 hx hby hml hret hlk hnm hown hZ X0 e0 k0
  have N0 := Fr.nil n0
  have k1 : To p.tables e below S0 (s₁.setTop (mkF m 6 #[.val (.ref a), .val (.ref a), .unset] [(.int (1 : Int32))])) := fun tt hq => k0 tt (by
    show Steps _ _ _ (s₁.setTop (mkF m 0 #[.val (.ref a), .val (.ref a), .unset] [])) _
    refine XS.aloadN X0.here hx rfl (hb hby d_jdk_42_method_66_code_0) rfl rfl ?_
    show Steps _ _ _ (s₁.setTop (mkF m 1 #[.val (.ref a), .val (.ref a), .unset] [(.ref a)])) _
    refine XS.aloadN X0.here hx rfl (hb hby d_jdk_42_method_66_code_1) rfl rfl ?_
    show Steps _ _ _ (s₁.setTop (mkF m 2 #[.val (.ref a), .val (.ref a), .unset] [(.ref a), (.ref a)])) _
    refine Jvm.RoadKit.acmp (g := (mkF m 2 #[.val (.ref a), .val (.ref a), .unset] [(.ref a), (.ref a)])) X0 hx rfl rfl rfl (pc0 := 2) (pc' := 5) (same := true) rfl (hb hby d_jdk_42_method_66_code_2) rfl (decide_eq_true rfl) (by decide) (by decide) ?_
    show Steps _ _ _ (s₁.setTop (mkF m 5 #[.val (.ref a), .val (.ref a), .unset] [])) _
    refine XS.iconst X0.here hx rfl (hb hby d_jdk_42_method_66_code_5) ?_
    show Steps _ _ _ (s₁.setTop (mkF m 6 #[.val (.ref a), .val (.ref a), .unset] [(.int (1 : Int32))])) _
    exact hq)
  have hE := e0
  refine retInt X0 hx hret hlk (by simp) rfl (hb hby d_jdk_42_method_66_code_6) k1 ?_ (by decide) (by decide)
  try rw [hE]
  exact ⟨rfl, N0, rfl⟩
theorem pd_6 : parseMethodDescriptor "(IIII)Ljava/lang/String;" = some ⟨[.int, .int, .int, .int], some (.object "java/lang/String")⟩ := by decide +kernel
theorem pd_7 : parseMethodDescriptor "(Ljava/lang/String;)Lcom/example/debtd/debtd/service/EnteredExpense;" = some ⟨[(.object "java/lang/String")], some (.object "com/example/debtd/debtd/service/EnteredExpense")⟩ := by decide +kernel
theorem pd_8 : parseMethodDescriptor "()Ljava/lang/String;" = some ⟨[], some (.object "java/lang/String")⟩ := by decide +kernel
theorem pd_9 : parseMethodDescriptor "(Ljava/lang/Object;)Z" = some ⟨[(.object "java/lang/Object")], some .boolean⟩ := by decide +kernel
theorem pd_10 : parseMethodDescriptor "()Ljava/lang/Integer;" = some ⟨[], some (.object "java/lang/Integer")⟩ := by decide +kernel
theorem pd_11 : parseMethodDescriptor "()Lcom/example/debtd/debtd/service/EnteredSplit;" = some ⟨[], some (.object "com/example/debtd/debtd/service/EnteredSplit")⟩ := by decide +kernel
set_option maxRecDepth 65536 in
set_option maxHeartbeats 40000000 in
theorem rm0 (l : Launch) (Z : State) (a0 : Array Value) (hw : ∀ d ∈ tables_1, d.before a0 Z = true) (zc : Int32) (p0 : Int32) (p1 : Int32) (p2 : Int32) (p3 : Int32) (p4 : Int32) (p5 : Int32) (h0 : Heap) (n0 : Nat) (hn0 : n0 ≤ h0.size) (S_c : Sta Z Z.heap "java/lang/String" "COMPACT_STRINGS" "Z" (.int zc)) (hzc : ¬ zc = (0 : Int32)) (O0 : Old Z n0 h0) :
    ConW l Z own_EL x code maxLocals ret tables_1 room_1 #[(.int p0), (.int p1), (.int p2), (.int p3), (.int p4), (.int p5)] h0 [] (fun v h L => v = some (.int 1) ∧ Fr n0 L) := by
  refine enterW (Ls := #[.val (.int p0), .val (.int p1), .val (.int p2), .val (.int p3), .val (.int p4), .val (.int p5), .unset, .unset, .unset, .unset, .unset, .unset, .unset]) (plainFor_of_name pn_2) (fun m => by exact entry_eq rfl) ?_
  intro p e s m below meth cd_ s₁ S0 vm0 hx hby hml hret hlk hnm hown hZ X0 e0 k0 C0 hsf hS0
  have N0 := Fr.nil n0
  let l1 : Array Slot := #[.val (.int p0), .val (.int p1), .val (.int p2), .val (.int p3), .val (.int p4), .val (.int p5), .unset, .unset, .unset, .unset, .unset, .unset, .unset]
  have k2 : To p.tables e below S0 (s₁.setTop (mkF m 4 l1 [(.int p3), (.int p2), (.int p1), (.int p0)])) := fun tt hq => k0 tt (by
    show Steps _ _ _ (s₁.setTop (mkF m 0 l1 [])) _
    refine XS.iloadN X0.here hx rfl (hb hby at_0) rfl ?_
    show Steps _ _ _ (s₁.setTop (mkF m 1 l1 [(.int p0)])) _
    refine XS.iloadN X0.here hx rfl (hb hby at_1) rfl ?_
    show Steps _ _ _ (s₁.setTop (mkF m 2 l1 [(.int p1), (.int p0)])) _
    refine XS.iloadN X0.here hx rfl (hb hby at_2) rfl ?_
    show Steps _ _ _ (s₁.setTop (mkF m 3 l1 [(.int p2), (.int p1), (.int p0)])) _
    refine XS.iloadN X0.here hx rfl (hb hby at_3) rfl ?_
    show Steps _ _ _ (s₁.setTop (mkF m 4 l1 [(.int p3), (.int p2), (.int p1), (.int p0)])) _
    exact hq)
  obtain ⟨_, T3, L3, X3, ⟨a3, rfl, Nq3, ga3, Kq3, A3⟩, k3a, Cq3, hS3, hZ3, hown3⟩ := callSW X0 hx hZ (y := (⟨"com/example/debtd/debtd/service/EnteredExpenseUnreadablePinLaw", "draw", "(IIII)Ljava/lang/String;"⟩ : MethodName)) hown hS0 (by omega) (hw _ (List.mem_of_getElem? (i := 0) rfl)) (hw _ (List.mem_of_getElem? (i := 1) rfl)) (hw _ (List.mem_of_getElem? (i := 2) rfl)) (hw _ (List.mem_of_getElem? (i := 3) rfl)) (by decide) (backOfW (W := 0) (rm_draw l Z a0 hw zc p0 p1 p2 p3 h0 n0 (by omega) S_c hzc O0) hZ (hw _ (List.mem_of_getElem? (i := 3) rfl)) (hw _ (List.mem_of_getElem? (i := 2) rfl)) (by decide) (by decide) (own_EW hw) C0.1 all0) e0 (argsL := [(.int p0), (.int p1), (.int p2), (.int p3)]) (rest := []) rfl rfl pd_6 rfl (by rw [hml]; rfl) (hb hby at_4) (Nat.le_of_eq rfl) (by decide) (by decide) k2
  have k3 : To p.tables e below S0 (T3.setTop (mkF m 7 l1 [(.ref a3)])) := k3a
  have N3 := N0.app Nq3
  obtain ⟨h3, e3⟩ : ∃ z, T3.heap = z := ⟨_, rfl⟩
  rw [e3] at Kq3 A3 Cq3 hS3
  have z3 : h0.size ≤ h3.size := Kq3.1
  have C3 := C0.trans Cq3
  have y3 : @LT.lt Nat instLTNat a3 h3.size := A3.lt
  let l4 : Array Slot := #[.val (.int p0), .val (.int p1), .val (.int p2), .val (.int p3), .val (.int p4), .val (.int p5), .val (.ref a3), .unset, .unset, .unset, .unset, .unset, .unset]
  have k5 : To p.tables e below S0 (T3.setTop (mkF m 15 l4 [(.int p2), (.int p3), (.int p5), (.int p4)])) := fun tt hq => k3 tt (by
    show Steps _ _ _ (T3.setTop (mkF m 7 l1 [(.ref a3)])) _
    refine XS.astore X3.here hx rfl (hb hby at_7) rfl rfl (l' := l4) rfl ?_
    show Steps _ _ _ (T3.setTop (mkF m 9 l4 [])) _
    refine XS.iload X3.here hx rfl (hb hby at_9) rfl ?_
    show Steps _ _ _ (T3.setTop (mkF m 11 l4 [(.int p4)])) _
    refine XS.iload X3.here hx rfl (hb hby at_11) rfl ?_
    show Steps _ _ _ (T3.setTop (mkF m 13 l4 [(.int p5), (.int p4)])) _
    refine XS.iloadN X3.here hx rfl (hb hby at_13) rfl ?_
    show Steps _ _ _ (T3.setTop (mkF m 14 l4 [(.int p3), (.int p5), (.int p4)])) _
    refine XS.iloadN X3.here hx rfl (hb hby at_14) rfl ?_
    show Steps _ _ _ (T3.setTop (mkF m 15 l4 [(.int p2), (.int p3), (.int p5), (.int p4)])) _
    exact hq)
  have f6 : Old Z n0 h3 := (O0.keep Kq3 all0)
  obtain ⟨_, T7, L7, X7, ⟨a7, rfl, Nq7, ga7, Kq7, A7⟩, k7a, Cq7, hS7, hZ7, hown7⟩ := callSW X3 hx hZ3 (y := (⟨"com/example/debtd/debtd/service/EnteredExpenseUnreadablePinLaw", "draw", "(IIII)Ljava/lang/String;"⟩ : MethodName)) hown3 hS3 (by omega) (hw _ (List.mem_of_getElem? (i := 0) rfl)) (hw _ (List.mem_of_getElem? (i := 1) rfl)) (hw _ (List.mem_of_getElem? (i := 2) rfl)) (hw _ (List.mem_of_getElem? (i := 3) rfl)) (by decide) (backOfW (W := 0) (rm_draw l Z a0 hw zc p4 p5 p3 p2 h3 n0 (by omega) S_c hzc f6) hZ3 (hw _ (List.mem_of_getElem? (i := 3) rfl)) (hw _ (List.mem_of_getElem? (i := 2) rfl)) (by decide) (by decide) (own_EW hw) C3.1 all0) e3 (argsL := [(.int p4), (.int p5), (.int p3), (.int p2)]) (rest := []) rfl rfl pd_6 rfl (by rw [hml]; rfl) (hb hby at_15) (Nat.le_of_eq rfl) (by decide) (by decide) k5
  have k7 : To p.tables e below S0 (T7.setTop (mkF m 18 l4 [(.ref a7)])) := k7a
  have N7 := N3.app Nq7
  obtain ⟨h7, e7⟩ : ∃ z, T7.heap = z := ⟨_, rfl⟩
  rw [e7] at Kq7 A7 Cq7 hS7
  have z7 : h3.size ≤ h7.size := Kq7.1
  have C7 := C3.trans Cq7
  have y7 : @LT.lt Nat instLTNat a7 h7.size := A7.lt
  let l8 : Array Slot := #[.val (.int p0), .val (.int p1), .val (.int p2), .val (.int p3), .val (.int p4), .val (.int p5), .val (.ref a3), .val (.ref a7), .unset, .unset, .unset, .unset, .unset]
  have k9 : To p.tables e below S0 (T7.setTop (mkF m 22 l8 [(.ref a3)])) := fun tt hq => k7 tt (by
    show Steps _ _ _ (T7.setTop (mkF m 18 l4 [(.ref a7)])) _
    refine XS.astore X7.here hx rfl (hb hby at_18) rfl rfl (l' := l8) rfl ?_
    show Steps _ _ _ (T7.setTop (mkF m 20 l8 [])) _
    refine XS.aload X7.here hx rfl (hb hby at_20) rfl rfl ?_
    show Steps _ _ _ (T7.setTop (mkF m 22 l8 [(.ref a3)])) _
    exact hq)
  obtain ⟨_, T10, L10, X10, ⟨a10, rfl, Nq10, ga10, Kq10, P10_0, P10_1, P10_2, P10_3, P10_4, P10_5, P10_6, P10_7⟩, k10a⟩ := callS' X7 hx hZ7 (y := (⟨"com/example/debtd/debtd/service/EnteredExpense", "unreadable", "(Ljava/lang/String;)Lcom/example/debtd/debtd/service/EnteredExpense;"⟩ : MethodName)) hown7 (hw _ (List.mem_of_getElem? (i := 26) rfl)) (hw _ (List.mem_of_getElem? (i := 27) rfl)) (hw _ (List.mem_of_getElem? (i := 28) rfl)) (hw _ (List.mem_of_getElem? (i := 29) rfl)) (by decide) (backC (W := 0) (rm_eu l Z a0 hw a3 h7 n0 (by omega)) hZ7 (hw _ (List.mem_of_getElem? (i := 29) rfl)) (hw _ (List.mem_of_getElem? (i := 28) rfl)) (by decide) (by decide)) e7 (argsL := [(.ref a3)]) (rest := []) rfl rfl pd_7 rfl (by rw [hml]; rfl) (hb hby at_22) (Nat.le_of_eq rfl) (by decide) (by decide) k9
  have k10 : To p.tables e below S0 (T10.setTop (mkF m 25 l8 [(.ref a10)])) := k10a
  have N10 := N7.app Nq10
  obtain ⟨h10, e10⟩ : ∃ z, T10.heap = z := ⟨_, rfl⟩
  rw [e10] at Kq10 P10_0 P10_1 P10_2 P10_3 P10_4 P10_5 P10_6 P10_7
  have z10 : h7.size ≤ h10.size := Kq10.1
  have C10 := C7.trans (CHr.keep Kq10 sf0 C7.1)
  have y10 : @LT.lt Nat instLTNat a10 h10.size := P10_0.lt
  let l11 : Array Slot := #[.val (.int p0), .val (.int p1), .val (.int p2), .val (.int p3), .val (.int p4), .val (.int p5), .val (.ref a3), .val (.ref a7), .val (.ref a10), .unset, .unset, .unset, .unset]
  have k12 : To p.tables e below S0 (T10.setTop (mkF m 29 l11 [(.ref a7)])) := fun tt hq => k10 tt (by
    show Steps _ _ _ (T10.setTop (mkF m 25 l8 [(.ref a10)])) _
    refine XS.astore X10.here hx rfl (hb hby at_25) rfl rfl (l' := l11) rfl ?_
    show Steps _ _ _ (T10.setTop (mkF m 27 l11 [])) _
    refine XS.aload X10.here hx rfl (hb hby at_27) rfl rfl ?_
    show Steps _ _ _ (T10.setTop (mkF m 29 l11 [(.ref a7)])) _
    exact hq)
  obtain ⟨_, T13, L13, X13, ⟨a13, rfl, Nq13, ga13, Kq13, P13_0, P13_1, P13_2, P13_3, P13_4, P13_5, P13_6, P13_7⟩, k13a⟩ := callS' X10 hx hZ7 (y := (⟨"com/example/debtd/debtd/service/EnteredExpense", "unreadable", "(Ljava/lang/String;)Lcom/example/debtd/debtd/service/EnteredExpense;"⟩ : MethodName)) hown7 (hw _ (List.mem_of_getElem? (i := 26) rfl)) (hw _ (List.mem_of_getElem? (i := 27) rfl)) (hw _ (List.mem_of_getElem? (i := 28) rfl)) (hw _ (List.mem_of_getElem? (i := 29) rfl)) (by decide) (backC (W := 0) (rm_eu l Z a0 hw a7 h10 n0 (by omega)) hZ7 (hw _ (List.mem_of_getElem? (i := 29) rfl)) (hw _ (List.mem_of_getElem? (i := 28) rfl)) (by decide) (by decide)) e10 (argsL := [(.ref a7)]) (rest := []) rfl rfl pd_7 rfl (by rw [hml]; rfl) (hb hby at_29) (Nat.le_of_eq rfl) (by decide) (by decide) k12
  have k13 : To p.tables e below S0 (T13.setTop (mkF m 32 l11 [(.ref a13)])) := k13a
  have N13 := N10.app Nq13
  obtain ⟨h13, e13⟩ : ∃ z, T13.heap = z := ⟨_, rfl⟩
  rw [e13] at Kq13 P13_0 P13_1 P13_2 P13_3 P13_4 P13_5 P13_6 P13_7
  have z13 : h10.size ≤ h13.size := Kq13.1
  have C13 := C10.trans (CHr.keep Kq13 sf0 C10.1)
  have y13 : @LT.lt Nat instLTNat a13 h13.size := P13_0.lt
  let l14 : Array Slot := #[.val (.int p0), .val (.int p1), .val (.int p2), .val (.int p3), .val (.int p4), .val (.int p5), .val (.ref a3), .val (.ref a7), .val (.ref a10), .val (.ref a13), .unset, .unset, .unset]
  have k15 : To p.tables e below S0 (T13.setTop (mkF m 38 l14 [(.ref a10), (.ref a3)])) := fun tt hq => k13 tt (by
    show Steps _ _ _ (T13.setTop (mkF m 32 l11 [(.ref a13)])) _
    refine XS.astore X13.here hx rfl (hb hby at_32) rfl rfl (l' := l14) rfl ?_
    show Steps _ _ _ (T13.setTop (mkF m 34 l14 [])) _
    refine XS.aload X13.here hx rfl (hb hby at_34) rfl rfl ?_
    show Steps _ _ _ (T13.setTop (mkF m 36 l14 [(.ref a3)])) _
    refine XS.aload X13.here hx rfl (hb hby at_36) rfl rfl ?_
    show Steps _ _ _ (T13.setTop (mkF m 38 l14 [(.ref a10), (.ref a3)])) _
    exact hq)
  have f16 : Fld Z h13 a10 "com/example/debtd/debtd/service/EnteredExpense" "unreadable" "Ljava/lang/String;" (.ref a3) := (P10_7.keep Kq13 nin0)
  have f18 : Exa Z h13 a10 "com/example/debtd/debtd/service/EnteredExpense" := (P10_0.keep Kq13)
  obtain ⟨_, T17, L17, X17, ⟨rfl, Nq17, eq17⟩, k17a⟩ := callV' X13 hx hZ7 (y := (⟨"com/example/debtd/debtd/service/EnteredExpense", "unreadable", "()Ljava/lang/String;"⟩ : MethodName)) (z := (⟨"com/example/debtd/debtd/service/EnteredExpense", "unreadable", "()Ljava/lang/String;"⟩ : MethodName)) hown7 (hw _ (List.mem_of_getElem? (i := 50) rfl)) (hw _ (List.mem_of_getElem? (i := 51) rfl)) (notFace_of_selects (args := #[]) (mvT hZ7 (hw _ (List.mem_of_getElem? (i := 53) rfl)))) (hw _ (List.mem_of_getElem? (i := 53) rfl)) (hw _ (List.mem_of_getElem? (i := 52) rfl)) (by decide) f18 (backC (W := 1) (rm_gunreadable l Z a0 hw a10 (.ref a3) h13 n0 (by omega) f16 rfl) hZ7 (hw _ (List.mem_of_getElem? (i := 54) rfl)) (hw _ (List.mem_of_getElem? (i := 28) rfl)) (by decide) (by decide)) e13 (argsL := []) (rest := [(.ref a3)]) rfl rfl pd_8 rfl (by rw [hml]; rfl) (hb hby at_38) (Nat.le_of_eq rfl) (by decide) (by decide) k15
  have k17 : To p.tables e below S0 (T17.setTop (mkF m 41 l14 [(.ref a3), (.ref a3)])) := k17a
  have N17 := N13.app Nq17
  have e17 : T17.heap = h13 := eq17
  have f20 : Exa Z h13 a3 "java/lang/String" := (((A3.keep Kq7).keep Kq10).keep Kq13)
  obtain ⟨_, T19, L19, X19, ⟨rfl, Nq19, eq19⟩, k19a⟩ := callV' X17 hx hZ7 (y := (⟨"java/lang/String", "equals", "(Ljava/lang/Object;)Z"⟩ : MethodName)) (z := (⟨"java/lang/String", "equals", "(Ljava/lang/Object;)Z"⟩ : MethodName)) hown7 (hw _ (List.mem_of_getElem? (i := 55) rfl)) (hw _ (List.mem_of_getElem? (i := 56) rfl)) (notFace_of_selects (args := #[]) (mvT hZ7 (hw _ (List.mem_of_getElem? (i := 58) rfl)))) (hw _ (List.mem_of_getElem? (i := 58) rfl)) (hw _ (List.mem_of_getElem? (i := 57) rfl)) (by decide) f20 (backC (W := 0) (rm_eq l Z a0 hw a3 h13 n0 (by omega)) hZ7 (hw _ (List.mem_of_getElem? (i := 59) rfl)) (hw _ (List.mem_of_getElem? (i := 7) rfl)) (by decide) (by decide)) e17 (argsL := [(.ref a3)]) (rest := []) rfl rfl pd_9 rfl (by rw [hml]; rfl) (hb hby at_41) (Nat.le_of_eq rfl) (by decide) (by decide) k17
  have k19 : To p.tables e below S0 (T19.setTop (mkF m 44 l14 [(.int (1 : Int32))])) := k19a
  have N19 := N17.app Nq19
  have e19 : T19.heap = h13 := eq19
  let l21 : Array Slot := #[.val (.int p0), .val (.int p1), .val (.int p2), .val (.int p3), .val (.int p4), .val (.int p5), .val (.ref a3), .val (.ref a7), .val (.ref a10), .val (.ref a13), .val (.int (1 : Int32)), .unset, .unset]
  have k22 : To p.tables e below S0 (T19.setTop (mkF m 50 l21 [(.ref a13), (.ref a7)])) := fun tt hq => k19 tt (by
    show Steps _ _ _ (T19.setTop (mkF m 44 l14 [(.int (1 : Int32))])) _
    refine XS.istore X19.here hx rfl (hb hby at_44) rfl (l' := l21) rfl ?_
    show Steps _ _ _ (T19.setTop (mkF m 46 l21 [])) _
    refine XS.aload X19.here hx rfl (hb hby at_46) rfl rfl ?_
    show Steps _ _ _ (T19.setTop (mkF m 48 l21 [(.ref a7)])) _
    refine XS.aload X19.here hx rfl (hb hby at_48) rfl rfl ?_
    show Steps _ _ _ (T19.setTop (mkF m 50 l21 [(.ref a13), (.ref a7)])) _
    exact hq)
  obtain ⟨_, T23, L23, X23, ⟨rfl, Nq23, eq23⟩, k23a⟩ := callV' X19 hx hZ7 (y := (⟨"com/example/debtd/debtd/service/EnteredExpense", "unreadable", "()Ljava/lang/String;"⟩ : MethodName)) (z := (⟨"com/example/debtd/debtd/service/EnteredExpense", "unreadable", "()Ljava/lang/String;"⟩ : MethodName)) hown7 (hw _ (List.mem_of_getElem? (i := 50) rfl)) (hw _ (List.mem_of_getElem? (i := 51) rfl)) (notFace_of_selects (args := #[]) (mvT hZ7 (hw _ (List.mem_of_getElem? (i := 53) rfl)))) (hw _ (List.mem_of_getElem? (i := 53) rfl)) (hw _ (List.mem_of_getElem? (i := 52) rfl)) (by decide) P13_0 (backC (W := 1) (rm_gunreadable l Z a0 hw a13 (.ref a7) h13 n0 (by omega) P13_7 rfl) hZ7 (hw _ (List.mem_of_getElem? (i := 54) rfl)) (hw _ (List.mem_of_getElem? (i := 28) rfl)) (by decide) (by decide)) e19 (argsL := []) (rest := [(.ref a7)]) rfl rfl pd_8 rfl (by rw [hml]; rfl) (hb hby at_50) (Nat.le_of_eq rfl) (by decide) (by decide) k22
  have k23 : To p.tables e below S0 (T23.setTop (mkF m 53 l21 [(.ref a7), (.ref a7)])) := k23a
  have N23 := N19.app Nq23
  have e23 : T23.heap = h13 := eq23
  have f25 : Exa Z h13 a7 "java/lang/String" := ((A7.keep Kq10).keep Kq13)
  obtain ⟨_, T24, L24, X24, ⟨rfl, Nq24, eq24⟩, k24a⟩ := callV' X23 hx hZ7 (y := (⟨"java/lang/String", "equals", "(Ljava/lang/Object;)Z"⟩ : MethodName)) (z := (⟨"java/lang/String", "equals", "(Ljava/lang/Object;)Z"⟩ : MethodName)) hown7 (hw _ (List.mem_of_getElem? (i := 55) rfl)) (hw _ (List.mem_of_getElem? (i := 56) rfl)) (notFace_of_selects (args := #[]) (mvT hZ7 (hw _ (List.mem_of_getElem? (i := 58) rfl)))) (hw _ (List.mem_of_getElem? (i := 58) rfl)) (hw _ (List.mem_of_getElem? (i := 57) rfl)) (by decide) f25 (backC (W := 0) (rm_eq l Z a0 hw a7 h13 n0 (by omega)) hZ7 (hw _ (List.mem_of_getElem? (i := 59) rfl)) (hw _ (List.mem_of_getElem? (i := 7) rfl)) (by decide) (by decide)) e23 (argsL := [(.ref a7)]) (rest := []) rfl rfl pd_9 rfl (by rw [hml]; rfl) (hb hby at_53) (Nat.le_of_eq rfl) (by decide) (by decide) k23
  have k24 : To p.tables e below S0 (T24.setTop (mkF m 56 l21 [(.int (1 : Int32))])) := k24a
  have N24 := N23.app Nq24
  have e24 : T24.heap = h13 := eq24
  let l26 : Array Slot := #[.val (.int p0), .val (.int p1), .val (.int p2), .val (.int p3), .val (.int p4), .val (.int p5), .val (.ref a3), .val (.ref a7), .val (.ref a10), .val (.ref a13), .val (.int (1 : Int32)), .val (.int (1 : Int32)), .unset]
  have k27 : To p.tables e below S0 (T24.setTop (mkF m 60 l26 [(.ref a10)])) := fun tt hq => k24 tt (by
    show Steps _ _ _ (T24.setTop (mkF m 56 l21 [(.int (1 : Int32))])) _
    refine XS.istore X24.here hx rfl (hb hby at_56) rfl (l' := l26) rfl ?_
    show Steps _ _ _ (T24.setTop (mkF m 58 l26 [])) _
    refine XS.aload X24.here hx rfl (hb hby at_58) rfl rfl ?_
    show Steps _ _ _ (T24.setTop (mkF m 60 l26 [(.ref a10)])) _
    exact hq)
  have f28 : Fld Z h13 a10 "com/example/debtd/debtd/service/EnteredExpense" "description" "Ljava/lang/String;" .null := (P10_1.keep Kq13 nin0)
  obtain ⟨_, T29, L29, X29, ⟨rfl, Nq29, eq29⟩, k29a⟩ := callV' X24 hx hZ7 (y := (⟨"com/example/debtd/debtd/service/EnteredExpense", "description", "()Ljava/lang/String;"⟩ : MethodName)) (z := (⟨"com/example/debtd/debtd/service/EnteredExpense", "description", "()Ljava/lang/String;"⟩ : MethodName)) hown7 (hw _ (List.mem_of_getElem? (i := 60) rfl)) (hw _ (List.mem_of_getElem? (i := 61) rfl)) (notFace_of_selects (args := #[]) (mvT hZ7 (hw _ (List.mem_of_getElem? (i := 63) rfl)))) (hw _ (List.mem_of_getElem? (i := 63) rfl)) (hw _ (List.mem_of_getElem? (i := 62) rfl)) (by decide) f18 (backC (W := 0) (rm_gdescription l Z a0 hw a10 .null h13 n0 (by omega) f28 rfl) hZ7 (hw _ (List.mem_of_getElem? (i := 64) rfl)) (hw _ (List.mem_of_getElem? (i := 28) rfl)) (by decide) (by decide)) e24 (argsL := []) (rest := []) rfl rfl pd_8 rfl (by rw [hml]; rfl) (hb hby at_60) (Nat.le_of_eq rfl) (by decide) (by decide) k27
  have k29 : To p.tables e below S0 (T29.setTop (mkF m 63 l26 [.null])) := k29a
  have N29 := N24.app Nq29
  have e29 : T29.heap = h13 := eq29
  have k30 : To p.tables e below S0 (T29.setTop (mkF m 68 l26 [(.ref a10)])) := fun tt hq => k29 tt (by
    show Steps _ _ _ (T29.setTop (mkF m 63 l26 [.null])) _
    refine XS.ifnonnullNo X29.here hx rfl (hb hby at_63) rfl ?_
    show Steps _ _ _ (T29.setTop (mkF m 66 l26 [])) _
    refine XS.aload X29.here hx rfl (hb hby at_66) rfl rfl ?_
    show Steps _ _ _ (T29.setTop (mkF m 68 l26 [(.ref a10)])) _
    exact hq)
  have f31 : Fld Z h13 a10 "com/example/debtd/debtd/service/EnteredExpense" "amount" "Ljava/lang/String;" .null := (P10_2.keep Kq13 nin0)
  obtain ⟨_, T32, L32, X32, ⟨rfl, Nq32, eq32⟩, k32a⟩ := callV' X29 hx hZ7 (y := (⟨"com/example/debtd/debtd/service/EnteredExpense", "amount", "()Ljava/lang/String;"⟩ : MethodName)) (z := (⟨"com/example/debtd/debtd/service/EnteredExpense", "amount", "()Ljava/lang/String;"⟩ : MethodName)) hown7 (hw _ (List.mem_of_getElem? (i := 65) rfl)) (hw _ (List.mem_of_getElem? (i := 66) rfl)) (notFace_of_selects (args := #[]) (mvT hZ7 (hw _ (List.mem_of_getElem? (i := 68) rfl)))) (hw _ (List.mem_of_getElem? (i := 68) rfl)) (hw _ (List.mem_of_getElem? (i := 67) rfl)) (by decide) f18 (backC (W := 0) (rm_gamount l Z a0 hw a10 .null h13 n0 (by omega) f31 rfl) hZ7 (hw _ (List.mem_of_getElem? (i := 69) rfl)) (hw _ (List.mem_of_getElem? (i := 28) rfl)) (by decide) (by decide)) e29 (argsL := []) (rest := []) rfl rfl pd_8 rfl (by rw [hml]; rfl) (hb hby at_68) (Nat.le_of_eq rfl) (by decide) (by decide) k30
  have k32 : To p.tables e below S0 (T32.setTop (mkF m 71 l26 [.null])) := k32a
  have N32 := N29.app Nq32
  have e32 : T32.heap = h13 := eq32
  have k33 : To p.tables e below S0 (T32.setTop (mkF m 76 l26 [(.ref a10)])) := fun tt hq => k32 tt (by
    show Steps _ _ _ (T32.setTop (mkF m 71 l26 [.null])) _
    refine XS.ifnonnullNo X32.here hx rfl (hb hby at_71) rfl ?_
    show Steps _ _ _ (T32.setTop (mkF m 74 l26 [])) _
    refine XS.aload X32.here hx rfl (hb hby at_74) rfl rfl ?_
    show Steps _ _ _ (T32.setTop (mkF m 76 l26 [(.ref a10)])) _
    exact hq)
  have f34 : Fld Z h13 a10 "com/example/debtd/debtd/service/EnteredExpense" "paidBy" "Ljava/lang/Integer;" .null := (P10_3.keep Kq13 nin0)
  obtain ⟨_, T35, L35, X35, ⟨rfl, Nq35, eq35⟩, k35a⟩ := callV' X32 hx hZ7 (y := (⟨"com/example/debtd/debtd/service/EnteredExpense", "paidBy", "()Ljava/lang/Integer;"⟩ : MethodName)) (z := (⟨"com/example/debtd/debtd/service/EnteredExpense", "paidBy", "()Ljava/lang/Integer;"⟩ : MethodName)) hown7 (hw _ (List.mem_of_getElem? (i := 70) rfl)) (hw _ (List.mem_of_getElem? (i := 71) rfl)) (notFace_of_selects (args := #[]) (mvT hZ7 (hw _ (List.mem_of_getElem? (i := 73) rfl)))) (hw _ (List.mem_of_getElem? (i := 73) rfl)) (hw _ (List.mem_of_getElem? (i := 72) rfl)) (by decide) f18 (backC (W := 0) (rm_gpaidBy l Z a0 hw a10 .null h13 n0 (by omega) f34 rfl) hZ7 (hw _ (List.mem_of_getElem? (i := 74) rfl)) (hw _ (List.mem_of_getElem? (i := 28) rfl)) (by decide) (by decide)) e32 (argsL := []) (rest := []) rfl rfl pd_10 rfl (by rw [hml]; rfl) (hb hby at_76) (Nat.le_of_eq rfl) (by decide) (by decide) k33
  have k35 : To p.tables e below S0 (T35.setTop (mkF m 79 l26 [.null])) := k35a
  have N35 := N32.app Nq35
  have e35 : T35.heap = h13 := eq35
  have k36 : To p.tables e below S0 (T35.setTop (mkF m 84 l26 [(.ref a10)])) := fun tt hq => k35 tt (by
    show Steps _ _ _ (T35.setTop (mkF m 79 l26 [.null])) _
    refine XS.ifnonnullNo X35.here hx rfl (hb hby at_79) rfl ?_
    show Steps _ _ _ (T35.setTop (mkF m 82 l26 [])) _
    refine XS.aload X35.here hx rfl (hb hby at_82) rfl rfl ?_
    show Steps _ _ _ (T35.setTop (mkF m 84 l26 [(.ref a10)])) _
    exact hq)
  have f37 : Fld Z h13 a10 "com/example/debtd/debtd/service/EnteredExpense" "split" "Lcom/example/debtd/debtd/service/EnteredSplit;" .null := (P10_4.keep Kq13 nin0)
  obtain ⟨_, T38, L38, X38, ⟨rfl, Nq38, eq38⟩, k38a⟩ := callV' X35 hx hZ7 (y := (⟨"com/example/debtd/debtd/service/EnteredExpense", "split", "()Lcom/example/debtd/debtd/service/EnteredSplit;"⟩ : MethodName)) (z := (⟨"com/example/debtd/debtd/service/EnteredExpense", "split", "()Lcom/example/debtd/debtd/service/EnteredSplit;"⟩ : MethodName)) hown7 (hw _ (List.mem_of_getElem? (i := 75) rfl)) (hw _ (List.mem_of_getElem? (i := 76) rfl)) (notFace_of_selects (args := #[]) (mvT hZ7 (hw _ (List.mem_of_getElem? (i := 78) rfl)))) (hw _ (List.mem_of_getElem? (i := 78) rfl)) (hw _ (List.mem_of_getElem? (i := 77) rfl)) (by decide) f18 (backC (W := 0) (rm_gsplit l Z a0 hw a10 .null h13 n0 (by omega) f37 rfl) hZ7 (hw _ (List.mem_of_getElem? (i := 79) rfl)) (hw _ (List.mem_of_getElem? (i := 28) rfl)) (by decide) (by decide)) e35 (argsL := []) (rest := []) rfl rfl pd_11 rfl (by rw [hml]; rfl) (hb hby at_84) (Nat.le_of_eq rfl) (by decide) (by decide) k36
  have k38 : To p.tables e below S0 (T38.setTop (mkF m 87 l26 [.null])) := k38a
  have N38 := N35.app Nq38
  have e38 : T38.heap = h13 := eq38
  have k39 : To p.tables e below S0 (T38.setTop (mkF m 92 l26 [(.ref a10)])) := fun tt hq => k38 tt (by
    show Steps _ _ _ (T38.setTop (mkF m 87 l26 [.null])) _
    refine XS.ifnonnullNo X38.here hx rfl (hb hby at_87) rfl ?_
    show Steps _ _ _ (T38.setTop (mkF m 90 l26 [])) _
    refine XS.aload X38.here hx rfl (hb hby at_90) rfl rfl ?_
    show Steps _ _ _ (T38.setTop (mkF m 92 l26 [(.ref a10)])) _
    exact hq)
  have f40 : Fld Z h13 a10 "com/example/debtd/debtd/service/EnteredExpense" "category" "Ljava/lang/String;" .null := (P10_5.keep Kq13 nin0)
  obtain ⟨_, T41, L41, X41, ⟨rfl, Nq41, eq41⟩, k41a⟩ := callV' X38 hx hZ7 (y := (⟨"com/example/debtd/debtd/service/EnteredExpense", "category", "()Ljava/lang/String;"⟩ : MethodName)) (z := (⟨"com/example/debtd/debtd/service/EnteredExpense", "category", "()Ljava/lang/String;"⟩ : MethodName)) hown7 (hw _ (List.mem_of_getElem? (i := 80) rfl)) (hw _ (List.mem_of_getElem? (i := 81) rfl)) (notFace_of_selects (args := #[]) (mvT hZ7 (hw _ (List.mem_of_getElem? (i := 83) rfl)))) (hw _ (List.mem_of_getElem? (i := 83) rfl)) (hw _ (List.mem_of_getElem? (i := 82) rfl)) (by decide) f18 (backC (W := 0) (rm_gcategory l Z a0 hw a10 .null h13 n0 (by omega) f40 rfl) hZ7 (hw _ (List.mem_of_getElem? (i := 84) rfl)) (hw _ (List.mem_of_getElem? (i := 28) rfl)) (by decide) (by decide)) e38 (argsL := []) (rest := []) rfl rfl pd_8 rfl (by rw [hml]; rfl) (hb hby at_92) (Nat.le_of_eq rfl) (by decide) (by decide) k39
  have k41 : To p.tables e below S0 (T41.setTop (mkF m 95 l26 [.null])) := k41a
  have N41 := N38.app Nq41
  have e41 : T41.heap = h13 := eq41
  have k42 : To p.tables e below S0 (T41.setTop (mkF m 100 l26 [(.ref a10)])) := fun tt hq => k41 tt (by
    show Steps _ _ _ (T41.setTop (mkF m 95 l26 [.null])) _
    refine XS.ifnonnullNo X41.here hx rfl (hb hby at_95) rfl ?_
    show Steps _ _ _ (T41.setTop (mkF m 98 l26 [])) _
    refine XS.aload X41.here hx rfl (hb hby at_98) rfl rfl ?_
    show Steps _ _ _ (T41.setTop (mkF m 100 l26 [(.ref a10)])) _
    exact hq)
  have f43 : Fld Z h13 a10 "com/example/debtd/debtd/service/EnteredExpense" "date" "Ljava/lang/String;" .null := (P10_6.keep Kq13 nin0)
  obtain ⟨_, T44, L44, X44, ⟨rfl, Nq44, eq44⟩, k44a⟩ := callV' X41 hx hZ7 (y := (⟨"com/example/debtd/debtd/service/EnteredExpense", "date", "()Ljava/lang/String;"⟩ : MethodName)) (z := (⟨"com/example/debtd/debtd/service/EnteredExpense", "date", "()Ljava/lang/String;"⟩ : MethodName)) hown7 (hw _ (List.mem_of_getElem? (i := 85) rfl)) (hw _ (List.mem_of_getElem? (i := 86) rfl)) (notFace_of_selects (args := #[]) (mvT hZ7 (hw _ (List.mem_of_getElem? (i := 88) rfl)))) (hw _ (List.mem_of_getElem? (i := 88) rfl)) (hw _ (List.mem_of_getElem? (i := 87) rfl)) (by decide) f18 (backC (W := 0) (rm_gdate l Z a0 hw a10 .null h13 n0 (by omega) f43 rfl) hZ7 (hw _ (List.mem_of_getElem? (i := 89) rfl)) (hw _ (List.mem_of_getElem? (i := 28) rfl)) (by decide) (by decide)) e41 (argsL := []) (rest := []) rfl rfl pd_8 rfl (by rw [hml]; rfl) (hb hby at_100) (Nat.le_of_eq rfl) (by decide) (by decide) k42
  have k44 : To p.tables e below S0 (T44.setTop (mkF m 103 l26 [.null])) := k44a
  have N44 := N41.app Nq44
  have e44 : T44.heap = h13 := eq44
  let l45 : Array Slot := #[.val (.int p0), .val (.int p1), .val (.int p2), .val (.int p3), .val (.int p4), .val (.int p5), .val (.ref a3), .val (.ref a7), .val (.ref a10), .val (.ref a13), .val (.int (1 : Int32)), .val (.int (1 : Int32)), .val (.int (1 : Int32))]
  have k46 : To p.tables e below S0 (T44.setTop (mkF m 133 l45 [(.int (1 : Int32))])) := fun tt hq => k44 tt (by
    show Steps _ _ _ (T44.setTop (mkF m 103 l26 [.null])) _
    refine XS.ifnonnullNo X44.here hx rfl (hb hby at_103) rfl ?_
    show Steps _ _ _ (T44.setTop (mkF m 106 l26 [])) _
    refine XS.iconst X44.here hx rfl (hb hby at_106) ?_
    show Steps _ _ _ (T44.setTop (mkF m 107 l26 [(.int (1 : Int32))])) _
    refine XS.goto X44.here hx rfl (pc0 := 107) (pc' := 111) rfl (hb hby at_107) (by decide) (by decide) ?_
    show Steps _ _ _ (T44.setTop (mkF m 111 l26 [(.int (1 : Int32))])) _
    refine XS.istore X44.here hx rfl (hb hby at_111) rfl (l' := l45) rfl ?_
    show Steps _ _ _ (T44.setTop (mkF m 113 l45 [])) _
    refine XS.iload X44.here hx rfl (hb hby at_113) rfl ?_
    show Steps _ _ _ (T44.setTop (mkF m 115 l45 [(.int (1 : Int32))])) _
    refine XS.ifNo X44.here hx rfl (hb hby at_115) rfl ((if0 _ _).trans (feq (by decide)).1) ?_
    show Steps _ _ _ (T44.setTop (mkF m 118 l45 [])) _
    refine XS.iload X44.here hx rfl (hb hby at_118) rfl ?_
    show Steps _ _ _ (T44.setTop (mkF m 120 l45 [(.int (1 : Int32))])) _
    refine XS.ifNo X44.here hx rfl (hb hby at_120) rfl ((if0 _ _).trans (feq (by decide)).1) ?_
    show Steps _ _ _ (T44.setTop (mkF m 123 l45 [])) _
    refine XS.iload X44.here hx rfl (hb hby at_123) rfl ?_
    show Steps _ _ _ (T44.setTop (mkF m 125 l45 [(.int (1 : Int32))])) _
    refine XS.ifNo X44.here hx rfl (hb hby at_125) rfl ((if0 _ _).trans (feq (by decide)).1) ?_
    show Steps _ _ _ (T44.setTop (mkF m 128 l45 [])) _
    refine XS.iconst X44.here hx rfl (hb hby at_128) ?_
    show Steps _ _ _ (T44.setTop (mkF m 129 l45 [(.int (1 : Int32))])) _
    refine XS.goto X44.here hx rfl (pc0 := 129) (pc' := 133) rfl (hb hby at_129) (by decide) (by decide) ?_
    show Steps _ _ _ (T44.setTop (mkF m 133 l45 [(.int (1 : Int32))])) _
    exact hq)
  refine retIntW X44 hx hZ7 (own_EW hw) hS7 (by omega) C13 e44 hret hlk (by simp) rfl (hb hby at_133) k46 ?_ (by decide) (by decide)
  exact ⟨rfl, N44⟩
set_option maxRecDepth 65536 in
set_option maxHeartbeats 40000000 in
theorem comes_1 {Post : Tables → Env → Array Value → State → Outcome → State → Prop} (hpost : ∀ tb e args s v u, (limb_1_1.after args s (.returned v) u = true ∧ limb_1_2.after args s (.returned v) u = true ∧ True) → ReturnedEndW s (.returned v) u (Jvm.fieldLocs frame_1_writes args s ++ Jvm.arrayLocs frame_1_arrays args s ++ Jvm.staticLocs frame_1_statics s) 32 1216 → Post tb e args s (.returned v) u) :
    ArmFor flags0 classFile x code maxLocals ret World_1 tables_1 room_1 Calls_1 rest_1 Pre_1 Post := by
  intro l hfl _ _ p e ha hc hk s m args below hf hA hF happ hP
  obtain ⟨hcalls, hrest, hpre⟩ := hP
  obtain ⟨-, -, -, hnamed, -, -, -, hat⟩ := (Spec.applies_iff hf).mp happ
  obtain ⟨hg, hn⟩ := and_e (Cond.before_iff.mp (show (Jvm.Cond.and given_1 narrow_1).before args s = true from hpre))
  obtain ⟨u1, u2⟩ := and_e hg
  obtain ⟨u3, u4⟩ := and_e u2
  obtain ⟨u5, u6⟩ := and_e u4
  obtain ⟨u7, u8⟩ := and_e u6
  obtain ⟨u9, u10⟩ := and_e u8
  obtain ⟨u11, u12⟩ := and_e u10
  obtain ⟨w0, w1, w2, w3, w4, w5, rfl⟩ : ∃ w0 w1 w2 w3 w4 w5 : Value, args = #[w0, w1, w2, w3, w4, w5] := by
    have hs : args.size = 6 := by simpa [Cond.value, given_1] using u1
    obtain ⟨L⟩ := args
    match L, hs with
    | [w0, w1, w2, w3, w4, w5], _ => exact ⟨w0, w1, w2, w3, w4, w5, rfl⟩
  have hw := fun d (hd : d ∈ tables_1) => atoms_spec (ws := Jvm.Cond.code x code maxLocals ret :: tables_1) hat d (List.mem_cons_of_mem _ hd)
  have hfit : Fit s := fun {y c} hc i hi => by
    obtain ⟨ha, rfl⟩ := Array.getElem?_eq_some_iff.mp hc
    have q := List.all_eq_true.mp ((Array.all_eq_true_iff_forall_mem.mp hF) _ (Array.getElem_mem ha)) i (List.mem_range.mpr hi)
    simpa [Array.getElem?_eq_getElem hi] using q
  obtain ⟨hsets, hown0⟩ := atoms_of _ (rest_1_c_eq ▸ (show rest_1_c.before _ s = true from hrest))
  obtain ⟨i0, ei0⟩ := is_v u3
  obtain rfl : w0 = (.int i0) := Option.some.inj ei0
  obtain ⟨i1, ei1⟩ := is_v u5
  obtain rfl : w1 = (.int i1) := Option.some.inj ei1
  obtain ⟨i2, ei2⟩ := is_v u7
  obtain rfl : w2 = (.int i2) := Option.some.inj ei2
  obtain ⟨i3, ei3⟩ := is_v u9
  obtain rfl : w3 = (.int i3) := Option.some.inj ei3
  obtain ⟨i4, ei4⟩ := is_v u11
  obtain rfl : w4 = (.int i4) := Option.some.inj ei4
  obtain ⟨i5, ei5⟩ := is_v u12
  obtain rfl : w5 = (.int i5) := Option.some.inj ei5
  obtain ⟨zc, ezc⟩ := is_v (Cond.before_iff.mp (hsets _ (List.mem_of_getElem? (i := 1) rfl)))
  have S_c := Sta.start ezc (Or.inl (hsets _ (List.mem_of_getElem? (i := 0) rfl)))
  have hzc : ¬ zc = (0 : Int32) := own_nz ezc (Cond.before_iff.mp (hsets _ (List.mem_of_getElem? (i := 2) rfl)))
  obtain ⟨n, o, h1, h2, h3, _, L, rfl, ⟨rfl, N⟩, -, hq⟩ := rm0 l s _ hw zc i0 i1 i2 i3 i4 i5 s.heap s.heap.size (Nat.le_refl _) S_c hzc (Old.start s) p e ha hc hk s m _ below hf ((Spec.applies_iff_loose hf).mp happ).1 ⟨rfl, State.Warmed39.refl s, rfl, (CHv.start (own_EW hw) (fun q hq => hcalls.1 q hq) (hsets _ (List.mem_of_getElem? (i := 2) rfl)) (hw _ (List.mem_of_getElem? (i := 19) rfl)) (hw _ (List.mem_of_getElem? (i := 6) rfl))), fun _ q => nomatch q⟩ trivial
  refine ⟨n, _, h1, h2, h3, hpost _ _ _ _ _ _ ⟨Cond.after_iff.mpr rfl, Cond.after_iff.mpr (eq_i res_at (Term.int_eval (1)) rfl), trivial⟩ ⟨hq.1, hq.2.1, hq.2.2.1, (hq.2.2.2.sift fun y hy => Or.inr (N y hy)).mono (by decide) (by decide)⟩⟩
theorem main_1_1 : Claimed_1_1 := comes_1 fun _ _ _ _ _ _ h hF => ⟨h.1, hF⟩
theorem main_1_2 : Claimed_1_2 := comes_1 fun _ _ _ _ _ _ h hF => ⟨h.2.1, hF⟩
end Jvm.Pilot.@@N@@
namespace Jvm.Pilot.@@N@@
open Jvm Jvm.ClassFile Sem Op Lib Jvm.Free Jvm.Stand Jvm.Pilot.@@N@@.Jvm.D
/-! MADE BY PROGRAM (witnessworld.py) out of the Statement's table words and the real class files: 20 classes; the members and pool entries that the words name. The judged class is class 1, her method 2. -/
namespace start1
open Jvm.ClassFile
def u (s : String) : CpInfo := .utf8 (stringToUtf16 s)
/-- a pool by its gaps: so many unusable entries, then the entry; so many at the end -/
def gap : Nat → List CpInfo → List CpInfo
  | 0, r => r
  | n + 1, r => .unusable :: gap n r
def poolList (es : List (Nat × CpInfo)) (last : Nat) : List CpInfo := es.foldr (fun e r => gap e.1 (e.2 :: r)) (gap last [])
def pool (es : List (Nat × CpInfo)) (last : Nat) : Array CpInfo := ⟨poolList es last⟩
def fileOf (pool : Array CpInfo) (this : Nat) (attrs : Array Attribute := #[]) (ms : Array MethodInfo := #[]) (fl : Nat := 33) (sup : Nat := 0) (ifs : Array Nat := #[]) (fds : Array FieldInfo := #[]) : ClassFile where
  minorVersion := 0
  majorVersion := 65
  constantPool := pool
  accessFlags := fl
  thisClass := this
  superClass := sup
  interfaces := ifs
  fields := fds
  methods := ms
  attributes := attrs
def plain (name : String) (sup : Option ClassId) : Class where
  name := name
  kind := .ordinary
  loader := none
  accessFlags := 33
  super := sup
  interfaces := #[]
  cf := none
  fields := #[]
  methods := #[]
  instanceTypes := #[]
  staticTypes := #[]
  resolved := #[]
  callSites := []
  init := .initialized
  statics := none
  mirror := none

def pool0 : Array CpInfo := pool [(5, u "<init>"), (0, u "()V"), (1, .class_ 10), (1, u "java/lang/Object")] 113

def k0c0 : Code := { maxStack := 0, maxLocals := 1, code := object_method_1_code, exceptionTable := #[], attributes := #[] }
def k0m0 : Method := { name := "<init>", desc := "()V", sig := { parameters := [], returnType := none }, accessFlags := 1, code := some k0c0 }
/-- java/lang/Object -/
def k0 : Class := { plain "java/lang/Object" none with
  accessFlags := 33
  interfaces := #[]
  cf := some (fileOf pool0 8 #[] #[{ accessFlags := 1, nameIndex := 5, descriptorIndex := 6, attributes := #[] }] 33 0 #[] #[])
  fields := #[]
  methods := #[k0m0]
  instanceTypes := #[]
  staticTypes := #[]
  resolved := Array.replicate 124 none
  statics := none }

def pool1 : Array CpInfo := pool [(2, .class_ 4), (1, u "java/lang/Object"), (0, u "<init>"), (0, u "()V"), (0, .class_ 8), (0, u "java/lang/String"), (0, .methodref 7 10), (0, .nameAndType 5 11), (0, u "([C)V"), (0, .methodref 13 14), (0, .class_ 15), (0, .nameAndType 16 17), (0, u "com/example/debtd/debtd/service/EnteredExpenseUnreadablePinLaw"), (0, u "draw"), (0, u "(IIII)Ljava/lang/String;"), (0, .methodref 19 20), (0, .class_ 21), (0, .nameAndType 22 23), (0, u "com/example/debtd/debtd/service/EnteredExpense"), (0, u "unreadable"), (0, u "(Ljava/lang/String;)Lcom/example/debtd/debtd/service/EnteredExpense;"), (0, .methodref 19 25), (0, .nameAndType 22 26), (0, u "()Ljava/lang/String;"), (0, .methodref 7 28), (0, .nameAndType 29 30), (0, u "equals"), (0, u "(Ljava/lang/Object;)Z"), (0, .methodref 19 32), (0, .nameAndType 33 26), (0, u "description"), (0, .methodref 19 35), (0, .nameAndType 36 26), (0, u "amount"), (0, .methodref 19 38), (0, .nameAndType 39 40), (0, u "paidBy"), (0, u "()Ljava/lang/Integer;"), (0, .methodref 19 42), (0, .nameAndType 43 44), (0, u "split"), (0, u "()Lcom/example/debtd/debtd/service/EnteredSplit;"), (0, .methodref 19 46), (0, .nameAndType 47 26), (0, u "category"), (0, .methodref 19 49), (0, .nameAndType 50 26), (0, u "date"), (5, u "law"), (0, u "(IIIIII)Z")] 2

def k1m0 : Method := { name := "<init>", desc := "()V", sig := { parameters := [], returnType := none }, accessFlags := 1, code := none }
def k1c1 : Code := { maxStack := 5, maxLocals := 6, code := method_2_code, exceptionTable := #[], attributes := #[] }
def k1m1 : Method := { name := "draw", desc := "(IIII)Ljava/lang/String;", sig := { parameters := [.int, .int, .int, .int], returnType := some (.object "java/lang/String") }, accessFlags := 10, code := some k1c1 }
def k1c2 : Code := { maxStack := 4, maxLocals := 13, code := code, exceptionTable := #[], attributes := #[] }
def k1m2 : Method := { name := "law", desc := "(IIIIII)Z", sig := { parameters := [.int, .int, .int, .int, .int, .int], returnType := some .boolean }, accessFlags := 9, code := some k1c2 }
/-- com/example/debtd/debtd/service/EnteredExpenseUnreadablePinLaw -/
def k1 : Class := { plain "com/example/debtd/debtd/service/EnteredExpenseUnreadablePinLaw" (some 0) with
  accessFlags := 49
  interfaces := #[]
  cf := some (fileOf pool1 13 #[] #[{ accessFlags := 1, nameIndex := 5, descriptorIndex := 6, attributes := #[] }, { accessFlags := 10, nameIndex := 16, descriptorIndex := 17, attributes := #[] }, { accessFlags := 9, nameIndex := 56, descriptorIndex := 57, attributes := #[] }] 49 2 #[] #[])
  fields := #[]
  methods := #[k1m0, k1m1, k1m2]
  instanceTypes := #[]
  staticTypes := #[]
  resolved := Array.replicate 60 none
  statics := none }

def pool2 : Array CpInfo := pool [(1, .class_ 2), (0, u "java/io/Serializable"), (0, .class_ 4), (0, u "java/lang/Object")] 2

/-- java/io/Serializable -/
def k2 : Class := { plain "java/io/Serializable" (some 0) with
  accessFlags := 1537
  interfaces := #[]
  cf := some (fileOf pool2 1 #[] #[] 1537 3 #[] #[])
  fields := #[]
  methods := #[]
  instanceTypes := #[]
  staticTypes := #[]
  resolved := Array.replicate 7 none
  statics := none }

def pool3 : Array CpInfo := pool [(1, .class_ 2), (0, u "java/lang/Comparable"), (0, .class_ 4), (0, u "java/lang/Object")] 7

/-- java/lang/Comparable -/
def k3 : Class := { plain "java/lang/Comparable" (some 0) with
  accessFlags := 1537
  interfaces := #[]
  cf := some (fileOf pool3 1 #[] #[] 1537 3 #[] #[])
  fields := #[]
  methods := #[]
  instanceTypes := #[]
  staticTypes := #[]
  resolved := Array.replicate 12 none
  statics := none }

def pool4 : Array CpInfo := pool [(2, .class_ 4), (1, u "java/lang/CharSequence"), (42, .class_ 48), (0, u "java/lang/CharSequence$1CodePointIterator"), (10, .class_ 60), (0, u "java/lang/CharSequence$1CharIterator"), (5, .class_ 67), (0, u "java/lang/Object")] 63

/-- java/lang/CharSequence -/
def k4 : Class := { plain "java/lang/CharSequence" (some 0) with
  accessFlags := 1537
  interfaces := #[]
  cf := some (fileOf pool4 2 #[.nestMembers #[47, 59]] #[] 1537 66 #[] #[])
  fields := #[]
  methods := #[]
  instanceTypes := #[]
  staticTypes := #[]
  resolved := Array.replicate 131 none
  statics := none }

def pool5 : Array CpInfo := pool [(1, .class_ 2), (0, u "java/lang/constant/Constable"), (0, .class_ 4), (0, u "java/lang/Object")] 6

/-- java/lang/constant/Constable -/
def k5 : Class := { plain "java/lang/constant/Constable" (some 0) with
  accessFlags := 1537
  interfaces := #[]
  cf := some (fileOf pool5 1 #[] #[] 1537 3 #[] #[])
  fields := #[]
  methods := #[]
  instanceTypes := #[]
  staticTypes := #[]
  resolved := Array.replicate 11 none
  statics := none }

def pool6 : Array CpInfo := pool [(1, .class_ 2), (0, u "java/lang/constant/ConstantDesc"), (0, .class_ 4), (0, u "java/lang/Object")] 32

/-- java/lang/constant/ConstantDesc -/
def k6 : Class := { plain "java/lang/constant/ConstantDesc" (some 0) with
  accessFlags := 1537
  interfaces := #[]
  cf := some (fileOf pool6 1 #[] #[] 1537 3 #[] #[])
  fields := #[]
  methods := #[]
  instanceTypes := #[]
  staticTypes := #[]
  resolved := Array.replicate 37 none
  statics := none }

def pool7 : Array CpInfo := pool [(1, .methodref 2 3), (0, .class_ 4), (0, .nameAndType 5 6), (0, u "java/lang/Object"), (0, u "<init>"), (0, u "()V"), (0, .string 8), (0, u ""), (0, .fieldref 10 11), (0, .class_ 12), (0, .nameAndType 13 14), (0, u "java/lang/String"), (0, u "value"), (0, u "[B"), (0, .fieldref 10 16), (0, .nameAndType 17 18), (0, u "coder"), (0, u "B"), (2, u "hash"), (0, u "I"), (2, u "hashIsZero"), (0, u "Z"), (0, .methodref 10 28), (0, .nameAndType 5 29), (0, u "([CIILjava/lang/Void;)V"), (8, .fieldref 10 39), (0, .nameAndType 40 26), (0, u "COMPACT_STRINGS"), (1, .class_ 44), (1, u "java/lang/StringUTF16"), (0, u "compress"), (1, .methodref 42 48), (0, .nameAndType 49 50), (0, u "coderFromArrayLen"), (0, u "([BI)B"), (126, .methodref 42 178), (0, .nameAndType 45 179), (0, u "([CII)[B"), (363, u "equals"), (29, u "(Ljava/lang/Object;)Z"), (1, .class_ 576), (0, u "java/lang/CharSequence"), (22, u "CASE_INSENSITIVE_ORDER"), (0, u "Ljava/util/Comparator;"), (409, u "([C)V"), (90, u "serialPersistentFields"), (0, u "[Ljava/io/ObjectStreamField;"), (0, .class_ 1104), (0, u "java/lang/String$CaseInsensitiveComparator"), (1, .class_ 1107), (0, u "java/io/Serializable"), (0, .class_ 1109), (0, u "java/lang/Comparable"), (0, .class_ 1111), (0, u "java/lang/constant/Constable"), (0, .class_ 1113), (0, u "java/lang/constant/ConstantDesc"), (2, u "serialVersionUID"), (0, u "J"), (3, u "REPL"), (0, u "C"), (2, u "LATIN1"), (1, u "UTF16")] 323

def k7m0 : Method := { name := "<init>", desc := "()V", sig := { parameters := [], returnType := none }, accessFlags := 1, code := none }
def k7c1 : Code := { maxStack := 5, maxLocals := 2, code := jdk_42_method_3_code, exceptionTable := #[], attributes := #[] }
def k7m1 : Method := { name := "<init>", desc := "([C)V", sig := { parameters := [(.array .char)], returnType := none }, accessFlags := 1, code := some k7c1 }
def k7c2 : Code := { maxStack := 2, maxLocals := 3, code := jdk_42_method_66_code, exceptionTable := #[], attributes := #[] }
def k7m2 : Method := { name := "equals", desc := "(Ljava/lang/Object;)Z", sig := { parameters := [(.object "java/lang/Object")], returnType := some .boolean }, accessFlags := 1, code := some k7c2 }
def k7c3 : Code := { maxStack := 4, maxLocals := 6, code := jdk_42_method_149_code, exceptionTable := #[], attributes := #[] }
def k7m3 : Method := { name := "<init>", desc := "([CIILjava/lang/Void;)V", sig := { parameters := [(.array .char), .int, .int, (.object "java/lang/Void")], returnType := none }, accessFlags := 2, code := some k7c3 }
/-- java/lang/String -/
def k7 : Class := { plain "java/lang/String" (some 0) with
  accessFlags := 49
  interfaces := #[2, 3, 4, 5, 6]
  cf := some (fileOf pool7 10 #[.nestMembers #[1103]] #[{ accessFlags := 1, nameIndex := 5, descriptorIndex := 6, attributes := #[] }, { accessFlags := 1, nameIndex := 5, descriptorIndex := 1010, attributes := #[] }, { accessFlags := 1, nameIndex := 543, descriptorIndex := 573, attributes := #[] }, { accessFlags := 2, nameIndex := 5, descriptorIndex := 29, attributes := #[] }] 49 2 #[1106, 1108, 575, 1110, 1112] #[{ accessFlags := 18, nameIndex := 13, descriptorIndex := 14, attributes := #[] }, { accessFlags := 18, nameIndex := 17, descriptorIndex := 18, attributes := #[] }, { accessFlags := 2, nameIndex := 21, descriptorIndex := 22, attributes := #[] }, { accessFlags := 2, nameIndex := 25, descriptorIndex := 26, attributes := #[] }, { accessFlags := 26, nameIndex := 1116, descriptorIndex := 1117, attributes := #[] }, { accessFlags := 24, nameIndex := 40, descriptorIndex := 26, attributes := #[] }, { accessFlags := 26, nameIndex := 1101, descriptorIndex := 1102, attributes := #[] }, { accessFlags := 26, nameIndex := 1121, descriptorIndex := 1122, attributes := #[] }, { accessFlags := 25, nameIndex := 599, descriptorIndex := 600, attributes := #[] }, { accessFlags := 24, nameIndex := 1125, descriptorIndex := 18, attributes := #[] }, { accessFlags := 24, nameIndex := 1127, descriptorIndex := 18, attributes := #[] }])
  fields := #[{ name := "value", type := (.array .byte), accessFlags := 18, slot := 0, constantValue := 0 }, { name := "coder", type := .byte, accessFlags := 18, slot := 1, constantValue := 0 }, { name := "hash", type := .int, accessFlags := 2, slot := 2, constantValue := 0 }, { name := "hashIsZero", type := .boolean, accessFlags := 2, slot := 3, constantValue := 0 }, { name := "serialVersionUID", type := .long, accessFlags := 26, slot := 0, constantValue := 0 }, { name := "COMPACT_STRINGS", type := .boolean, accessFlags := 24, slot := 1, constantValue := 0 }, { name := "serialPersistentFields", type := (.array (.object "java/io/ObjectStreamField")), accessFlags := 26, slot := 2, constantValue := 0 }, { name := "REPL", type := .char, accessFlags := 26, slot := 3, constantValue := 0 }, { name := "CASE_INSENSITIVE_ORDER", type := (.object "java/util/Comparator"), accessFlags := 25, slot := 4, constantValue := 0 }, { name := "LATIN1", type := .byte, accessFlags := 24, slot := 5, constantValue := 0 }, { name := "UTF16", type := .byte, accessFlags := 24, slot := 6, constantValue := 0 }]
  methods := #[k7m0, k7m1, k7m2, k7m3]
  instanceTypes := #[(.array .byte), .byte, .int, .boolean]
  staticTypes := #[.long, .boolean, (.array (.object "java/io/ObjectStreamField")), .char, (.object "java/util/Comparator"), .byte, .byte]
  resolved := Array.replicate 1451 none
  statics := some 0 }

def pool8 : Array CpInfo := pool [(1, .methodref 2 3), (0, .class_ 4), (0, .nameAndType 5 6), (0, u "com/example/debtd/debtd/service/EnteredExpense"), (0, u "<init>"), (0, u "(Ljava/lang/String;Ljava/lang/String;Ljava/lang/Integer;Lcom/example/debtd/debtd/service/EnteredSplit;Ljava/lang/String;Ljava/lang/String;Ljava/lang/String;)V"), (0, .methodref 8 9), (0, .class_ 10), (0, .nameAndType 5 11), (0, u "java/lang/Object"), (0, u "()V"), (0, .fieldref 2 13), (0, .nameAndType 14 15), (0, u "description"), (0, u "Ljava/lang/String;"), (0, .fieldref 2 17), (0, .nameAndType 18 15), (0, u "amount"), (0, .fieldref 2 20), (0, .nameAndType 21 22), (0, u "paidBy"), (0, u "Ljava/lang/Integer;"), (0, .fieldref 2 24), (0, .nameAndType 25 26), (0, u "split"), (0, u "Lcom/example/debtd/debtd/service/EnteredSplit;"), (0, .fieldref 2 28), (0, .nameAndType 29 15), (0, u "category"), (0, .fieldref 2 31), (0, .nameAndType 32 15), (0, u "date"), (0, .fieldref 2 34), (0, .nameAndType 35 15), (0, u "unreadable"), (3, u "(Ljava/lang/String;)Lcom/example/debtd/debtd/service/EnteredExpense;"), (0, u "()Ljava/lang/String;"), (0, u "()Ljava/lang/Integer;"), (0, u "()Lcom/example/debtd/debtd/service/EnteredSplit;")] 2

def k8c0 : Code := { maxStack := 2, maxLocals := 8, code := prog_25_method_2_code, exceptionTable := #[], attributes := #[] }
def k8m0 : Method := { name := "<init>", desc := "(Ljava/lang/String;Ljava/lang/String;Ljava/lang/Integer;Lcom/example/debtd/debtd/service/EnteredSplit;Ljava/lang/String;Ljava/lang/String;Ljava/lang/String;)V", sig := { parameters := [(.object "java/lang/String"), (.object "java/lang/String"), (.object "java/lang/Integer"), (.object "com/example/debtd/debtd/service/EnteredSplit"), (.object "java/lang/String"), (.object "java/lang/String"), (.object "java/lang/String")], returnType := none }, accessFlags := 2, code := some k8c0 }
def k8c1 : Code := { maxStack := 9, maxLocals := 1, code := prog_25_method_3_code, exceptionTable := #[], attributes := #[] }
def k8m1 : Method := { name := "unreadable", desc := "(Ljava/lang/String;)Lcom/example/debtd/debtd/service/EnteredExpense;", sig := { parameters := [(.object "java/lang/String")], returnType := some (.object "com/example/debtd/debtd/service/EnteredExpense") }, accessFlags := 9, code := some k8c1 }
def k8c2 : Code := { maxStack := 1, maxLocals := 1, code := prog_25_method_4_code, exceptionTable := #[], attributes := #[] }
def k8m2 : Method := { name := "unreadable", desc := "()Ljava/lang/String;", sig := { parameters := [], returnType := some (.object "java/lang/String") }, accessFlags := 0, code := some k8c2 }
def k8c3 : Code := { maxStack := 1, maxLocals := 1, code := prog_25_method_5_code, exceptionTable := #[], attributes := #[] }
def k8m3 : Method := { name := "description", desc := "()Ljava/lang/String;", sig := { parameters := [], returnType := some (.object "java/lang/String") }, accessFlags := 0, code := some k8c3 }
def k8c4 : Code := { maxStack := 1, maxLocals := 1, code := prog_25_method_6_code, exceptionTable := #[], attributes := #[] }
def k8m4 : Method := { name := "amount", desc := "()Ljava/lang/String;", sig := { parameters := [], returnType := some (.object "java/lang/String") }, accessFlags := 0, code := some k8c4 }
def k8c5 : Code := { maxStack := 1, maxLocals := 1, code := prog_25_method_7_code, exceptionTable := #[], attributes := #[] }
def k8m5 : Method := { name := "paidBy", desc := "()Ljava/lang/Integer;", sig := { parameters := [], returnType := some (.object "java/lang/Integer") }, accessFlags := 0, code := some k8c5 }
def k8c6 : Code := { maxStack := 1, maxLocals := 1, code := prog_25_method_8_code, exceptionTable := #[], attributes := #[] }
def k8m6 : Method := { name := "split", desc := "()Lcom/example/debtd/debtd/service/EnteredSplit;", sig := { parameters := [], returnType := some (.object "com/example/debtd/debtd/service/EnteredSplit") }, accessFlags := 0, code := some k8c6 }
def k8c7 : Code := { maxStack := 1, maxLocals := 1, code := prog_25_method_9_code, exceptionTable := #[], attributes := #[] }
def k8m7 : Method := { name := "category", desc := "()Ljava/lang/String;", sig := { parameters := [], returnType := some (.object "java/lang/String") }, accessFlags := 0, code := some k8c7 }
def k8c8 : Code := { maxStack := 1, maxLocals := 1, code := prog_25_method_10_code, exceptionTable := #[], attributes := #[] }
def k8m8 : Method := { name := "date", desc := "()Ljava/lang/String;", sig := { parameters := [], returnType := some (.object "java/lang/String") }, accessFlags := 0, code := some k8c8 }
/-- com/example/debtd/debtd/service/EnteredExpense -/
def k8 : Class := { plain "com/example/debtd/debtd/service/EnteredExpense" (some 0) with
  accessFlags := 33
  interfaces := #[]
  cf := some (fileOf pool8 2 #[] #[{ accessFlags := 2, nameIndex := 5, descriptorIndex := 6, attributes := #[] }, { accessFlags := 9, nameIndex := 35, descriptorIndex := 39, attributes := #[] }, { accessFlags := 0, nameIndex := 35, descriptorIndex := 40, attributes := #[] }, { accessFlags := 0, nameIndex := 14, descriptorIndex := 40, attributes := #[] }, { accessFlags := 0, nameIndex := 18, descriptorIndex := 40, attributes := #[] }, { accessFlags := 0, nameIndex := 21, descriptorIndex := 41, attributes := #[] }, { accessFlags := 0, nameIndex := 25, descriptorIndex := 42, attributes := #[] }, { accessFlags := 0, nameIndex := 29, descriptorIndex := 40, attributes := #[] }, { accessFlags := 0, nameIndex := 32, descriptorIndex := 40, attributes := #[] }] 33 8 #[] #[{ accessFlags := 18, nameIndex := 14, descriptorIndex := 15, attributes := #[] }, { accessFlags := 18, nameIndex := 18, descriptorIndex := 15, attributes := #[] }, { accessFlags := 18, nameIndex := 21, descriptorIndex := 22, attributes := #[] }, { accessFlags := 18, nameIndex := 25, descriptorIndex := 26, attributes := #[] }, { accessFlags := 18, nameIndex := 29, descriptorIndex := 15, attributes := #[] }, { accessFlags := 18, nameIndex := 32, descriptorIndex := 15, attributes := #[] }, { accessFlags := 18, nameIndex := 35, descriptorIndex := 15, attributes := #[] }])
  fields := #[{ name := "description", type := (.object "java/lang/String"), accessFlags := 18, slot := 0, constantValue := 0 }, { name := "amount", type := (.object "java/lang/String"), accessFlags := 18, slot := 1, constantValue := 0 }, { name := "paidBy", type := (.object "java/lang/Integer"), accessFlags := 18, slot := 2, constantValue := 0 }, { name := "split", type := (.object "com/example/debtd/debtd/service/EnteredSplit"), accessFlags := 18, slot := 3, constantValue := 0 }, { name := "category", type := (.object "java/lang/String"), accessFlags := 18, slot := 4, constantValue := 0 }, { name := "date", type := (.object "java/lang/String"), accessFlags := 18, slot := 5, constantValue := 0 }, { name := "unreadable", type := (.object "java/lang/String"), accessFlags := 18, slot := 6, constantValue := 0 }]
  methods := #[k8m0, k8m1, k8m2, k8m3, k8m4, k8m5, k8m6, k8m7, k8m8]
  instanceTypes := #[(.object "java/lang/String"), (.object "java/lang/String"), (.object "java/lang/Integer"), (.object "com/example/debtd/debtd/service/EnteredSplit"), (.object "java/lang/String"), (.object "java/lang/String"), (.object "java/lang/String")]
  staticTypes := #[]
  resolved := Array.replicate 45 none
  statics := none }

def pool9 : Array CpInfo := pool [(6, .class_ 8), (1, u "java/lang/Object"), (0, u "<init>"), (0, u "()V"), (1, .class_ 14), (1, u "java/lang/StringUTF16"), (31, u "$assertionsDisabled"), (0, u "Z"), (13, u "HI_BYTE_SHIFT"), (0, u "I"), (2, u "LO_BYTE_SHIFT"), (49, .methodref 12 116), (0, .nameAndType 117 118), (0, u "compress"), (0, u "([CI[BII)I"), (3, u "([CII)[B"), (138, u "coderFromArrayLen"), (0, u "([BI)B"), (106, .class_ 371), (1, u "java/lang/StringUTF16$LinesSpliterator"), (58, u "MAX_LENGTH"), (196, .class_ 628), (0, u "java/lang/StringUTF16$CodePointsSpliterator"), (0, .class_ 630), (0, u "java/lang/StringUTF16$CharsSpliterator")] 4

def k9m0 : Method := { name := "<init>", desc := "()V", sig := { parameters := [], returnType := none }, accessFlags := 0, code := none }
def k9c1 : Code := { maxStack := 2, maxLocals := 2, code := jdk_52_method_15_code, exceptionTable := #[], attributes := #[] }
def k9m1 : Method := { name := "coderFromArrayLen", desc := "([BI)B", sig := { parameters := [(.array .byte), .int], returnType := some .byte }, accessFlags := 8, code := some k9c1 }
def k9c2 : Code := { maxStack := 5, maxLocals := 6, code := jdk_52_method_16_code, exceptionTable := #[], attributes := #[] }
def k9m2 : Method := { name := "compress", desc := "([CII)[B", sig := { parameters := [(.array .char), .int, .int], returnType := some (.array .byte) }, accessFlags := 9, code := some k9c2 }
def k9c3 : Code := { maxStack := 3, maxLocals := 7, code := jdk_52_method_21_code, exceptionTable := #[], attributes := #[] }
def k9m3 : Method := { name := "compress", desc := "([CI[BII)I", sig := { parameters := [(.array .char), .int, (.array .byte), .int, .int], returnType := some .int }, accessFlags := 9, code := some k9c3 }
/-- java/lang/StringUTF16 -/
def k9 : Class := { plain "java/lang/StringUTF16" (some 0) with
  accessFlags := 48
  interfaces := #[]
  cf := some (fileOf pool9 12 #[.nestMembers #[627, 629, 369]] #[{ accessFlags := 0, nameIndex := 9, descriptorIndex := 10, attributes := #[] }, { accessFlags := 8, nameIndex := 261, descriptorIndex := 262, attributes := #[] }, { accessFlags := 9, nameIndex := 117, descriptorIndex := 122, attributes := #[] }, { accessFlags := 9, nameIndex := 117, descriptorIndex := 118, attributes := #[] }] 48 6 #[] #[{ accessFlags := 26, nameIndex := 61, descriptorIndex := 62, attributes := #[] }, { accessFlags := 26, nameIndex := 65, descriptorIndex := 62, attributes := #[] }, { accessFlags := 24, nameIndex := 430, descriptorIndex := 62, attributes := #[] }, { accessFlags := 4120, nameIndex := 46, descriptorIndex := 47, attributes := #[] }])
  fields := #[{ name := "HI_BYTE_SHIFT", type := .int, accessFlags := 26, slot := 0, constantValue := 0 }, { name := "LO_BYTE_SHIFT", type := .int, accessFlags := 26, slot := 1, constantValue := 0 }, { name := "MAX_LENGTH", type := .int, accessFlags := 24, slot := 2, constantValue := 0 }, { name := "$assertionsDisabled", type := .boolean, accessFlags := 4120, slot := 3, constantValue := 0 }]
  methods := #[k9m0, k9m1, k9m2, k9m3]
  instanceTypes := #[]
  staticTypes := #[.int, .int, .int, .boolean]
  resolved := Array.replicate 635 none
  statics := none }

def pool10 : Array CpInfo := pool [(4, .class_ 6), (1, u "java/lang/Object"), (0, u "<init>"), (0, u "()V"), (5, .class_ 16), (1, u "java/lang/StringLatin1"), (104, u "$assertionsDisabled"), (0, u "Z"), (98, .class_ 223), (1, u "java/lang/StringLatin1$LinesSpliterator"), (166, .class_ 391), (0, u "java/lang/StringLatin1$CharsSpliterator")] 3

def k10m0 : Method := { name := "<init>", desc := "()V", sig := { parameters := [], returnType := none }, accessFlags := 0, code := none }
/-- java/lang/StringLatin1 -/
def k10 : Class := { plain "java/lang/StringLatin1" (some 0) with
  accessFlags := 48
  interfaces := #[]
  cf := some (fileOf pool10 14 #[.nestMembers #[390, 221]] #[{ accessFlags := 0, nameIndex := 7, descriptorIndex := 8, attributes := #[] }] 48 4 #[] #[{ accessFlags := 4120, nameIndex := 121, descriptorIndex := 122, attributes := #[] }])
  fields := #[{ name := "$assertionsDisabled", type := .boolean, accessFlags := 4120, slot := 0, constantValue := 0 }]
  methods := #[k10m0]
  instanceTypes := #[]
  staticTypes := #[.boolean]
  resolved := Array.replicate 395 none
  statics := none }

def pool11 : Array CpInfo := pool [(2, .class_ 4), (1, u "java/lang/Object"), (0, u "<init>"), (0, u "()V"), (17, .class_ 26), (1, u "jdk/internal/util/Preconditions"), (28, .class_ 56), (0, u "jdk/internal/util/Preconditions$4"), (57, .class_ 115), (0, u "jdk/internal/util/Preconditions$1"), (7, u "SIOOBE_FORMATTER"), (0, u "Ljava/util/function/BiFunction;"), (0, .class_ 126), (0, u "jdk/internal/util/Preconditions$2"), (3, u "AIOOBE_FORMATTER"), (0, .class_ 132), (0, u "jdk/internal/util/Preconditions$3"), (3, u "IOOBE_FORMATTER")] 57

def k11m0 : Method := { name := "<init>", desc := "()V", sig := { parameters := [], returnType := none }, accessFlags := 1, code := none }
/-- jdk/internal/util/Preconditions -/
def k11 : Class := { plain "jdk/internal/util/Preconditions" (some 0) with
  accessFlags := 33
  interfaces := #[]
  cf := some (fileOf pool11 24 #[.nestMembers #[55, 131, 125, 114]] #[{ accessFlags := 1, nameIndex := 5, descriptorIndex := 6, attributes := #[] }] 33 2 #[] #[{ accessFlags := 25, nameIndex := 123, descriptorIndex := 124, attributes := #[] }, { accessFlags := 25, nameIndex := 130, descriptorIndex := 124, attributes := #[] }, { accessFlags := 25, nameIndex := 136, descriptorIndex := 124, attributes := #[] }])
  fields := #[{ name := "SIOOBE_FORMATTER", type := (.object "java/util/function/BiFunction"), accessFlags := 25, slot := 0, constantValue := 0 }, { name := "AIOOBE_FORMATTER", type := (.object "java/util/function/BiFunction"), accessFlags := 25, slot := 1, constantValue := 0 }, { name := "IOOBE_FORMATTER", type := (.object "java/util/function/BiFunction"), accessFlags := 25, slot := 2, constantValue := 0 }]
  methods := #[k11m0]
  instanceTypes := #[]
  staticTypes := #[(.object "java/util/function/BiFunction"), (.object "java/util/function/BiFunction"), (.object "java/util/function/BiFunction")]
  resolved := Array.replicate 194 none
  statics := some 1 }

def pool12 : Array CpInfo := pool [(9, u "<init>"), (6, .class_ 18), (1, u "java/lang/Object"), (0, u "()V"), (1, .class_ 23), (1, u "jdk/internal/util/ArraysSupport"), (0, u "LOG2_ARRAY_LONG_INDEX_SCALE"), (0, u "I"), (2, u "U"), (0, u "Ljdk/internal/misc/Unsafe;"), (8, u "BIG_ENDIAN"), (0, u "Z"), (8, u "LOG2_BYTE_BIT_SIZE"), (4, u "LOG2_ARRAY_INT_INDEX_SCALE"), (54, u "JLA"), (0, u "Ljdk/internal/access/JavaLangAccess;"), (11, u "LOG2_ARRAY_BOOLEAN_INDEX_SCALE"), (9, u "LOG2_ARRAY_BYTE_INDEX_SCALE"), (5, u "LOG2_ARRAY_CHAR_INDEX_SCALE"), (5, u "LOG2_ARRAY_SHORT_INDEX_SCALE"), (18, u "LOG2_ARRAY_FLOAT_INDEX_SCALE"), (24, u "LOG2_ARRAY_DOUBLE_INDEX_SCALE"), (89, u "T_BOOLEAN"), (2, u "T_CHAR"), (1, u "T_FLOAT"), (1, u "T_DOUBLE"), (1, u "T_BYTE"), (1, u "T_SHORT"), (1, u "T_INT"), (1, u "T_LONG"), (1, u "SOFT_MAX_ARRAY_LENGTH")] 83

def k12m0 : Method := { name := "<init>", desc := "()V", sig := { parameters := [], returnType := none }, accessFlags := 2, code := none }
/-- jdk/internal/util/ArraysSupport -/
def k12 : Class := { plain "jdk/internal/util/ArraysSupport" (some 0) with
  accessFlags := 33
  interfaces := #[]
  cf := some (fileOf pool12 21 #[] #[{ accessFlags := 2, nameIndex := 9, descriptorIndex := 19, attributes := #[] }] 33 16 #[] #[{ accessFlags := 24, nameIndex := 28, descriptorIndex := 29, attributes := #[] }, { accessFlags := 26, nameIndex := 38, descriptorIndex := 39, attributes := #[] }, { accessFlags := 25, nameIndex := 121, descriptorIndex := 25, attributes := #[] }, { accessFlags := 25, nameIndex := 131, descriptorIndex := 25, attributes := #[] }, { accessFlags := 25, nameIndex := 137, descriptorIndex := 25, attributes := #[] }, { accessFlags := 25, nameIndex := 143, descriptorIndex := 25, attributes := #[] }, { accessFlags := 25, nameIndex := 53, descriptorIndex := 25, attributes := #[] }, { accessFlags := 25, nameIndex := 24, descriptorIndex := 25, attributes := #[] }, { accessFlags := 25, nameIndex := 162, descriptorIndex := 25, attributes := #[] }, { accessFlags := 25, nameIndex := 187, descriptorIndex := 25, attributes := #[] }, { accessFlags := 26, nameIndex := 48, descriptorIndex := 25, attributes := #[] }, { accessFlags := 25, nameIndex := 277, descriptorIndex := 25, attributes := #[] }, { accessFlags := 25, nameIndex := 280, descriptorIndex := 25, attributes := #[] }, { accessFlags := 25, nameIndex := 282, descriptorIndex := 25, attributes := #[] }, { accessFlags := 25, nameIndex := 284, descriptorIndex := 25, attributes := #[] }, { accessFlags := 25, nameIndex := 286, descriptorIndex := 25, attributes := #[] }, { accessFlags := 25, nameIndex := 288, descriptorIndex := 25, attributes := #[] }, { accessFlags := 25, nameIndex := 290, descriptorIndex := 25, attributes := #[] }, { accessFlags := 25, nameIndex := 292, descriptorIndex := 25, attributes := #[] }, { accessFlags := 26, nameIndex := 108, descriptorIndex := 109, attributes := #[] }, { accessFlags := 25, nameIndex := 294, descriptorIndex := 25, attributes := #[] }])
  fields := #[{ name := "U", type := (.object "jdk/internal/misc/Unsafe"), accessFlags := 24, slot := 0, constantValue := 0 }, { name := "BIG_ENDIAN", type := .boolean, accessFlags := 26, slot := 1, constantValue := 0 }, { name := "LOG2_ARRAY_BOOLEAN_INDEX_SCALE", type := .int, accessFlags := 25, slot := 2, constantValue := 0 }, { name := "LOG2_ARRAY_BYTE_INDEX_SCALE", type := .int, accessFlags := 25, slot := 3, constantValue := 0 }, { name := "LOG2_ARRAY_CHAR_INDEX_SCALE", type := .int, accessFlags := 25, slot := 4, constantValue := 0 }, { name := "LOG2_ARRAY_SHORT_INDEX_SCALE", type := .int, accessFlags := 25, slot := 5, constantValue := 0 }, { name := "LOG2_ARRAY_INT_INDEX_SCALE", type := .int, accessFlags := 25, slot := 6, constantValue := 0 }, { name := "LOG2_ARRAY_LONG_INDEX_SCALE", type := .int, accessFlags := 25, slot := 7, constantValue := 0 }, { name := "LOG2_ARRAY_FLOAT_INDEX_SCALE", type := .int, accessFlags := 25, slot := 8, constantValue := 0 }, { name := "LOG2_ARRAY_DOUBLE_INDEX_SCALE", type := .int, accessFlags := 25, slot := 9, constantValue := 0 }, { name := "LOG2_BYTE_BIT_SIZE", type := .int, accessFlags := 26, slot := 10, constantValue := 0 }, { name := "T_BOOLEAN", type := .int, accessFlags := 25, slot := 11, constantValue := 0 }, { name := "T_CHAR", type := .int, accessFlags := 25, slot := 12, constantValue := 0 }, { name := "T_FLOAT", type := .int, accessFlags := 25, slot := 13, constantValue := 0 }, { name := "T_DOUBLE", type := .int, accessFlags := 25, slot := 14, constantValue := 0 }, { name := "T_BYTE", type := .int, accessFlags := 25, slot := 15, constantValue := 0 }, { name := "T_SHORT", type := .int, accessFlags := 25, slot := 16, constantValue := 0 }, { name := "T_INT", type := .int, accessFlags := 25, slot := 17, constantValue := 0 }, { name := "T_LONG", type := .int, accessFlags := 25, slot := 18, constantValue := 0 }, { name := "JLA", type := (.object "jdk/internal/access/JavaLangAccess"), accessFlags := 26, slot := 19, constantValue := 0 }, { name := "SOFT_MAX_ARRAY_LENGTH", type := .int, accessFlags := 25, slot := 20, constantValue := 0 }]
  methods := #[k12m0]
  instanceTypes := #[]
  staticTypes := #[(.object "jdk/internal/misc/Unsafe"), .boolean, .int, .int, .int, .int, .int, .int, .int, .int, .int, .int, .int, .int, .int, .int, .int, .int, .int, (.object "jdk/internal/access/JavaLangAccess"), .int]
  resolved := Array.replicate 378 none
  statics := none }

def pool13 : Array CpInfo := pool [(1, u "java/lang/Cloneable"), (0, .class_ 1), (0, u "java/lang/Object"), (0, .class_ 3)] 3

/-- java/lang/Cloneable -/
def k13 : Class := { plain "java/lang/Cloneable" (some 0) with
  accessFlags := 1537
  interfaces := #[]
  cf := some (fileOf pool13 2 #[] #[] 1537 4 #[] #[])
  fields := #[]
  methods := #[]
  instanceTypes := #[]
  staticTypes := #[]
  resolved := Array.replicate 8 none
  statics := none }

/-- the primitive byte -/
def k14 : Class := { plain "byte" none with kind := .primitive 'B', accessFlags := 0x411 }
/-- [B -/
def k15 : Class := { plain "[B" (some 0) with kind := .array 14 .byte, interfaces := #[13, 2], accessFlags := 1041 }

/-- the primitive char -/
def k16 : Class := { plain "char" none with kind := .primitive 'C', accessFlags := 0x411 }
/-- [C -/
def k17 : Class := { plain "[C" (some 0) with kind := .array 16 .char, interfaces := #[13, 2], accessFlags := 1041 }

/-- the primitive int -/
def k18 : Class := { plain "int" none with kind := .primitive 'I', accessFlags := 0x411 }
/-- [I -/
def k19 : Class := { plain "[I" (some 0) with kind := .array 18 .int, interfaces := #[13, 2], accessFlags := 1041 }

def heap : Heap := #[{ cls := 7, slots := #[.long 0, .int 1, .null, .int 0, .null, .int 0, .int 0], vm := .statics 7 },
  { cls := 11, slots := #[.null, .null, .null], vm := .statics 11 }]
def classes : Array Class := #[k0, k1, k2, k3, k4, k5, k6, k7, k8, k9, k10, k11, k12, k13, k14, k15, k16, k17, k18, k19]
def interned : List (Array UInt16 × Addr) := []
def slotsUsed : Nat := 10
def theMethod : MethodId := ⟨1, 2⟩
def args0 : Array Value := #[.int 0, .int 1, .int 2, .int 3, .int 4, .int 5]
def aboutOver (below : List Frame) : State where
  vm := { classes := classes, interned := interned.toArray }
  heap := heap
  slotsUsed := slotsUsed
  threads := #[{ frames := .invoking theMethod args0 :: below }]
def below0 : List Frame := [.native { method := ⟨0, 0⟩, args := #[] }]
def about1 : State := aboutOver below0
def p0 : Program := .bare "" "" ""
def e0 : Env := launch0.env 0 0 0
theorem w_frames : about1.frames = Frame.invoking theMethod args0 :: below0 := rfl
set_option maxRecDepth 65536 in
theorem w_args : argsFit about1.vm theMethod args0 = true := by decide +kernel
set_option maxRecDepth 65536 in
theorem w_heap : heapFits about1 = true := by decide +kernel
set_option maxRecDepth 65536 in
theorem w_runnable : about1.curStatus? = some .runnable := by decide +kernel
set_option maxRecDepth 65536 in
theorem w_alone : about1.alone = true := by decide +kernel
set_option maxRecDepth 65536 in
theorem w_named : about1.methodNamed? x = some theMethod := by decide +kernel
set_option maxRecDepth 65536 in
theorem w_hears : about1.hears theMethod below0 = true := by decide +kernel
set_option maxRecDepth 65536 in
theorem w_ripe : about1.ripe theMethod args0 below0 = true := by decide +kernel
theorem w_running : about1.status = .running := rfl
set_option maxRecDepth 65536 in
theorem w_room : about1.hasRoom e0.platform room_1 = true :=
  launch0.hasRoom_least _ room_1 (by decide +kernel) (by decide +kernel) (by decide +kernel) (by decide +kernel) (by decide +kernel) (by decide +kernel)
theorem allAtoms_all (ts : List Jvm.Cond) (a : Array Jvm.Value) (st : Jvm.State) : (allAtoms ts).before a st = ts.all (fun c => c.before a st) := by
  induction ts with
  | nil => rfl
  | cons c t ih =>
    show (Jvm.Cond.and c (allAtoms t)).before a st = _
    rw [Jvm.Cond.before_and, ih, List.all_cons]
def words1 : List Jvm.Cond := Jvm.Cond.code x code maxLocals ret :: tables_1
/-- a 'code' word, met by the world's own term for the bytes: nothing is compared byte by byte -/
theorem code_word {y : MethodName} {bytes : ByteArray} {mx : Nat} {rt : Option FieldType} {a : Array Value} {s : State} {m : MethodId} {meth : Method} {c : Code} (h1 : s.methodNamed? y = some m) (h2 : s.vm.method? m = some meth) (h3 : meth.code = some c) (h4 : c.code = bytes)
    (h5 : (c.maxLocals == mx && c.exceptionTable.isEmpty && decide (c.maxStack ≤ mostOperands) && decide (meth.sig.returnType = rt) && !meth.locks && decide (parseMethodDescriptor y.desc = some meth.sig)) = true) : (Jvm.Cond.code y bytes mx rt).before a s = true := by
  simp only [Bool.and_eq_true, beq_iff_eq, Bool.not_eq_true', decide_eq_true_eq] at h5
  obtain ⟨⟨⟨⟨⟨g1, g2⟩, g3⟩, g4⟩, g5⟩, g6⟩ := h5
  simp [Cond.before, Cond.holds, Cond.value, h1, h2, h3, h4, g1, g2, g3, g4, g5, g6]
def isCode : Jvm.Cond → Bool
  | .code _ _ _ _ => true
  | _ => false
theorem all_split {L : List Jvm.Cond} {P : Jvm.Cond → Bool} (h1 : L.all (fun c => isCode c || P c) = true) (h2 : ∀ c ∈ L.filter isCode, P c = true) : L.all P = true := by
  refine List.all_eq_true.mpr fun c hc => ?_
  have h := List.all_eq_true.mp h1 c hc
  rcases Bool.eq_false_or_eq_true (isCode c) with hi | hi
  · exact h2 c (List.mem_filter.mpr ⟨hc, hi⟩)
  · simpa [hi] using h
set_option maxRecDepth 65536 in
theorem w_c0 : (Jvm.Cond.code x code maxLocals ret).before args0 about1 = true := code_word (m := ⟨1, 2⟩) (meth := k1m2) (c := k1c2) (by decide +kernel) rfl rfl rfl (by decide +kernel)
set_option maxRecDepth 65536 in
theorem w_c1 : (Jvm.Cond.code ({ cls := "com/example/debtd/debtd/service/EnteredExpenseUnreadablePinLaw", name := "draw", desc := "(IIII)Ljava/lang/String;" } : Jvm.MethodName) method_2_code (6 : Nat) (Option.some (Jvm.ClassFile.FieldType.object "java/lang/String"))).before args0 about1 = true := code_word (m := ⟨1, 1⟩) (meth := k1m1) (c := k1c1) (by decide +kernel) rfl rfl rfl (by decide +kernel)
set_option maxRecDepth 65536 in
theorem w_c2 : (Jvm.Cond.code ({ cls := "java/lang/String", name := "<init>", desc := "([C)V" } : Jvm.MethodName) jdk_42_method_3_code (2 : Nat) (Option.none : Option Jvm.ClassFile.FieldType)).before args0 about1 = true := code_word (m := ⟨7, 1⟩) (meth := k7m1) (c := k7c1) (by decide +kernel) rfl rfl rfl (by decide +kernel)
set_option maxRecDepth 65536 in
theorem w_c3 : (Jvm.Cond.code ({ cls := "java/lang/String", name := "<init>", desc := "([CIILjava/lang/Void;)V" } : Jvm.MethodName) jdk_42_method_149_code (6 : Nat) (Option.none : Option Jvm.ClassFile.FieldType)).before args0 about1 = true := code_word (m := ⟨7, 3⟩) (meth := k7m3) (c := k7c3) (by decide +kernel) rfl rfl rfl (by decide +kernel)
set_option maxRecDepth 65536 in
theorem w_c4 : (Jvm.Cond.code ({ cls := "java/lang/Object", name := "<init>", desc := "()V" } : Jvm.MethodName) object_method_1_code (1 : Nat) (Option.none : Option Jvm.ClassFile.FieldType)).before args0 about1 = true := code_word (m := ⟨0, 0⟩) (meth := k0m0) (c := k0c0) (by decide +kernel) rfl rfl rfl (by decide +kernel)
set_option maxRecDepth 65536 in
theorem w_c5 : (Jvm.Cond.code ({ cls := "com/example/debtd/debtd/service/EnteredExpense", name := "unreadable", desc := "(Ljava/lang/String;)Lcom/example/debtd/debtd/service/EnteredExpense;" } : Jvm.MethodName) prog_25_method_3_code (1 : Nat) (Option.some (Jvm.ClassFile.FieldType.object "com/example/debtd/debtd/service/EnteredExpense"))).before args0 about1 = true := code_word (m := ⟨8, 1⟩) (meth := k8m1) (c := k8c1) (by decide +kernel) rfl rfl rfl (by decide +kernel)
set_option maxRecDepth 65536 in
theorem w_c6 : (Jvm.Cond.code ({ cls := "com/example/debtd/debtd/service/EnteredExpense", name := "<init>", desc := "(Ljava/lang/String;Ljava/lang/String;Ljava/lang/Integer;Lcom/example/debtd/debtd/service/EnteredSplit;Ljava/lang/String;Ljava/lang/String;Ljava/lang/String;)V" } : Jvm.MethodName) prog_25_method_2_code (8 : Nat) (Option.none : Option Jvm.ClassFile.FieldType)).before args0 about1 = true := code_word (m := ⟨8, 0⟩) (meth := k8m0) (c := k8c0) (by decide +kernel) rfl rfl rfl (by decide +kernel)
set_option maxRecDepth 65536 in
theorem w_c7 : (Jvm.Cond.code ({ cls := "com/example/debtd/debtd/service/EnteredExpense", name := "unreadable", desc := "()Ljava/lang/String;" } : Jvm.MethodName) prog_25_method_4_code (1 : Nat) (Option.some (Jvm.ClassFile.FieldType.object "java/lang/String"))).before args0 about1 = true := code_word (m := ⟨8, 2⟩) (meth := k8m2) (c := k8c2) (by decide +kernel) rfl rfl rfl (by decide +kernel)
set_option maxRecDepth 65536 in
theorem w_c8 : (Jvm.Cond.code ({ cls := "java/lang/String", name := "equals", desc := "(Ljava/lang/Object;)Z" } : Jvm.MethodName) jdk_42_method_66_code (3 : Nat) (Option.some Jvm.ClassFile.FieldType.boolean)).before args0 about1 = true := code_word (m := ⟨7, 2⟩) (meth := k7m2) (c := k7c2) (by decide +kernel) rfl rfl rfl (by decide +kernel)
set_option maxRecDepth 65536 in
theorem w_c9 : (Jvm.Cond.code ({ cls := "com/example/debtd/debtd/service/EnteredExpense", name := "description", desc := "()Ljava/lang/String;" } : Jvm.MethodName) prog_25_method_5_code (1 : Nat) (Option.some (Jvm.ClassFile.FieldType.object "java/lang/String"))).before args0 about1 = true := code_word (m := ⟨8, 3⟩) (meth := k8m3) (c := k8c3) (by decide +kernel) rfl rfl rfl (by decide +kernel)
set_option maxRecDepth 65536 in
theorem w_c10 : (Jvm.Cond.code ({ cls := "com/example/debtd/debtd/service/EnteredExpense", name := "amount", desc := "()Ljava/lang/String;" } : Jvm.MethodName) prog_25_method_6_code (1 : Nat) (Option.some (Jvm.ClassFile.FieldType.object "java/lang/String"))).before args0 about1 = true := code_word (m := ⟨8, 4⟩) (meth := k8m4) (c := k8c4) (by decide +kernel) rfl rfl rfl (by decide +kernel)
set_option maxRecDepth 65536 in
theorem w_c11 : (Jvm.Cond.code ({ cls := "com/example/debtd/debtd/service/EnteredExpense", name := "paidBy", desc := "()Ljava/lang/Integer;" } : Jvm.MethodName) prog_25_method_7_code (1 : Nat) (Option.some (Jvm.ClassFile.FieldType.object "java/lang/Integer"))).before args0 about1 = true := code_word (m := ⟨8, 5⟩) (meth := k8m5) (c := k8c5) (by decide +kernel) rfl rfl rfl (by decide +kernel)
set_option maxRecDepth 65536 in
theorem w_c12 : (Jvm.Cond.code ({ cls := "com/example/debtd/debtd/service/EnteredExpense", name := "split", desc := "()Lcom/example/debtd/debtd/service/EnteredSplit;" } : Jvm.MethodName) prog_25_method_8_code (1 : Nat) (Option.some (Jvm.ClassFile.FieldType.object "com/example/debtd/debtd/service/EnteredSplit"))).before args0 about1 = true := code_word (m := ⟨8, 6⟩) (meth := k8m6) (c := k8c6) (by decide +kernel) rfl rfl rfl (by decide +kernel)
set_option maxRecDepth 65536 in
theorem w_c13 : (Jvm.Cond.code ({ cls := "com/example/debtd/debtd/service/EnteredExpense", name := "category", desc := "()Ljava/lang/String;" } : Jvm.MethodName) prog_25_method_9_code (1 : Nat) (Option.some (Jvm.ClassFile.FieldType.object "java/lang/String"))).before args0 about1 = true := code_word (m := ⟨8, 7⟩) (meth := k8m7) (c := k8c7) (by decide +kernel) rfl rfl rfl (by decide +kernel)
set_option maxRecDepth 65536 in
theorem w_c14 : (Jvm.Cond.code ({ cls := "com/example/debtd/debtd/service/EnteredExpense", name := "date", desc := "()Ljava/lang/String;" } : Jvm.MethodName) prog_25_method_10_code (1 : Nat) (Option.some (Jvm.ClassFile.FieldType.object "java/lang/String"))).before args0 about1 = true := code_word (m := ⟨8, 8⟩) (meth := k8m8) (c := k8c8) (by decide +kernel) rfl rfl rfl (by decide +kernel)
set_option maxRecDepth 65536 in
theorem w_c15 : (Jvm.Cond.code ({ cls := "java/lang/StringUTF16", name := "compress", desc := "([CII)[B" } : Jvm.MethodName) jdk_52_method_16_code (6 : Nat) (Option.some (Jvm.ClassFile.FieldType.array Jvm.ClassFile.FieldType.byte))).before args0 about1 = true := code_word (m := ⟨9, 2⟩) (meth := k9m2) (c := k9c2) (by decide +kernel) rfl rfl rfl (by decide +kernel)
set_option maxRecDepth 65536 in
theorem w_c16 : (Jvm.Cond.code ({ cls := "java/lang/StringUTF16", name := "compress", desc := "([CI[BII)I" } : Jvm.MethodName) jdk_52_method_21_code (7 : Nat) (Option.some Jvm.ClassFile.FieldType.int)).before args0 about1 = true := code_word (m := ⟨9, 3⟩) (meth := k9m3) (c := k9c3) (by decide +kernel) rfl rfl rfl (by decide +kernel)
set_option maxRecDepth 65536 in
theorem w_c17 : (Jvm.Cond.code ({ cls := "java/lang/StringUTF16", name := "coderFromArrayLen", desc := "([BI)B" } : Jvm.MethodName) jdk_52_method_15_code (2 : Nat) (Option.some Jvm.ClassFile.FieldType.byte)).before args0 about1 = true := code_word (m := ⟨9, 1⟩) (meth := k9m1) (c := k9c1) (by decide +kernel) rfl rfl rfl (by decide +kernel)
def codes1 : List Jvm.Cond := [Jvm.Cond.code x code maxLocals ret, Jvm.Cond.code ({ cls := "com/example/debtd/debtd/service/EnteredExpenseUnreadablePinLaw", name := "draw", desc := "(IIII)Ljava/lang/String;" } : Jvm.MethodName) method_2_code (6 : Nat) (Option.some (Jvm.ClassFile.FieldType.object "java/lang/String")), Jvm.Cond.code ({ cls := "java/lang/String", name := "<init>", desc := "([C)V" } : Jvm.MethodName) jdk_42_method_3_code (2 : Nat) (Option.none : Option Jvm.ClassFile.FieldType), Jvm.Cond.code ({ cls := "java/lang/String", name := "<init>", desc := "([CIILjava/lang/Void;)V" } : Jvm.MethodName) jdk_42_method_149_code (6 : Nat) (Option.none : Option Jvm.ClassFile.FieldType), Jvm.Cond.code ({ cls := "java/lang/Object", name := "<init>", desc := "()V" } : Jvm.MethodName) object_method_1_code (1 : Nat) (Option.none : Option Jvm.ClassFile.FieldType), Jvm.Cond.code ({ cls := "com/example/debtd/debtd/service/EnteredExpense", name := "unreadable", desc := "(Ljava/lang/String;)Lcom/example/debtd/debtd/service/EnteredExpense;" } : Jvm.MethodName) prog_25_method_3_code (1 : Nat) (Option.some (Jvm.ClassFile.FieldType.object "com/example/debtd/debtd/service/EnteredExpense")), Jvm.Cond.code ({ cls := "com/example/debtd/debtd/service/EnteredExpense", name := "<init>", desc := "(Ljava/lang/String;Ljava/lang/String;Ljava/lang/Integer;Lcom/example/debtd/debtd/service/EnteredSplit;Ljava/lang/String;Ljava/lang/String;Ljava/lang/String;)V" } : Jvm.MethodName) prog_25_method_2_code (8 : Nat) (Option.none : Option Jvm.ClassFile.FieldType), Jvm.Cond.code ({ cls := "com/example/debtd/debtd/service/EnteredExpense", name := "unreadable", desc := "()Ljava/lang/String;" } : Jvm.MethodName) prog_25_method_4_code (1 : Nat) (Option.some (Jvm.ClassFile.FieldType.object "java/lang/String")), Jvm.Cond.code ({ cls := "java/lang/String", name := "equals", desc := "(Ljava/lang/Object;)Z" } : Jvm.MethodName) jdk_42_method_66_code (3 : Nat) (Option.some Jvm.ClassFile.FieldType.boolean), Jvm.Cond.code ({ cls := "com/example/debtd/debtd/service/EnteredExpense", name := "description", desc := "()Ljava/lang/String;" } : Jvm.MethodName) prog_25_method_5_code (1 : Nat) (Option.some (Jvm.ClassFile.FieldType.object "java/lang/String")), Jvm.Cond.code ({ cls := "com/example/debtd/debtd/service/EnteredExpense", name := "amount", desc := "()Ljava/lang/String;" } : Jvm.MethodName) prog_25_method_6_code (1 : Nat) (Option.some (Jvm.ClassFile.FieldType.object "java/lang/String")), Jvm.Cond.code ({ cls := "com/example/debtd/debtd/service/EnteredExpense", name := "paidBy", desc := "()Ljava/lang/Integer;" } : Jvm.MethodName) prog_25_method_7_code (1 : Nat) (Option.some (Jvm.ClassFile.FieldType.object "java/lang/Integer")), Jvm.Cond.code ({ cls := "com/example/debtd/debtd/service/EnteredExpense", name := "split", desc := "()Lcom/example/debtd/debtd/service/EnteredSplit;" } : Jvm.MethodName) prog_25_method_8_code (1 : Nat) (Option.some (Jvm.ClassFile.FieldType.object "com/example/debtd/debtd/service/EnteredSplit")), Jvm.Cond.code ({ cls := "com/example/debtd/debtd/service/EnteredExpense", name := "category", desc := "()Ljava/lang/String;" } : Jvm.MethodName) prog_25_method_9_code (1 : Nat) (Option.some (Jvm.ClassFile.FieldType.object "java/lang/String")), Jvm.Cond.code ({ cls := "com/example/debtd/debtd/service/EnteredExpense", name := "date", desc := "()Ljava/lang/String;" } : Jvm.MethodName) prog_25_method_10_code (1 : Nat) (Option.some (Jvm.ClassFile.FieldType.object "java/lang/String")), Jvm.Cond.code ({ cls := "java/lang/StringUTF16", name := "compress", desc := "([CII)[B" } : Jvm.MethodName) jdk_52_method_16_code (6 : Nat) (Option.some (Jvm.ClassFile.FieldType.array Jvm.ClassFile.FieldType.byte)), Jvm.Cond.code ({ cls := "java/lang/StringUTF16", name := "compress", desc := "([CI[BII)I" } : Jvm.MethodName) jdk_52_method_21_code (7 : Nat) (Option.some Jvm.ClassFile.FieldType.int), Jvm.Cond.code ({ cls := "java/lang/StringUTF16", name := "coderFromArrayLen", desc := "([BI)B" } : Jvm.MethodName) jdk_52_method_15_code (2 : Nat) (Option.some Jvm.ClassFile.FieldType.byte)]
set_option maxRecDepth 65536 in
theorem codes_eq : words1.filter isCode = codes1 := rfl
theorem w_codes : ∀ c ∈ words1.filter isCode, c.before args0 about1 = true := by
  rw [codes_eq]
  intro c hc
  simp only [codes1, List.mem_cons, List.not_mem_nil, or_false] at hc
  rcases hc with rfl | rfl | rfl | rfl | rfl | rfl | rfl | rfl | rfl | rfl | rfl | rfl | rfl | rfl | rfl | rfl | rfl | rfl
  · exact w_c0
  · exact w_c1
  · exact w_c2
  · exact w_c3
  · exact w_c4
  · exact w_c5
  · exact w_c6
  · exact w_c7
  · exact w_c8
  · exact w_c9
  · exact w_c10
  · exact w_c11
  · exact w_c12
  · exact w_c13
  · exact w_c14
  · exact w_c15
  · exact w_c16
  · exact w_c17
set_option maxRecDepth 65536 in
theorem w_t1 : (words1.take 24).all (fun c => isCode c || c.before args0 about1) = true := by decide +kernel
set_option maxRecDepth 65536 in
theorem w_t2 : ((words1.drop 24).take 24).all (fun c => isCode c || c.before args0 about1) = true := by decide +kernel
set_option maxRecDepth 65536 in
theorem w_t3 : (((words1.drop 24).drop 24).take 24).all (fun c => isCode c || c.before args0 about1) = true := by decide +kernel
set_option maxRecDepth 65536 in
theorem w_t4 : ((((words1.drop 24).drop 24).drop 24).take 24).all (fun c => isCode c || c.before args0 about1) = true := by decide +kernel
set_option maxRecDepth 65536 in
theorem w_t5 : ((((words1.drop 24).drop 24).drop 24).drop 24).all (fun c => isCode c || c.before args0 about1) = true := by decide +kernel
theorem w_tables : (allAtoms (Jvm.Cond.code x code maxLocals ret :: tables_1)).before args0 about1 = true := by
  rw [allAtoms_all]
  show words1.all (fun c => c.before args0 about1) = true
  refine all_split ?_ w_codes
  rw [← List.take_append_drop 24 words1, List.all_append, w_t1, ← List.take_append_drop 24 (words1.drop 24), List.all_append, w_t2, ← List.take_append_drop 24 ((words1.drop 24).drop 24), List.all_append, w_t3, ← List.take_append_drop 24 (((words1.drop 24).drop 24).drop 24), List.all_append, w_t4, w_t5]
  rfl
set_option maxRecDepth 65536 in
theorem w_rest : rest_1_c.before args0 about1 = true := by decide +kernel
set_option maxRecDepth 65536 in
theorem w_case : (Jvm.Cond.and given_1 narrow_1).before args0 about1 = true := by decide +kernel
set_option maxRecDepth 65536 in
theorem w_consts : constsHeld consts_1 about1 := Jvm.Lit.constsHeldB_iff.mp (by decide +kernel)
theorem w_applies : (headSpec (Jvm.Cond.code x code maxLocals ret :: tables_1) room_1).applies x e0.platform about1 = true :=
  (Spec.applies_iff w_frames).mpr ⟨w_running, w_runnable, w_alone, w_named, w_hears, w_ripe, w_room, w_tables⟩
theorem atStart : AtStart classFile x code maxLocals ret World_1 tables_1 room_1 Calls_1 rest_1 Pre_1 launch0 p0 e0 about1 theMethod args0 below0 :=
  ⟨lists_1, trivial, launch0.admits_env _ _ _, launch0.least_env, fairChoices_fair.cas, fairChoices_fair.clock, w_frames, w_args, w_heap, w_applies, ⟨w_consts, trivial⟩, w_rest, w_case⟩
end start1
theorem witness_1 : WitnessClaimed_1 := ⟨start1.p0, start1.e0, start1.about1, start1.theMethod, start1.args0, start1.below0, start1.atStart⟩
end Jvm.Pilot.@@N@@
