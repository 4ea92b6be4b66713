import JvmDerived
import JvmDerived.Pilot.@@N@@Statement
import JvmDerived.Pilot.@@N@@Code
set_option linter.unusedVariables false
set_option linter.unusedSimpArgs false
namespace Jvm.Pilot.@@N@@
open Jvm Jvm.ClassFile Sem Op Lib Jvm.Free Jvm.Stand Jvm.LawKit Jvm.RoadKit Bundle Jvm.Pilot.@@N@@.Jvm.D
/-- whatever is reached from v is reached from u -/
abbrev To (tb : Tables) (e : Env) (below : List Frame) (u v : State) : Prop := ∀ t, Steps tb e below v t → Steps tb e below u t
/-- a body's contract: called with as' over the heap h0 it returns, and Q holds of what it returns, of the heap and of the places written -/
abbrev Con (l : Launch) (Z : State) (y : MethodName) (bs : ByteArray) (ml : Nat) (rt : Option FieldType) (ws : List Jvm.Cond) (R : Room) (as' : Array Value) (h0 : Heap) (Q : Option Value → Heap → List Loc → Prop) : Prop :=
  MetFree l y (head1 (Jvm.Cond.code y bs ml rt :: ws) R) (fun a U => a = as' ∧ Z.Warmed39 U.vm ∧ U.heap = h0) (fun _ _ _ _ _ => True) (fun _ U o U' => ∃ v L, o = .returned v ∧ Q v U'.heap L ∧ FrameEnd U o U' L R.cells R.slots)
/-- the walk from S0 has ended well -/
def Fin (p : Program) (e : Env) (below : List Frame) (s : State) (R : Room) (S0 : State) (Q : Option Value → Heap → List Loc → Prop) : Prop :=
  ∃ s₂ o, Steps p.tables e below S0 s₂ ∧ s₂.status = .running ∧ Ended s₂ below o ∧ ∃ v L, o = .returned v ∧ Q v s₂.heap L ∧ FrameEnd s o s₂ L R.cells R.slots
def slotsOf : List Value → List Slot
  | [] => []
  | v :: r => if v.category = 2 then .val v :: .second :: slotsOf r else .val v :: slotsOf r
theorem foldl_slots (L : List Value) : ∀ acc : Array Slot, L.foldl (fun acc v => if v.category = 2 then (acc.push (Slot.val v)).push Slot.second else acc.push (Slot.val v)) acc = acc ++ (slotsOf L).toArray := by
  induction L with
  | nil => intro acc; simp [slotsOf]
  | cons v r ih =>
    intro acc
    rw [List.foldl_cons, ih]
    by_cases h : v.category = 2
    · simp [slotsOf, h]
    · simp [slotsOf, h]
theorem entry_eq {m : MethodId} {L : List Value} {ml : Nat} {Ls : List Slot} (h : slotsOf L ++ List.replicate (ml - (slotsOf L).length) Slot.unset = Ls) : entryFrame m L.toArray ml = mkF m 0 Ls.toArray [] := by
  subst h
  have e : argsToLocals L.toArray ml = (slotsOf L ++ List.replicate (ml - (slotsOf L).length) Slot.unset).toArray := by
    show (L.toArray.foldl (init := #[]) fun acc v => if v.category = 2 then (acc.push (Slot.val v)).push Slot.second else acc.push (Slot.val v)) ++ Array.replicate (ml - (L.toArray.foldl (init := #[]) fun acc v => if v.category = 2 then (acc.push (Slot.val v)).push Slot.second else acc.push (Slot.val v)).size) Slot.unset = _
    rw [List.foldl_toArray, foldl_slots]
    simp
  show ({ method := m, pc := 0, locals := argsToLocals L.toArray ml, stack := [], locked := none } : JFrame) = _
  rw [e]
section Own
variable {p : Program} {l : Launch} {e : Env} {R : Room} {s : State} {m : MethodId} {args : Array Value} {below : List Frame} {meth : Method} {c : Code} {T S0 : State} {locs : List Loc} {cells slots : Nat} {Z : State} {a0 : Array Value} {h : Heap} {Q : Option Value → Heap → List Loc → Prop}
theorem enter {y : MethodName} {bs : ByteArray} {ml : Nat} {rt : Option FieldType} {ws : List Jvm.Cond} {as' : Array Value} {h0 : Heap} {Ls : Array Slot} (hpl : plainFor y = true) (hef : ∀ m, entryFrame m as' ml = mkF m 0 Ls [])
    (body : ∀ (p : Program) (e : Env) (s : State) (m : MethodId) (below : List Frame) (meth : Method) (c : Code) (s₁ S0 : State), p.tables.exec = Jvm.exec → c.code = bs → c.maxLocals = ml → meth.sig.returnType = rt → meth.locks = false → meth.name = y.name →
      s.vm.findClass y.cls = some m.cls → Z.Warmed39 s.vm → Stand p l e R s m as' below meth c s₁ [] 0 0 → s₁.heap = h0 → To p.tables e below S0 (s₁.setTop (mkF m 0 Ls [])) → Fin p e below s R S0 Q) : Con l Z y bs ml rt ws R as' h0 Q := by
  refine MetFree.of_bodySF hpl hisR ?_
  intro p e s m args below meth c s₁ Bd hml0 hP hK
  obtain ⟨rfl, hZ, hh⟩ := hP
  exact body p e s m below meth c s₁ _ Bd.exec Bd.bytes hml0 Bd.returns Bd.notSynchronized (name_of_methodNamed Bd.named Bd.method).1 (findClass_of_methodNamed Bd.named) hZ (Stand.of_body Bd) (by rw [← hh, Bd.state]; rfl) (fun t k => castTop (hef m) k)
theorem retV (X : Stand p l e R s m args below meth c T locs cells slots) (hx : p.tables.exec = Jvm.exec) {pc : Nat} {Ls : Array Slot} {w : Value} {t : FieldType} {i : Instr} {rest : List Value} (hret : meth.sig.returnType = some t) (hlk : meth.locks = false) (hn : narrow t w = w)
    (hi : (i = .ireturn ∧ (t = .int ∨ t = .boolean ∨ t = .byte ∨ t = .char ∨ t = .short) ∧ ∃ z, w = .int z) ∨ (i = .lreturn ∧ t = .long ∧ ∃ z, w = .long z) ∨ (i = .dreturn ∧ t = .double ∧ ∃ z, w = .double z) ∨ (i = .freturn ∧ t = .float ∧ ∃ z, w = .float z) ∨ (i = .areturn ∧ t.isReference = true ∧ w.isRef = true))
    (hd : decode c.code pc = .ok (i, 1)) (k : To p.tables e below S0 (T.setTop (mkF m pc Ls (w :: rest)))) (hQ : Q (some w) T.heap locs) (hc : cells ≤ R.cells) (hs : slots ≤ R.slots) : Fin p e below s R S0 Q := by
  obtain ⟨fs, hr, hrun, hended, hW, hsame⟩ := X.leave (v := some w) (fun h => by rw [hret] at h; cases h) hlk
  exact ⟨_, _, k _ (retOut X hx hret hn hi hd hr), hrun, hended, _, _, rfl, hQ, ⟨_, rfl⟩, hW, hsame.mono hc hs⟩
theorem retInt (X : Stand p l e R s m args below meth c T locs cells slots) (hx : p.tables.exec = Jvm.exec) {pc : Nat} {Ls : Array Slot} {z : Int32} {t : FieldType} {rest : List Value} (hret : meth.sig.returnType = some t) (hlk : meth.locks = false) (ht : t = .int ∨ t = .boolean ∨ t = .byte ∨ t = .char ∨ t = .short) (hn : narrow t (.int z) = .int z)
    (hd : decode c.code pc = .ok (.ireturn, 1)) (k : To p.tables e below S0 (T.setTop (mkF m pc Ls (.int z :: rest)))) (hQ : Q (some (.int z)) T.heap locs) (hc : cells ≤ R.cells) (hs : slots ≤ R.slots) : Fin p e below s R S0 Q :=
  retV X hx hret hlk hn (Or.inl ⟨rfl, ht, z, rfl⟩) hd k hQ hc hs
theorem retRef (X : Stand p l e R s m args below meth c T locs cells slots) (hx : p.tables.exec = Jvm.exec) {pc : Nat} {Ls : Array Slot} {w : Value} {t : FieldType} {rest : List Value} (hret : meth.sig.returnType = some t) (hlk : meth.locks = false) (ht : t.isReference = true) (hw : w.isRef = true)
    (hd : decode c.code pc = .ok (.areturn, 1)) (k : To p.tables e below S0 (T.setTop (mkF m pc Ls (w :: rest)))) (hQ : Q (some w) T.heap locs) (hc : cells ≤ R.cells) (hs : slots ≤ R.slots) : Fin p e below s R S0 Q :=
  retV X hx hret hlk (by rcases ref_cases hw with rfl | ⟨z, rfl⟩ <;> cases t <;> first | rfl | (cases ht; done)) (Or.inr (Or.inr (Or.inr (Or.inr ⟨rfl, ht, hw⟩)))) hd k hQ hc hs
theorem retLong (X : Stand p l e R s m args below meth c T locs cells slots) (hx : p.tables.exec = Jvm.exec) {pc : Nat} {Ls : Array Slot} {z : Int64} {rest : List Value} (hret : meth.sig.returnType = some .long) (hlk : meth.locks = false)
    (hd : decode c.code pc = .ok (.lreturn, 1)) (k : To p.tables e below S0 (T.setTop (mkF m pc Ls (.long z :: rest)))) (hQ : Q (some (.long z)) T.heap locs) (hc : cells ≤ R.cells) (hs : slots ≤ R.slots) : Fin p e below s R S0 Q :=
  retV X hx hret hlk rfl (Or.inr (Or.inl ⟨rfl, rfl, z, rfl⟩)) hd k hQ hc hs
theorem retVoid (X : Stand p l e R s m args below meth c T locs cells slots) (hx : p.tables.exec = Jvm.exec) {pc : Nat} {Ls : Array Slot} (hret : meth.sig.returnType = none) (hlk : meth.locks = false)
    (hd : decode c.code pc = .ok (.return_, 1)) (k : To p.tables e below S0 (T.setTop (mkF m pc Ls []))) (hQ : Q none T.heap locs) (hc : cells ≤ R.cells) (hs : slots ≤ R.slots) : Fin p e below s R S0 Q := by
  obtain ⟨fs, hr, hrun, hended, hW, hsame⟩ := X.leave (v := none) (fun _ => rfl) hlk
  exact ⟨_, _, k _ (X.returnOut hx hret hd hr), hrun, hended, _, _, rfl, hQ, ⟨_, rfl⟩, hW, hsame.mono hc hs⟩
theorem backC {y : MethodName} {bs : ByteArray} {ml : Nat} {rt : Option FieldType} {rm : Room} {len W : Nat} {as' : Array Value} (hM : Con l Z y bs ml rt [] rm as' h Q) (hZ : Z.Warmed39 s.vm) (wc : (Cond.code y bs ml rt).before a0 Z = true) (wz : (Cond.initialized y.cls).before a0 Z = true) (hf : rm.frames + 1 ≤ R.frames) (hl : W + (ml + 11) + rm.locals ≤ R.locals) :
    Back l R p e below s args y len W (fun A a => a = as' ∧ A.U.heap = h ∧ A.cells + rm.cells ≤ R.cells ∧ A.slots + rm.slots ≤ R.slots) (fun A _ v B => ∃ L, Q v B.U.heap L ∧ B.locs = A.locs ++ L ∧ B.cells = A.cells + rm.cells ∧ B.slots = A.slots + rm.slots) :=
  backOf (Q := Q) hM hZ wc wz hf hl
/-! calls by a contract -/
theorem callS' (X : Stand p l e R s m args below meth c T locs cells slots) (hx : p.tables.exec = Jvm.exec) (hZ : Z.Warmed39 s.vm) {own : String} {index : Nat} {y : MethodName} {bs : ByteArray} {ml : Nat} {rt : Option FieldType} {cc ss W : Nat} {as' : Array Value} {Q : Option Value → Heap → List Loc → Prop}
    (hown : s.vm.findClass own = some m.cls) (w1 : (Cond.methodLink own index y).before a0 Z = true) (w2 : (Cond.static y).before a0 Z = true) (w3 : (Cond.initialized y.cls).before a0 Z = true) (w4 : (Cond.code y bs ml rt).before a0 Z = true) (hy : y.cls ≠ "java/lang/invoke/MethodHandle" ∧ y.cls ≠ "java/lang/invoke/VarHandle")
    (hK : Back l R p e below s args y 3 W (fun A a => a = as' ∧ A.U.heap = h ∧ A.cells + cc ≤ R.cells ∧ A.slots + ss ≤ R.slots) (fun A _ v B => ∃ L, Q v B.U.heap L ∧ B.locs = A.locs ++ L ∧ B.cells = A.cells + cc ∧ B.slots = A.slots + ss)) (eT : T.heap = h) {pc : Nat} {Ls : Array Slot} {st argsL rest : List Value} (hst : st = argsL.reverse ++ rest) (has : argsL.toArray = as') {ps : List FieldType} {r : Option FieldType} (hpd : parseMethodDescriptor y.desc = some ⟨ps, r⟩) (hlen : argsL.length = ps.length) (hsize : Ls.size = c.maxLocals)
    (hd : decode c.code pc = .ok (.invokestatic index, 3)) (hW : (rest.map fun v => v.category).sum ≤ W) (hc : cells + cc ≤ R.cells) (hs : slots + ss ≤ R.slots) (k : To p.tables e below S0 (T.setTop (mkF m pc Ls st))) :
    ∃ v T' L, Stand p l e R s m args below meth c T' (locs ++ L) (cells + cc) (slots + ss) ∧ Q v T'.heap L ∧ To p.tables e below S0 (T'.setTop (mkF m (pc + 3) Ls (v.toList ++ rest))) := by
  obtain ⟨v, vm₁, ⟨T', L', k', n'⟩, -, X', ⟨L, hQ, q1, q2, q3⟩, stp⟩ := Jvm.LawKit.callS X hx hown (mvT hZ w1) (mvT hZ w2) (mvT hZ w3) (mvT hZ w4) hy hK (g := mkF m pc Ls st) rfl hsize (argsL := argsL) (rest := rest) (lenOf hpd hlen) hst (by show 2 * 0 + _ ≤ _; omega) hd (fun _ _ => ⟨has, eT, hc, hs⟩)
  dsimp only [Pt.U, Pt.locs, Pt.cells, Pt.slots] at X' q1 q2 q3 stp hQ
  subst q1 q2 q3
  exact ⟨v, T', L, X', hQ, fun t q => k t (stp t q)⟩
theorem callC' (X : Stand p l e R s m args below meth c T locs cells slots) (hx : p.tables.exec = Jvm.exec) (hZ : Z.Warmed39 s.vm) {own : String} {index : Nat} {y : MethodName} {bs : ByteArray} {ml : Nat} {cc ss W : Nat} {as' : Array Value} {Q : Option Value → Heap → List Loc → Prop}
    (hy1 : y.name = "<init>") (hown : s.vm.findClass own = some m.cls) (w1 : (Cond.methodLink own index y).before a0 Z = true) (w2 : (Cond.instanceMethod y).before a0 Z = true) (w4 : (Cond.code y bs ml none).before a0 Z = true) (hy : y.cls ≠ "java/lang/invoke/MethodHandle" ∧ y.cls ≠ "java/lang/invoke/VarHandle")
    (hK : Back l R p e below s args y 3 W (fun A a => a = as' ∧ A.U.heap = h ∧ A.cells + cc ≤ R.cells ∧ A.slots + ss ≤ R.slots) (fun A _ v B => ∃ L, Q v B.U.heap L ∧ B.locs = A.locs ++ L ∧ B.cells = A.cells + cc ∧ B.slots = A.slots + ss)) (eT : T.heap = h) {pc : Nat} {Ls : Array Slot} {a : Addr} {st argsL rest : List Value} (hst : st = argsL.reverse ++ .ref a :: rest) (has : (.ref a :: argsL).toArray = as') {ps : List FieldType} {r : Option FieldType} (hpd : parseMethodDescriptor y.desc = some ⟨ps, r⟩) (hlen : argsL.length = ps.length) (hsize : Ls.size = c.maxLocals)
    (hd : decode c.code pc = .ok (.invokespecial index, 3)) (hW : (rest.map fun v => v.category).sum ≤ W) (hc : cells + cc ≤ R.cells) (hs : slots + ss ≤ R.slots) (k : To p.tables e below S0 (T.setTop (mkF m pc Ls st))) :
    ∃ v T' L, Stand p l e R s m args below meth c T' (locs ++ L) (cells + cc) (slots + ss) ∧ Q v T'.heap L ∧ To p.tables e below S0 (T'.setTop (mkF m (pc + 3) Ls (v.toList ++ rest))) := by
  obtain ⟨v, vm₁, ⟨T', L', k', n'⟩, -, X', ⟨L, hQ, q1, q2, q3⟩, stp⟩ := X.specialBack hx hy1 hown (mvT hZ w1) (mvT hZ w2) (mvT hZ w4) hy hK (g := mkF m pc Ls st) rfl hsize (Steps.refl _) (a := a) (argsL := argsL) (rest := rest) (lenOf hpd hlen) hst (by show 2 * 0 + _ ≤ _; omega) hd (fun _ _ => ⟨has, eT, hc, hs⟩)
  dsimp only [Pt.U, Pt.locs, Pt.cells, Pt.slots] at X' q1 q2 q3 stp hQ
  subst q1 q2 q3
  exact ⟨v, T', L, X', hQ, fun t q => k t (stp.trans q)⟩
theorem callV' (X : Stand p l e R s m args below meth c T locs cells slots) (hx : p.tables.exec = Jvm.exec) (hZ : Z.Warmed39 s.vm) {own C : String} {index : Nat} {y z : MethodName} {cc ss W : Nat} {as' : Array Value} {Q : Option Value → Heap → List Loc → Prop}
    (hown : s.vm.findClass own = some m.cls) (w1 : (Cond.methodLink own index y).before a0 Z = true) (w2 : (Cond.declares y).before a0 Z = true) (hnf : NotFace s y) (w5 : (Cond.selects C y z).before a0 Z = true) (w6 : (Cond.instanceMethod z).before a0 Z = true)
    (hy : y.cls ≠ "java/lang/invoke/MethodHandle" ∧ y.cls ≠ "java/lang/invoke/VarHandle") {b : Addr} (E : Exa Z h b C)
    (hK : Back l R p e below s args z 3 W (fun A a => a = as' ∧ A.U.heap = h ∧ A.cells + cc ≤ R.cells ∧ A.slots + ss ≤ R.slots) (fun A _ v B => ∃ L, Q v B.U.heap L ∧ B.locs = A.locs ++ L ∧ B.cells = A.cells + cc ∧ B.slots = A.slots + ss)) (eT : T.heap = h) {pc : Nat} {Ls : Array Slot} {st argsL rest : List Value} (hst : st = argsL.reverse ++ .ref b :: rest) (has : (.ref b :: argsL).toArray = as') {ps : List FieldType} {r : Option FieldType} (hpd : parseMethodDescriptor y.desc = some ⟨ps, r⟩) (hlen : argsL.length = ps.length) (hsize : Ls.size = c.maxLocals)
    (hd : decode c.code pc = .ok (.invokevirtual index, 3)) (hW : (rest.map fun v => v.category).sum ≤ W) (hc : cells + cc ≤ R.cells) (hs : slots + ss ≤ R.slots) (k : To p.tables e below S0 (T.setTop (mkF m pc Ls st))) :
    ∃ v T' L, Stand p l e R s m args below meth c T' (locs ++ L) (cells + cc) (slots + ss) ∧ Q v T'.heap L ∧ To p.tables e below S0 (T'.setTop (mkF m (pc + 3) Ls (v.toList ++ rest))) := by
  obtain ⟨cq, kq, qa, qb, qc⟩ := isOf hZ eT E
  obtain ⟨v, vm₁, ⟨T', L', k', n'⟩, -, X', ⟨L, hQ, q1, q2, q3⟩, stp⟩ := X.virtualBack hx hown (mvT hZ w1) (mvT hZ w2) hnf (mvT hZ w5) (mvT hZ w6) hy hK qa qc (g := mkF m pc Ls st) rfl hsize (Steps.refl _) (argsL := argsL) (rest := rest) (lenOf hpd hlen) hst (by show 2 * 0 + _ ≤ _; omega) hd (fun _ _ => ⟨has, eT, hc, hs⟩)
  dsimp only [Pt.U, Pt.locs, Pt.cells, Pt.slots] at X' q1 q2 q3 stp hQ
  subst q1 q2 q3
  exact ⟨v, T', L, X', hQ, fun t q => k t (stp.trans q)⟩
theorem callU' (X : Stand p l e R s m args below meth c T locs cells slots) (hx : p.tables.exec = Jvm.exec) (hZ : Z.Warmed39 s.vm) {own C owner : String} {index : Nat} {y z : MethodName} {cc ss W : Nat} {as' : Array Value} {Q : Option Value → Heap → List Loc → Prop}
    (hown : s.vm.findClass own = some m.cls) (w1 : (Cond.methodLink own index y).before a0 Z = true) (w7 : (Cond.sameMethod y.cls owner y.name y.desc).before a0 Z = true) (w2 : (Cond.declares ⟨owner, y.name, y.desc⟩).before a0 Z = true) (w5 : (Cond.selects C y z).before a0 Z = true) (w6 : (Cond.instanceMethod z).before a0 Z = true)
    (hy : owner ≠ "java/lang/invoke/MethodHandle" ∧ owner ≠ "java/lang/invoke/VarHandle") {b : Addr} (E : Exa Z h b C)
    (hK : Back l R p e below s args z 3 W (fun A a => a = as' ∧ A.U.heap = h ∧ A.cells + cc ≤ R.cells ∧ A.slots + ss ≤ R.slots) (fun A _ v B => ∃ L, Q v B.U.heap L ∧ B.locs = A.locs ++ L ∧ B.cells = A.cells + cc ∧ B.slots = A.slots + ss)) (eT : T.heap = h) {pc : Nat} {Ls : Array Slot} {st argsL rest : List Value} (hst : st = argsL.reverse ++ .ref b :: rest) (has : (.ref b :: argsL).toArray = as') {ps : List FieldType} {r : Option FieldType} (hpd : parseMethodDescriptor y.desc = some ⟨ps, r⟩) (hlen : argsL.length = ps.length) (hsize : Ls.size = c.maxLocals)
    (hd : decode c.code pc = .ok (.invokevirtual index, 3)) (hW : (rest.map fun v => v.category).sum ≤ W) (hc : cells + cc ≤ R.cells) (hs : slots + ss ≤ R.slots) (k : To p.tables e below S0 (T.setTop (mkF m pc Ls st))) :
    ∃ v T' L, Stand p l e R s m args below meth c T' (locs ++ L) (cells + cc) (slots + ss) ∧ Q v T'.heap L ∧ To p.tables e below S0 (T'.setTop (mkF m (pc + 3) Ls (v.toList ++ rest))) := by
  obtain ⟨cq, kq, qa, qb, qc⟩ := isOf hZ eT E
  obtain ⟨v, vm₁, ⟨T', L', k', n'⟩, -, X', ⟨L, hQ, q1, q2, q3⟩, stp⟩ := X.virtualBackUp hx hown (mvT hZ w1) (mvT hZ w7) (mvT hZ w2) hy (mvT hZ w5) (mvT hZ w6) hK qa qc (g := mkF m pc Ls st) rfl hsize (Steps.refl _) (argsL := argsL) (rest := rest) (lenOf hpd hlen) hst (by show 2 * 0 + _ ≤ _; omega) hd (fun _ _ => ⟨has, eT, hc, hs⟩)
  dsimp only [Pt.U, Pt.locs, Pt.cells, Pt.slots] at X' q1 q2 q3 stp hQ
  subst q1 q2 q3
  exact ⟨v, T', L, X', hQ, fun t q => k t (stp.trans q)⟩
theorem callI' (X : Stand p l e R s m args below meth c T locs cells slots) (hx : p.tables.exec = Jvm.exec) (hZ : Z.Warmed39 s.vm) {own C : String} {index count : Nat} {y z : MethodName} {cc ss W : Nat} {as' : Array Value} {Q : Option Value → Heap → List Loc → Prop}
    (hown : s.vm.findClass own = some m.cls) (w1 : (Cond.methodLink own index y).before a0 Z = true) (w2 : (Cond.declares y).before a0 Z = true) (w7 : (Cond.interfaceMethod y.cls y.cls y.name y.desc).before a0 Z = true) (hd7 : ((Cond.interfaceMethod y.cls y.cls y.name y.desc).onTables && (Cond.interfaceMethod y.cls y.cls y.name y.desc).keepsFace) = true) (w5 : (Cond.selects C y z).before a0 Z = true) (w6 : (Cond.instanceMethod z).before a0 Z = true) (w8 : (Cond.publicMethod z).before a0 Z = true) (w9 : (Cond.unhidden C y.name y.desc).before a0 Z = true) (w10 : (Cond.castable C y.cls).before a0 Z = true)
    (hy : y.cls ≠ "java/lang/invoke/MethodHandle" ∧ y.cls ≠ "java/lang/invoke/VarHandle") {b : Addr} (E : Exa Z h b C)
    (hK : Back l R p e below s args z 5 W (fun A a => a = as' ∧ A.U.heap = h ∧ A.cells + cc ≤ R.cells ∧ A.slots + ss ≤ R.slots) (fun A _ v B => ∃ L, Q v B.U.heap L ∧ B.locs = A.locs ++ L ∧ B.cells = A.cells + cc ∧ B.slots = A.slots + ss)) (eT : T.heap = h) {pc : Nat} {Ls : Array Slot} {st argsL rest : List Value} (hst : st = argsL.reverse ++ .ref b :: rest) (has : (.ref b :: argsL).toArray = as') {ps : List FieldType} {r : Option FieldType} (hpd : parseMethodDescriptor y.desc = some ⟨ps, r⟩) (hlen : argsL.length = ps.length) (hsize : Ls.size = c.maxLocals)
    (hd : decode c.code pc = .ok (.invokeinterface index count, 5)) (hW : (rest.map fun v => v.category).sum ≤ W) (hc : cells + cc ≤ R.cells) (hs : slots + ss ≤ R.slots) (k : To p.tables e below S0 (T.setTop (mkF m pc Ls st))) :
    ∃ v T' L, Stand p l e R s m args below meth c T' (locs ++ L) (cells + cc) (slots + ss) ∧ Q v T'.heap L ∧ To p.tables e below S0 (T'.setTop (mkF m (pc + 5) Ls (v.toList ++ rest))) := by
  obtain ⟨cq, kq, qa, qb, qc⟩ := isOf hZ eT E
  obtain ⟨v, vm₁, ⟨T', L', k', n'⟩, -, X', ⟨L, hQ, q1, q2, q3⟩, stp⟩ := X.interfaceBack hx hown (mvT hZ w1) (mvT hZ w2) (mvT hZ w7 hd7) (mvT hZ w5) (mvT hZ w6) (mvT hZ w8) (mvT hZ w9) (mvT hZ w10) hy hK qa qb qc (g := mkF m pc Ls st) rfl hsize (Steps.refl _) (argsL := argsL) (rest := rest) (lenOf hpd hlen) hst (by show 2 * 0 + _ ≤ _; omega) hd (fun _ _ => ⟨has, eT, hc, hs⟩)
  dsimp only [Pt.U, Pt.locs, Pt.cells, Pt.slots] at X' q1 q2 q3 stp hQ
  subst q1 q2 q3
  exact ⟨v, T', L, X', hQ, fun t q => k t (stp.trans q)⟩
theorem staOld {n0 : Nat} {C n d : String} {v : Value} (F : Sta Z Z.heap C n d v) (O : Old Z n0 h) : Sta Z h C n d v := F.ext O.2
theorem exaOld {n0 : Nat} {C : String} {a : Addr} (F : Exa Z Z.heap a C) (O : Old Z n0 h) : Exa Z h a C := F.ext O.2
theorem fldOld {n0 : Nat} {C n d : String} {a : Addr} {v : Value} (F : Fld Z Z.heap a C n d v) (O : Old Z n0 h) : Fld Z h a C n d v := F.ext O.2
theorem joinT (X : Stand p l e R s m args below meth c T locs cells slots) (eT : T.heap = h) (F : JFrame) {G : Prop} (br : (∀ T', Stand p l e R s m args below meth c T' locs cells slots → T'.heap = h → To p.tables e below S0 (T'.setTop F) → G) → G)
    (rest : ∀ T', Stand p l e R s m args below meth c T' locs cells slots → T'.heap = h → To p.tables e below S0 (T'.setTop F) → G) : G := br rest
theorem own_m255 (c : Int32) : ¬ (c &&& 255) < (0 : Int32) ∧ ¬ (255 : Int32) < (c &&& 255) := by
  have h : (c &&& 255).toBitVec.toNat ≤ 255 := by
    rw [Int32.toBitVec_and, BitVec.toNat_and]; exact Nat.and_le_right
  have h2 : (c &&& 255).toInt = ((c &&& 255).toBitVec.toNat : Int) := by
    show (c &&& 255).toBitVec.toInt = _
    rw [BitVec.toInt_eq_toNat_of_lt (by omega)]
  rw [Int32.lt_iff_toInt_lt, Int32.lt_iff_toInt_lt, h2, show (0 : Int32).toInt = 0 from rfl, show (255 : Int32).toInt = 255 by decide]
  omega
theorem own_and255_of {v : Int32} (h : ¬ v < (0 : Int32) ∧ ¬ (255 : Int32) < v) : v &&& 255 = v := by
  rw [Int32.lt_iff_toInt_lt, Int32.lt_iff_toInt_lt, show (0 : Int32).toInt = 0 from rfl, show (255 : Int32).toInt = 255 by decide] at h
  have e : v.toInt = (v.toBitVec.toNat : Int) := by
    show v.toBitVec.toInt = _
    have h1 : ¬ v.toBitVec.toInt < 0 := h.1
    rw [BitVec.toInt_eq_toNat_cond] at h1 ⊢
    split <;> rename_i q
    · rfl
    · rw [if_neg q] at h1; have := v.toBitVec.isLt; omega
  apply Int32.toBitVec_inj.mp
  apply BitVec.eq_of_toNat_eq
  rw [Int32.toBitVec_and, BitVec.toNat_and, show (255 : Int32).toBitVec.toNat = 2 ^ 8 - 1 from rfl, Nat.and_two_pow_sub_one_eq_mod]
  omega
theorem own_narc {v : Int32} (h : ¬ v < (0 : Int32) ∧ ¬ (255 : Int32) < v) : nar .char v = v := by
  have e := own_and255_of h
  rw [← e]; exact i2c_mask v
theorem own_fitc {v : Int32} (h : ¬ v < (0 : Int32) ∧ ¬ (255 : Int32) < v) : fits .char (.int v) = true := by
  have q := fits_nar_char v; rw [own_narc h] at q; exact q
theorem own_b255 {v : Int32} (h : ¬ v < (0 : Int32) ∧ ¬ (255 : Int32) < v) : (nar .byte (v.toInt8.toInt32)) &&& (255 : Int32) = v := by
  refine Eq.trans ?_ (own_and255_of h)
  have e : (v.toInt8.toInt32).toInt8 = v.toInt8 := by
    apply Int8.toBitVec_inj.mp; rw [Int32.toBitVec_toInt8, Int8.toBitVec_toInt32, BitVec.signExtend_eq_setWidth_of_le _ (by omega)]
    apply BitVec.eq_of_toNat_eq
    rw [BitVec.toNat_setWidth, BitVec.toNat_signExtend]
    have := v.toInt8.toBitVec.isLt
    simp only [BitVec.toNat_setWidth]
    split <;> omega
  show (v.toInt8.toInt32).toInt8.toInt32 &&& 255 = v &&& 255
  rw [e]
  apply Int32.toBitVec_inj.mp
  apply BitVec.eq_of_toNat_eq
  rw [Int32.toBitVec_and, Int32.toBitVec_and, BitVec.toNat_and, BitVec.toNat_and, show (255 : Int32).toBitVec.toNat = 2 ^ 8 - 1 from rfl, Nat.and_two_pow_sub_one_eq_mod, Nat.and_two_pow_sub_one_eq_mod, Int8.toBitVec_toInt32, Int32.toBitVec_toInt8, BitVec.toNat_signExtend]
  have h1 := v.toBitVec.isLt
  simp only [BitVec.toNat_setWidth, BitVec.toNat_signExtend]
  split <;> split <;> omega
theorem own_narrowc (x : Int32) : narrow .char (.int (x &&& 255)) = .int (x &&& 255) := congrArg Value.int (own_narc (own_m255 x))
theorem adr_lt {a b : Nat} (h : @LT.lt Nat instLTNat a b) : a < b := h
theorem adr_ne {a b : Nat} (h : ¬ a = b) : a ≠ b := h
theorem own_nz {s : State} {args : Array Value} {t : Term} {z : Int32} (e : t.eval args s none [] s = some (.int z)) (h : (Jvm.Cond.not (.eq t (.int 0))).value args s none s [] = some true) : ¬ z = (0 : Int32) := fun q => by
  subst q; have h2 := not_v h; simp [Cond.value, e, Term.eval] at h2
theorem fits_isref {C : String} {w : Value} (h : w.isRef = true) : fits (.object C) w = true := by rcases ref_cases h with rfl | ⟨z, rfl⟩ <;> rfl
theorem narrow_ref {t : FieldType} {w : Value} (h : w.isRef = true) : narrow t w = w := by rcases ref_cases h with rfl | ⟨z, rfl⟩ <;> cases t <;> rfl
end Own
/-! the wide family: walks that load String constants -/
section Wide
variable {p : Program} {l : Launch} {e : Env} {R : Room} {s : State} {m : MethodId} {args : Array Value} {below : List Frame} {meth : Method} {c : Code} {T S0 : State} {locs : List Loc} {cells slots : Nat} {Z : State} {a0 : Array Value} {h h0 : Heap} {Q : Option Value → Heap → List Loc → Prop} {EL : List (String × Nat)} {vm vm0 : Vm} {sf : List Addr} {n : Nat}
abbrev ConW (l : Launch) (Z : State) (EL : List (String × Nat)) (y : MethodName) (bs : ByteArray) (ml : Nat) (rt : Option FieldType) (ws : List Jvm.Cond) (R : Room) (as' : Array Value) (h0 : Heap) (sf : List Addr) (Q : Option Value → Heap → List Loc → Prop) : Prop :=
  MetFree l y (head1 (Jvm.Cond.code y bs ml rt :: ws) R) (fun a U => a = as' ∧ Z.Warmed39 U.vm ∧ U.heap = h0 ∧ CHv Z EL U.vm h0 ∧ ∀ x ∈ sf, Safe Z EL U.vm h0 x) (fun _ _ _ _ _ => True)
    (fun _ U o U' => ∃ v L, o = .returned v ∧ Q v U'.heap L ∧ CHr Z EL U.vm U.heap U'.vm U'.heap ∧ ReturnedEndW U o U' L R.cells R.slots)
def FinW (p : Program) (e : Env) (below : List Frame) (s : State) (R : Room) (S0 : State) (Z : State) (EL : List (String × Nat)) (vm0 : Vm) (h0 : Heap) (Q : Option Value → Heap → List Loc → Prop) : Prop :=
  ∃ s₂ o, Steps p.tables e below S0 s₂ ∧ s₂.status = .running ∧ Ended s₂ below o ∧ ∃ v L, o = .returned v ∧ Q v s₂.heap L ∧ CHr Z EL vm0 h0 s₂.vm s₂.heap ∧ ReturnedEndW s o s₂ L R.cells R.slots
theorem enterW {y : MethodName} {bs : ByteArray} {ml : Nat} {rt : Option FieldType} {ws : List Jvm.Cond} {as' : Array Value} {Ls : Array Slot} (hpl : plainFor y = true) (hef : ∀ m, entryFrame m as' ml = mkF m 0 Ls [])
    (body : ∀ (p : Program) (e : Env) (s : State) (m : MethodId) (below : List Frame) (meth : Method) (c : Code) (s₁ S0 : State) (vm0 : Vm), p.tables.exec = Jvm.exec → c.code = bs → c.maxLocals = ml → meth.sig.returnType = rt → meth.locks = false → meth.name = y.name →
      vm0.findClass y.cls = some m.cls → Z.Warmed39 vm0 → Stand p l e R (s.setVm vm0) m as' below meth c s₁ [] 0 0 → s₁.heap = h0 → To p.tables e below S0 (s₁.setTop (mkF m 0 Ls [])) → CHr Z EL vm0 h0 vm0 h0 → (∀ x ∈ sf, Safe Z EL vm0 h0 x) → s.Since vm0 h0.size → FinW p e below s R S0 Z EL vm0 h0 Q) : ConW l Z EL y bs ml rt ws R as' h0 sf Q := by
  refine MetFree.of_bodySF hpl hisR ?_
  intro p e s m args below meth c s₁ Bd hml0 hP hK
  obtain ⟨rfl, hZ, hh, hC, hsf⟩ := hP
  subst hh
  exact body p e s m below meth c s₁ _ s.vm Bd.exec Bd.bytes hml0 Bd.returns Bd.notSynchronized (name_of_methodNamed Bd.named Bd.method).1 (findClass_of_methodNamed Bd.named) hZ (show Stand p l e R s m _ below meth c s₁ [] 0 0 from Stand.of_body Bd) (by rw [Bd.state]; rfl) (fun t k => castTop (hef m) k) (CHr.refl hC) hsf ((State.WarmedH.refl s).since _)
theorem endW_mono {s t : State} {o : Outcome} {L : List Loc} {k n k' n' : Nat} (h : ReturnedEndW s o t L k n) (hk : k ≤ k') (hn : n ≤ n') : ReturnedEndW s o t L k' n' := ⟨h.1, h.2.1, h.2.2.1, h.2.2.2.mono hk hn⟩
theorem retVW (X : Stand p l e R (s.setVm vm) m args below meth c T locs cells slots) (hx : p.tables.exec = Jvm.exec) (hZ : Z.Warmed39 vm) (hEL : EW Z a0 EL) (hS : s.Since vm n) (hn0 : n ≤ h.size) (C : CHr Z EL vm0 h0 vm h) (eT : T.heap = h) {pc : Nat} {Ls : Array Slot} {w : Value} {t : FieldType} {i : Instr} {rest : List Value} (hret : meth.sig.returnType = some t) (hlk : meth.locks = false) (hn : narrow t w = w)
    (hi : (i = .ireturn ∧ (t = .int ∨ t = .boolean ∨ t = .byte ∨ t = .char ∨ t = .short) ∧ ∃ z, w = .int z) ∨ (i = .lreturn ∧ t = .long ∧ ∃ z, w = .long z) ∨ (i = .dreturn ∧ t = .double ∧ ∃ z, w = .double z) ∨ (i = .freturn ∧ t = .float ∧ ∃ z, w = .float z) ∨ (i = .areturn ∧ t.isReference = true ∧ w.isRef = true))
    (hd : decode c.code pc = .ok (i, 1)) (k : To p.tables e below S0 (T.setTop (mkF m pc Ls (w :: rest)))) (hQ : Q (some w) h locs) (hc : cells ≤ R.cells) (hs : slots ≤ R.slots) : FinW p e below s R S0 Z EL vm0 h0 Q := by
  subst eT
  obtain ⟨fs, hr, hrun, hended, hend⟩ := leaveW X hS hn0 (v := some w) (fun h => by rw [hret] at h; cases h) hlk
  have A := C.trans (CHv.at X hZ hEL C.1)
  exact ⟨_, _, k _ (retOut X hx hret hn hi hd hr), hrun, hended, _, _, rfl, hQ, A, endW_mono hend hc hs⟩
theorem retIntW (X : Stand p l e R (s.setVm vm) m args below meth c T locs cells slots) (hx : p.tables.exec = Jvm.exec) (hZ : Z.Warmed39 vm) (hEL : EW Z a0 EL) (hS : s.Since vm n) (hn0 : n ≤ h.size) (C : CHr Z EL vm0 h0 vm h) (eT : T.heap = h) {pc : Nat} {Ls : Array Slot} {z : Int32} {t : FieldType} {rest : List Value} (hret : meth.sig.returnType = some t) (hlk : meth.locks = false) (ht : t = .int ∨ t = .boolean ∨ t = .byte ∨ t = .char ∨ t = .short) (hn : narrow t (.int z) = .int z)
    (hd : decode c.code pc = .ok (.ireturn, 1)) (k : To p.tables e below S0 (T.setTop (mkF m pc Ls (.int z :: rest)))) (hQ : Q (some (.int z)) h locs) (hc : cells ≤ R.cells) (hs : slots ≤ R.slots) : FinW p e below s R S0 Z EL vm0 h0 Q :=
  retVW X hx hZ hEL hS hn0 C eT hret hlk hn (Or.inl ⟨rfl, ht, z, rfl⟩) hd k hQ hc hs
theorem retRefW (X : Stand p l e R (s.setVm vm) m args below meth c T locs cells slots) (hx : p.tables.exec = Jvm.exec) (hZ : Z.Warmed39 vm) (hEL : EW Z a0 EL) (hS : s.Since vm n) (hn0 : n ≤ h.size) (C : CHr Z EL vm0 h0 vm h) (eT : T.heap = h) {pc : Nat} {Ls : Array Slot} {w : Value} {t : FieldType} {rest : List Value} (hret : meth.sig.returnType = some t) (hlk : meth.locks = false) (ht : t.isReference = true) (hw : w.isRef = true)
    (hd : decode c.code pc = .ok (.areturn, 1)) (k : To p.tables e below S0 (T.setTop (mkF m pc Ls (w :: rest)))) (hQ : Q (some w) h locs) (hc : cells ≤ R.cells) (hs : slots ≤ R.slots) : FinW p e below s R S0 Z EL vm0 h0 Q :=
  retVW X hx hZ hEL hS hn0 C eT hret hlk (narrow_ref hw) (Or.inr (Or.inr (Or.inr (Or.inr ⟨rfl, ht, hw⟩)))) hd k hQ hc hs
theorem retVoidW (X : Stand p l e R (s.setVm vm) m args below meth c T locs cells slots) (hx : p.tables.exec = Jvm.exec) (hZ : Z.Warmed39 vm) (hEL : EW Z a0 EL) (hS : s.Since vm n) (hn0 : n ≤ h.size) (C : CHr Z EL vm0 h0 vm h) (eT : T.heap = h) {pc : Nat} {Ls : Array Slot} (hret : meth.sig.returnType = none) (hlk : meth.locks = false)
    (hd : decode c.code pc = .ok (.return_, 1)) (k : To p.tables e below S0 (T.setTop (mkF m pc Ls []))) (hQ : Q none h locs) (hc : cells ≤ R.cells) (hs : slots ≤ R.slots) : FinW p e below s R S0 Z EL vm0 h0 Q := by
  subst eT
  obtain ⟨fs, hr, hrun, hended, hend⟩ := leaveW X hS hn0 (v := none) (fun _ => rfl) hlk
  have A := C.trans (CHv.at X hZ hEL C.1)
  exact ⟨_, _, k _ (X.returnOut hx hret hd hr), hrun, hended, _, _, rfl, hQ, A, endW_mono hend hc hs⟩
theorem backOfW {y : MethodName} {bs : ByteArray} {ml : Nat} {rt : Option FieldType} {rm : Room} {len W : Nat} {as' : Array Value} (hM : ConW l Z EL y bs ml rt [] rm as' h sf Q) (hZ : Z.Warmed39 vm) (wc : (Cond.code y bs ml rt).before a0 Z = true) (wz : (Cond.initialized y.cls).before a0 Z = true)
    (hf : rm.frames + 1 ≤ R.frames) (hl : W + (ml + 11) + rm.locals ≤ R.locals) (hEL : EW Z a0 EL) (H : CHv Z EL vm h) (hsf : ∀ x ∈ sf, x < h.size ∧ Safe Z EL vm h x) :
    BackS l R p e below (s.setVm vm) args y len W (fun A a => a = as' ∧ A.U.heap = h ∧ A.cells + rm.cells ≤ R.cells ∧ A.slots + rm.slots ≤ R.slots)
      (fun A _ v B => ∃ L, Q v B.U.heap L ∧ B.locs = A.locs ++ L ∧ B.cells = A.cells + rm.cells ∧ B.slots = A.slots + rm.slots ∧ CHr Z EL vm h B.U.vm B.U.heap) :=
  BackS.of_freeW (bytes := bs) (maxL := ml) (ret := rt) (E := fun _ first o t L k n => k = rm.cells ∧ n = rm.slots ∧ (∃ v, o = .returned v ∧ Q v t.heap L) ∧ CHr Z EL first.vm first.heap t.vm t.heap) hM hf hl
    (fun m meth c A a Y hp => have hU : Z.Warmed39 A.U.vm := wtrans (s := s.setVm vm) hZ Y.warmed
      ⟨by show (Cond.and _ .tt).before a A.U = true; rw [Cond.before_and, mv hU wc]; rfl, mv hU wc, mv hU wz, hp.2.2.1, hp.2.2.2⟩)
    (fun m meth c A a g mk Y hp => ⟨hp.1, wtrans (s := s.setVm vm) hZ Y.warmed, hp.2.1, (CHv.at Y hZ hEL H).1, fun x hx => (CHv.at Y hZ hEL H).safe (hsf x hx).1 (hsf x hx).2⟩) (fun _ _ _ _ _ _ _ _ _ => trivial)
    (fun _ _ _ _ ⟨v, L, h1, h2, h3, h4⟩ => ⟨L, _, _, h4, rfl, rfl, ⟨v, h1, h2⟩, h3⟩)
    (fun m meth c A a g mk v t L k n Y hp _ _ ⟨e1, e2, ⟨v', e3, e4⟩, e5⟩ => by
      cases e3; subst e1 e2
      refine ⟨L, e4, rfl, rfl, rfl, (CHv.at Y hZ hEL H).trans ?_⟩
      rw [← hp.2.1]; exact e5)
/-- what lies behind a call that may intern -/
abbrev BehW (p : Program) (l : Launch) (e : Env) (R : Room) (s : State) (m : MethodId) (args : Array Value) (below : List Frame) (meth : Method) (c : Code) (Z : State) (EL : List (String × Nat)) (vm : Vm) (h : Heap) (locs : List Loc) (cells slots cc ss : Nat) (own : String) (Q : Option Value → Heap → List Loc → Prop) (S0 : State) (pc : Nat) (Ls : Array Slot) (rest : List Value) : Prop :=
  ∃ v T' L, Stand p l e R (s.setVm T'.vm) m args below meth c T' (locs ++ L) (cells + cc) (slots + ss) ∧ Q v T'.heap L ∧ To p.tables e below S0 (T'.setTop (mkF m pc Ls (v.toList ++ rest))) ∧ CHr Z EL vm h T'.vm T'.heap ∧ s.Since T'.vm T'.heap.size ∧ Z.Warmed39 T'.vm ∧ T'.vm.findClass own = some m.cls
theorem behW {own : String} {cc ss : Nat} {pc : Nat} {Ls : Array Slot} {rest : List Value} {v : Option Value} {T' : State} {L : List Loc} (hZ : Z.Warmed39 vm) (hown : vm.findClass own = some m.cls) (hS : s.Since vm n) (hn : n ≤ h.size) (X' : Stand p l e R ((s.setVm vm).setVm T'.vm) m args below meth c T' (locs ++ L) (cells + cc) (slots + ss)) (hS' : (s.setVm vm).Since T'.vm T'.heap.size) (hg : h.size ≤ T'.heap.size)
    (hQ : Q v T'.heap L) (hC : CHr Z EL vm h T'.vm T'.heap) (k : To p.tables e below S0 (T'.setTop (mkF m pc Ls (v.toList ++ rest)))) : BehW p l e R s m args below meth c Z EL vm h locs cells slots cc ss own Q S0 pc Ls rest :=
  ⟨v, T', L, X', hQ, k, hC, hS.trans hS' (Nat.le_trans hn hg), State.Warmed39.trans (t := s.setVm vm) hZ hS'.1, by rw [hS'.1.alike.findClass]; exact hown⟩
theorem callSW (X : Stand p l e R (s.setVm vm) m args below meth c T locs cells slots) (hx : p.tables.exec = Jvm.exec) (hZ : Z.Warmed39 vm) {own : String} {index : Nat} {y : MethodName} {bs : ByteArray} {ml : Nat} {rt : Option FieldType} {cc ss W : Nat} {as' : Array Value}
    (hown : vm.findClass own = some m.cls) (hS : s.Since vm n) (hn : n ≤ h.size) (w1 : (Cond.methodLink own index y).before a0 Z = true) (w2 : (Cond.static y).before a0 Z = true) (w3 : (Cond.initialized y.cls).before a0 Z = true) (w4 : (Cond.code y bs ml rt).before a0 Z = true) (hy : y.cls ≠ "java/lang/invoke/MethodHandle" ∧ y.cls ≠ "java/lang/invoke/VarHandle")
    (hK : BackS l R p e below (s.setVm vm) args y 3 W (fun A a => a = as' ∧ A.U.heap = h ∧ A.cells + cc ≤ R.cells ∧ A.slots + ss ≤ R.slots) (fun A _ v B => ∃ L, Q v B.U.heap L ∧ B.locs = A.locs ++ L ∧ B.cells = A.cells + cc ∧ B.slots = A.slots + ss ∧ CHr Z EL vm h B.U.vm B.U.heap)) (eT : T.heap = h) {pc : Nat} {Ls : Array Slot} {st argsL rest : List Value} (hst : st = argsL.reverse ++ rest) (has : argsL.toArray = as') {ps : List FieldType} {r : Option FieldType} (hpd : parseMethodDescriptor y.desc = some ⟨ps, r⟩) (hlen : argsL.length = ps.length) (hsize : Ls.size = c.maxLocals)
    (hd : decode c.code pc = .ok (.invokestatic index, 3)) (hW : (rest.map fun v => v.category).sum ≤ W) (hc : cells + cc ≤ R.cells) (hs : slots + ss ≤ R.slots) (k : To p.tables e below S0 (T.setTop (mkF m pc Ls st))) :
    BehW p l e R s m args below meth c Z EL vm h locs cells slots cc ss own Q S0 (pc + 3) Ls rest := by
  obtain ⟨v, vm₁, ⟨T', L', k', n'⟩, -, X', hS', hg, ⟨L, hQ, q1, q2, q3, hC⟩, stp⟩ := callSS X hx hown (mvT (s := s.setVm vm) hZ w1) (mvT (s := s.setVm vm) hZ w2) (mvT (s := s.setVm vm) hZ w3) (mvT (s := s.setVm vm) hZ w4) hy hK (g := mkF m pc Ls st) rfl hsize (argsL := argsL) (rest := rest) (lenOf hpd hlen) hst (by show 2 * 0 + _ ≤ _; omega) hd (fun _ _ => ⟨has, eT, hc, hs⟩)
  dsimp only [Pt.U, Pt.locs, Pt.cells, Pt.slots] at X' q1 q2 q3 stp hQ hS' hg hC
  subst q1 q2 q3
  exact behW hZ hown hS hn X' hS' (eT ▸ hg) hQ hC fun t q => k t (stp.trans q)
theorem callCW (X : Stand p l e R (s.setVm vm) m args below meth c T locs cells slots) (hx : p.tables.exec = Jvm.exec) (hZ : Z.Warmed39 vm) {own : String} {index : Nat} {y : MethodName} {bs : ByteArray} {ml : Nat} {cc ss W : Nat} {as' : Array Value}
    (hy1 : y.name = "<init>") (hown : vm.findClass own = some m.cls) (hS : s.Since vm n) (hn : n ≤ h.size) (w1 : (Cond.methodLink own index y).before a0 Z = true) (w2 : (Cond.instanceMethod y).before a0 Z = true) (w4 : (Cond.code y bs ml none).before a0 Z = true) (hy : y.cls ≠ "java/lang/invoke/MethodHandle" ∧ y.cls ≠ "java/lang/invoke/VarHandle")
    (hK : BackS l R p e below (s.setVm vm) args y 3 W (fun A a => a = as' ∧ A.U.heap = h ∧ A.cells + cc ≤ R.cells ∧ A.slots + ss ≤ R.slots) (fun A _ v B => ∃ L, Q v B.U.heap L ∧ B.locs = A.locs ++ L ∧ B.cells = A.cells + cc ∧ B.slots = A.slots + ss ∧ CHr Z EL vm h B.U.vm B.U.heap)) (eT : T.heap = h) {pc : Nat} {Ls : Array Slot} {a : Addr} {st argsL rest : List Value} (hst : st = argsL.reverse ++ .ref a :: rest) (has : (.ref a :: argsL).toArray = as') {ps : List FieldType} {r : Option FieldType} (hpd : parseMethodDescriptor y.desc = some ⟨ps, r⟩) (hlen : argsL.length = ps.length) (hsize : Ls.size = c.maxLocals)
    (hd : decode c.code pc = .ok (.invokespecial index, 3)) (hW : (rest.map fun v => v.category).sum ≤ W) (hc : cells + cc ≤ R.cells) (hs : slots + ss ≤ R.slots) (k : To p.tables e below S0 (T.setTop (mkF m pc Ls st))) :
    BehW p l e R s m args below meth c Z EL vm h locs cells slots cc ss own Q S0 (pc + 3) Ls rest := by
  obtain ⟨v, vm₁, ⟨T', L', k', n'⟩, -, X', hS', hg, ⟨L, hQ, q1, q2, q3, hC⟩, stp⟩ := specialBackS X hx hy1 hown (mvT (s := s.setVm vm) hZ w1) (mvT (s := s.setVm vm) hZ w2) (mvT (s := s.setVm vm) hZ w4) hy hK (g := mkF m pc Ls st) rfl hsize (Steps.refl _) (a := a) (argsL := argsL) (rest := rest) (lenOf hpd hlen) hst (by show 2 * 0 + _ ≤ _; omega) hd (fun _ _ => ⟨has, eT, hc, hs⟩)
  dsimp only [Pt.U, Pt.locs, Pt.cells, Pt.slots] at X' q1 q2 q3 stp hQ hS' hg hC
  subst q1 q2 q3
  exact behW hZ hown hS hn X' hS' (eT ▸ hg) hQ hC fun t q => k t (stp.trans q)
theorem callVW (X : Stand p l e R (s.setVm vm) m args below meth c T locs cells slots) (hx : p.tables.exec = Jvm.exec) (hZ : Z.Warmed39 vm) {own C : String} {index : Nat} {y z : MethodName} {cc ss W : Nat} {as' : Array Value}
    (hown : vm.findClass own = some m.cls) (hS : s.Since vm n) (hn : n ≤ h.size) (w1 : (Cond.methodLink own index y).before a0 Z = true) (w2 : (Cond.declares y).before a0 Z = true) (hnf : NotFace (s.setVm vm) y) (w5 : (Cond.selects C y z).before a0 Z = true) (w6 : (Cond.instanceMethod z).before a0 Z = true)
    (hy : y.cls ≠ "java/lang/invoke/MethodHandle" ∧ y.cls ≠ "java/lang/invoke/VarHandle") {b : Addr} (E : Exa Z h b C)
    (hK : BackS l R p e below (s.setVm vm) args z 3 W (fun A a => a = as' ∧ A.U.heap = h ∧ A.cells + cc ≤ R.cells ∧ A.slots + ss ≤ R.slots) (fun A _ v B => ∃ L, Q v B.U.heap L ∧ B.locs = A.locs ++ L ∧ B.cells = A.cells + cc ∧ B.slots = A.slots + ss ∧ CHr Z EL vm h B.U.vm B.U.heap)) (eT : T.heap = h) {pc : Nat} {Ls : Array Slot} {st argsL rest : List Value} (hst : st = argsL.reverse ++ .ref b :: rest) (has : (.ref b :: argsL).toArray = as') {ps : List FieldType} {r : Option FieldType} (hpd : parseMethodDescriptor y.desc = some ⟨ps, r⟩) (hlen : argsL.length = ps.length) (hsize : Ls.size = c.maxLocals)
    (hd : decode c.code pc = .ok (.invokevirtual index, 3)) (hW : (rest.map fun v => v.category).sum ≤ W) (hc : cells + cc ≤ R.cells) (hs : slots + ss ≤ R.slots) (k : To p.tables e below S0 (T.setTop (mkF m pc Ls st))) :
    BehW p l e R s m args below meth c Z EL vm h locs cells slots cc ss own Q S0 (pc + 3) Ls rest := by
  obtain ⟨cq, kq, qa, qb, qc⟩ := isOf (s := s.setVm vm) hZ eT E
  obtain ⟨v, vm₁, ⟨T', L', k', n'⟩, -, X', hS', hg, ⟨L, hQ, q1, q2, q3, hC⟩, stp⟩ := virtualBackS X hx hown (mvT (s := s.setVm vm) hZ w1) (mvT (s := s.setVm vm) hZ w2) hnf (mvT (s := s.setVm vm) hZ w5) (mvT (s := s.setVm vm) hZ w6) hy hK qa qc (g := mkF m pc Ls st) rfl hsize (Steps.refl _) (argsL := argsL) (rest := rest) (lenOf hpd hlen) hst (by show 2 * 0 + _ ≤ _; omega) hd (fun _ _ => ⟨has, eT, hc, hs⟩)
  dsimp only [Pt.U, Pt.locs, Pt.cells, Pt.slots] at X' q1 q2 q3 stp hQ hS' hg hC
  subst q1 q2 q3
  exact behW hZ hown hS hn X' hS' (eT ▸ hg) hQ hC fun t q => k t (stp.trans q)
end Wide
abbrev own_EL : List (String × Nat) := consts_1
theorem own_EW {Z : State} {a0 : Array Value} (hw : ∀ d ∈ tables_1, d.before a0 Z = true) : EW Z a0 own_EL := (EW.cons (hw _ (List.mem_of_getElem? (i := 75) rfl)) (by decide) EW.nil)
theorem own_wS {Z : State} {a0 : Array Value} (hw : ∀ d ∈ tables_1, d.before a0 Z = true) : ∀ a ∈ Bundle.stringAtoms, a.before a0 Z = true := fun a ha => by
  simp only [Bundle.stringAtoms, List.mem_cons, List.not_mem_nil, or_false] at ha
  rcases ha with rfl | rfl | rfl | rfl | rfl | rfl | rfl
  · exact (hw _ (List.mem_of_getElem? (i := 12) rfl))
  · exact (hw _ (List.mem_of_getElem? (i := 20) rfl))
  · exact (hw _ (List.mem_of_getElem? (i := 24) rfl))
  · exact (hw _ (List.mem_of_getElem? (i := 33) rfl))
  · exact (hw _ (List.mem_of_getElem? (i := 35) rfl))
  · exact (hw _ (List.mem_of_getElem? (i := 76) rfl))
  · exact (hw _ (List.mem_of_getElem? (i := 77) rfl))
/-- a String of no or one char -/
def Sm (Z : State) (h : Heap) (a : Addr) : Prop := Exa Z h a "java/lang/String" ∧ ∃ (t : Addr) (k : ClassId), Fld Z h a "java/lang/String" "value" "[B" (.ref t) ∧ Fld Z h a "java/lang/String" "coder" "B" (.int (0 : Int32)) ∧ (Arv Z h t k .byte (0 : Int32) [] (.int 0) ∨ ∃ c : Int32, Arv Z h t k .byte (1 : Int32) [(.int c)] (.int 0))
theorem smExt {Z : State} {h h' : Heap} {a : Addr} (S : Sm Z h a) (E : Ext h h') : Sm Z h' a := by
  obtain ⟨A, t, k, V, K, R⟩ := S
  exact ⟨A.ext E, t, k, V.ext E, K.ext E, R.imp (·.ext E) fun ⟨c, R⟩ => ⟨c, R.ext E⟩⟩
theorem smKeep0 {Z : State} {h h' : Heap} {a : Addr} (S : Sm Z h a) (E : Keep h h' []) : Sm Z h' a := by
  obtain ⟨A, t, k, V, K, R⟩ := S
  exact ⟨A.keep E, t, k, V.keep E nin0, K.keep E nin0, R.imp (·.keep E nin0) fun ⟨c, R⟩ => ⟨c, R.keep E nin0⟩⟩
theorem smNe {Z : State} {h : Heap} {a p : Addr} {C : String} {n : Nat} {a0 : Array Value} (S : Sm Z h a) (E : Exa Z h p C) (w : (Jvm.Cond.instantiable C n).before a0 Z = true) (hC : "java/lang/String" ≠ C) : a ≠ p ∧ ∀ t, Fld Z h a "java/lang/String" "value" "[B" (.ref t) → t ≠ p := by
  obtain ⟨A, t, k, V, K, R⟩ := S
  refine ⟨A.ne E hC, fun t' V' => ?_⟩
  have e : t' = t := by
    obtain ⟨c1, _, _, _, _, h1, h2, -, -, -, -, h7⟩ := V
    obtain ⟨c2, _, _, _, _, g1, g2, -, -, -, -, g7⟩ := V'
    cases h1.symm.trans g1; cases h2.symm.trans g2; exact Value.ref.inj (Option.some.inj (g7.symm.trans h7))
  subst e
  rcases R with R | ⟨c, R⟩
  · exact (E.neArv R w).symm
  · exact (E.neArv R w).symm
theorem smWr {Z : State} {h h' : Heap} {a p : Addr} {sl : Nat} {v : Value} {n : Nat} {a0 : Array Value} (S : Sm Z h a) (W : Wr h h' p sl v) (E : Exa Z h p "com/example/huntaway/huntaway/Precedence") (w : (Jvm.Cond.instantiable "com/example/huntaway/huntaway/Precedence" n).before a0 Z = true) : Sm Z h' a := by
  obtain ⟨q1, q2⟩ := smNe S E w (by decide)
  obtain ⟨A, t, k, V, K, R⟩ := S
  exact ⟨A.wr W, t, k, V.other W (Or.inl q1), K.other W (Or.inl q1), R.imp (·.other W (q2 t V)) fun ⟨c, R⟩ => ⟨c, R.other W (q2 t V)⟩⟩
theorem smKeepP {Z : State} {h h' : Heap} {a p : Addr} {n : Nat} {a0 : Array Value} (S : Sm Z h a) (W : Keep h h' [p]) (E : Exa Z h p "com/example/huntaway/huntaway/Precedence") (w : (Jvm.Cond.instantiable "com/example/huntaway/huntaway/Precedence" n).before a0 Z = true) : Sm Z h' a := by
  obtain ⟨q1, q2⟩ := smNe S E w (by decide)
  obtain ⟨A, t, k, V, K, R⟩ := S
  exact ⟨A.keep W, t, k, V.keep W (ninS q1 nin0), K.keep W (ninS q1 nin0), R.imp (·.keep W (ninS (q2 t V) nin0)) fun ⟨c, R⟩ => ⟨c, R.keep W (ninS (q2 t V) nin0)⟩⟩
theorem own_small (c : Int32) : (c &&& 255) < (65536 : Int32) := by
  have h := (own_m255 c).2
  rw [Int32.lt_iff_toInt_lt] at h ⊢; have e1 : (65536 : Int32).toInt = 65536 := by decide
  have e2 : (255 : Int32).toInt = 255 := by decide
  omega
theorem d_jdk_42_method_149_code_0 : decode jdk_42_method_149_code 0 = .ok (.aload_n 0, 1) := by decide +kernel
theorem d_jdk_42_method_149_code_1 : decode jdk_42_method_149_code 1 = .ok (.invokespecial 1, 3) := by decide +kernel
theorem d_jdk_42_method_149_code_4 : decode jdk_42_method_149_code 4 = .ok (.iload_n 3, 1) := by decide +kernel
theorem d_jdk_42_method_149_code_5 : decode jdk_42_method_149_code 5 = .ok (.ifCond .ne 22, 3) := by decide +kernel
theorem d_jdk_42_method_149_code_8 : decode jdk_42_method_149_code 8 = .ok (.aload_n 0, 1) := by decide +kernel
theorem d_jdk_42_method_149_code_9 : decode jdk_42_method_149_code 9 = .ok (.ldc 7, 2) := by decide +kernel
theorem d_jdk_42_method_149_code_11 : decode jdk_42_method_149_code 11 = .ok (.getfield 9, 3) := by decide +kernel
theorem d_jdk_42_method_149_code_14 : decode jdk_42_method_149_code 14 = .ok (.putfield 9, 3) := by decide +kernel
theorem d_jdk_42_method_149_code_17 : decode jdk_42_method_149_code 17 = .ok (.aload_n 0, 1) := by decide +kernel
theorem d_jdk_42_method_149_code_18 : decode jdk_42_method_149_code 18 = .ok (.ldc 7, 2) := by decide +kernel
theorem d_jdk_42_method_149_code_20 : decode jdk_42_method_149_code 20 = .ok (.getfield 15, 3) := by decide +kernel
theorem d_jdk_42_method_149_code_23 : decode jdk_42_method_149_code 23 = .ok (.putfield 15, 3) := by decide +kernel
theorem d_jdk_42_method_149_code_26 : decode jdk_42_method_149_code 26 = .ok (.return_, 1) := by decide +kernel
theorem d_jdk_42_method_149_code_27 : decode jdk_42_method_149_code 27 = .ok (.getstatic 38, 3) := by decide +kernel
theorem d_jdk_42_method_149_code_30 : decode jdk_42_method_149_code 30 = .ok (.ifCond .eq 28, 3) := by decide +kernel
theorem d_jdk_42_method_149_code_33 : decode jdk_42_method_149_code 33 = .ok (.aload_n 1, 1) := by decide +kernel
theorem d_jdk_42_method_149_code_34 : decode jdk_42_method_149_code 34 = .ok (.iload_n 2, 1) := by decide +kernel
theorem d_jdk_42_method_149_code_35 : decode jdk_42_method_149_code 35 = .ok (.iload_n 3, 1) := by decide +kernel
theorem d_jdk_42_method_149_code_36 : decode jdk_42_method_149_code 36 = .ok (.invokestatic 177, 3) := by decide +kernel
theorem d_jdk_42_method_149_code_39 : decode jdk_42_method_149_code 39 = .ok (.astore 5, 2) := by decide +kernel
theorem d_jdk_42_method_149_code_41 : decode jdk_42_method_149_code 41 = .ok (.aload_n 0, 1) := by decide +kernel
theorem d_jdk_42_method_149_code_42 : decode jdk_42_method_149_code 42 = .ok (.aload 5, 2) := by decide +kernel
theorem d_jdk_42_method_149_code_44 : decode jdk_42_method_149_code 44 = .ok (.iload_n 3, 1) := by decide +kernel
theorem d_jdk_42_method_149_code_45 : decode jdk_42_method_149_code 45 = .ok (.invokestatic 47, 3) := by decide +kernel
theorem d_jdk_42_method_149_code_48 : decode jdk_42_method_149_code 48 = .ok (.putfield 15, 3) := by decide +kernel
theorem d_jdk_42_method_149_code_51 : decode jdk_42_method_149_code 51 = .ok (.aload_n 0, 1) := by decide +kernel
theorem d_jdk_42_method_149_code_52 : decode jdk_42_method_149_code 52 = .ok (.aload 5, 2) := by decide +kernel
theorem d_jdk_42_method_149_code_54 : decode jdk_42_method_149_code 54 = .ok (.putfield 9, 3) := by decide +kernel
theorem d_jdk_42_method_149_code_57 : decode jdk_42_method_149_code 57 = .ok (.return_, 1) := by decide +kernel
theorem d_jdk_42_method_149_code_58 : decode jdk_42_method_149_code 58 = .ok (.aload_n 0, 1) := by decide +kernel
theorem d_jdk_42_method_149_code_59 : decode jdk_42_method_149_code 59 = .ok (.iconst 1, 1) := by decide +kernel
theorem d_jdk_42_method_149_code_60 : decode jdk_42_method_149_code 60 = .ok (.putfield 15, 3) := by decide +kernel
theorem d_jdk_42_method_149_code_63 : decode jdk_42_method_149_code 63 = .ok (.aload_n 0, 1) := by decide +kernel
theorem d_jdk_42_method_149_code_64 : decode jdk_42_method_149_code 64 = .ok (.aload_n 1, 1) := by decide +kernel
theorem d_jdk_42_method_149_code_65 : decode jdk_42_method_149_code 65 = .ok (.iload_n 2, 1) := by decide +kernel
theorem d_jdk_42_method_149_code_66 : decode jdk_42_method_149_code 66 = .ok (.iload_n 3, 1) := by decide +kernel
theorem d_jdk_42_method_149_code_67 : decode jdk_42_method_149_code 67 = .ok (.invokestatic 180, 3) := by decide +kernel
theorem d_jdk_42_method_149_code_70 : decode jdk_42_method_149_code 70 = .ok (.putfield 9, 3) := by decide +kernel
theorem d_jdk_42_method_149_code_73 : decode jdk_42_method_149_code 73 = .ok (.return_, 1) := by decide +kernel
theorem pn_0 : plainName "java/lang/String" = true := by first | (simp [plainName, overriddenIn]; done) | decide +kernel
set_option maxRecDepth 65536 in
set_option maxHeartbeats 40000000 in
theorem rm_n4_0 (l : Launch) (Z : State) (a0 : Array Value) (hw : ∀ d ∈ tables_1, d.before a0 Z = true) (a : Addr) (b : Addr) (kb : ClassId) (u1 : Value) (u2 : Value) (h0 : Heap) (n0 : Nat) (hn0 : n0 ≤ h0.size) (E0 : Exa Z h0 a "java/lang/String") (F1 : Fld Z h0 a "java/lang/String" "value" "[B" u1) (F2 : Fld Z h0 a "java/lang/String" "coder" "B" u2) (P0 : Arv Z h0 b kb .char (0 : Int32) [] (.int (0 : Int32))) (ga : n0 ≤ a) (ya : @LT.lt Nat instLTNat a h0.size) :
    ConW l Z own_EL (⟨"java/lang/String", "<init>", "([CIILjava/lang/Void;)V"⟩ : MethodName) jdk_42_method_149_code 6 none [] ({ frames := 1, cells := 4, slots := 8, locals := 12 } : Room) #[(.ref a), (.ref b), (.int (0 : Int32)), (.int (0 : Int32)), .null] h0 [a] (fun v h L => v = none ∧ Fr n0 L ∧ Keep h0 h [a] ∧ ∃ (t : Addr) (k : ClassId), (@LT.lt Nat instLTNat t h.size) ∧ Exa Z h a "java/lang/String" ∧ Fld Z h a "java/lang/String" "value" "[B" (.ref t) ∧ Fld Z h a "java/lang/String" "coder" "B" (.int (0 : Int32)) ∧ Arv Z h t k .byte (0 : Int32) [] (.int 0)) := by
  refine enterW (Ls := #[.val (.ref a), .val (.ref b), .val (.int (0 : Int32)), .val (.int (0 : Int32)), .val .null, .unset]) (plainFor_of_name pn_0) (fun m => by exact entry_eq rfl) ?_
  intro p e s m below meth cd_ s₁ S0 vm0 hx hby hml hret hlk hnm hown hZ X0 e0 k0 C0 hsf hS0
  have N0 := Fr.nil n0
  have Sf_a : Safe Z own_EL vm0 h0 a := hsf _ (List.mem_of_getElem? (i := 0) rfl)
  have k1 : To p.tables e below S0 (s₁.setTop (mkF m 1 #[.val (.ref a), .val (.ref b), .val (.int (0 : Int32)), .val (.int (0 : Int32)), .val .null, .unset] [(.ref a)])) := fun tt hq => k0 tt (by
    show Steps _ _ _ (s₁.setTop (mkF m 0 #[.val (.ref a), .val (.ref b), .val (.int (0 : Int32)), .val (.int (0 : Int32)), .val .null, .unset] [])) _
    refine XS.aloadN X0.here hx rfl (hb hby d_jdk_42_method_149_code_0) rfl rfl ?_
    show Steps _ _ _ (s₁.setTop (mkF m 1 #[.val (.ref a), .val (.ref b), .val (.int (0 : Int32)), .val (.int (0 : Int32)), .val .null, .unset] [(.ref a)])) _
    exact hq)
  obtain ⟨T2, X2, e2, st2⟩ := initO X0 hx hZ hown (hw _ (List.mem_of_getElem? (i := 29) rfl)) (hw _ (List.mem_of_getElem? (i := 30) rfl)) (hw _ (List.mem_of_getElem? (i := 31) rfl)) e0 (g := (mkF m 1 #[.val (.ref a), .val (.ref b), .val (.int (0 : Int32)), .val (.int (0 : Int32)), .val .null, .unset] [(.ref a)])) rfl (by rw [hml]; rfl) rfl (hb hby d_jdk_42_method_149_code_1) (by decide) (W := 0) (by show 2 * 0 + _ ≤ _; exact Nat.le_of_eq rfl) (by decide)
  have k2 : To p.tables e below S0 (T2.setTop (mkF m 4 #[.val (.ref a), .val (.ref b), .val (.int (0 : Int32)), .val (.int (0 : Int32)), .val .null, .unset] [])) := fun tt hq => k1 tt (st2 tt hq)
  have k3 : To p.tables e below S0 (T2.setTop (mkF m 9 #[.val (.ref a), .val (.ref b), .val (.int (0 : Int32)), .val (.int (0 : Int32)), .val .null, .unset] [(.ref a)])) := fun tt hq => k2 tt (by
    show Steps _ _ _ (T2.setTop (mkF m 4 #[.val (.ref a), .val (.ref b), .val (.int (0 : Int32)), .val (.int (0 : Int32)), .val .null, .unset] [])) _
    refine XS.iloadN X2.here hx rfl (hb hby d_jdk_42_method_149_code_4) rfl ?_
    show Steps _ _ _ (T2.setTop (mkF m 5 #[.val (.ref a), .val (.ref b), .val (.int (0 : Int32)), .val (.int (0 : Int32)), .val .null, .unset] [(.int (0 : Int32))])) _
    refine XS.ifNo X2.here hx rfl (hb hby d_jdk_42_method_149_code_5) rfl ((if0 _ _).trans (teq (by decide)).2) ?_
    show Steps _ _ _ (T2.setTop (mkF m 8 #[.val (.ref a), .val (.ref b), .val (.int (0 : Int32)), .val (.int (0 : Int32)), .val .null, .unset] [])) _
    refine XS.aloadN X2.here hx rfl (hb hby d_jdk_42_method_149_code_8) rfl rfl ?_
    show Steps _ _ _ (T2.setTop (mkF m 9 #[.val (.ref a), .val (.ref b), .val (.int (0 : Int32)), .val (.int (0 : Int32)), .val .null, .unset] [(.ref a)])) _
    exact hq)
  obtain ⟨a4, T4, h4, kk4, b4, c4, X4, e4, E4, hS4, hk4, hZ4a, hown4a, A4, Fc4, Fv4, V4, ya4, yb4, Cq4, -, hne4, st4⟩ := ldcCH X2 hx hZ hown (hw _ (List.mem_of_getElem? (i := 75) rfl)) (own_wS hw) e2 hS0 (by omega) (own_EW hw) (List.mem_of_getElem? (i := 0) rfl) C0.1 (vs := []) (z := (0 : Int32)) ⟨by decide, by decide⟩ (by decide) (by decide) (g := (mkF m 9 #[.val (.ref a), .val (.ref b), .val (.int (0 : Int32)), .val (.int (0 : Int32)), .val .null, .unset] [(.ref a)])) rfl (hb hby d_jdk_42_method_149_code_9) (n := 0) (by decide) (by decide) (by decide) (by decide)
  have k4 : To p.tables e below S0 (T4.setTop (mkF m 11 #[.val (.ref a), .val (.ref b), .val (.int (0 : Int32)), .val (.int (0 : Int32)), .val .null, .unset] [(.ref a4), (.ref a)])) := fun tt hq => k3 tt (st4 tt hq)
  have hZ4 : Z.Warmed39 T4.vm := hZ4a
  have hown4 : T4.vm.findClass "java/lang/String" = some m.cls := hown4a
  have z4 : h0.size ≤ h4.size := E4.1
  have C4 := C0.trans Cq4
  have f5 : Safe Z own_EL T4.vm h4 a := (Cq4.safe (adr_lt (by omega)) Sf_a)
  have nx4_a : ¬ (@Eq Nat a a4) ∧ ¬ (@Eq Nat a b4) := hne4 a f5
  obtain ⟨T6, X6, e6, st6⟩ := getF X4 hx hZ4 hown4 (host := "") (Or.inl (hw _ (List.mem_of_getElem? (i := 32) rfl))) Via.refl e4 Fv4 (g := (mkF m 11 #[.val (.ref a), .val (.ref b), .val (.int (0 : Int32)), .val (.int (0 : Int32)), .val .null, .unset] [(.ref a4), (.ref a)])) rfl rfl (hb hby d_jdk_42_method_149_code_11)
  have k6 : To p.tables e below S0 (T6.setTop (mkF m 14 #[.val (.ref a), .val (.ref b), .val (.int (0 : Int32)), .val (.int (0 : Int32)), .val .null, .unset] [(.ref b4), (.ref a)])) := fun tt hq => k4 tt (st6 tt hq)
  have f7 : Exa Z h4 a "java/lang/String" := (E0.ext E4)
  have f8 : Fld Z h4 a "java/lang/String" "value" "[B" u1 := (F1.ext E4)
  obtain ⟨T9, h9, X9, e9, W9, st9⟩ := putF X6 hx hZ4 hown4 (host := "") (Or.inl (hw _ (List.mem_of_getElem? (i := 32) rfl))) Via.refl e6 f8 f7 (Or.inr ⟨(hw _ (List.mem_of_getElem? (i := 33) rfl)), rfl, hnm⟩) (hw _ (List.mem_of_getElem? (i := 20) rfl)) (ty := (.array .byte)) (by decide) rfl rfl (g := (mkF m 14 #[.val (.ref a), .val (.ref b), .val (.int (0 : Int32)), .val (.int (0 : Int32)), .val .null, .unset] [(.ref b4), (.ref a)])) rfl rfl (hb hby d_jdk_42_method_149_code_14)
  have k9 : To p.tables e below S0 (T9.setTop (mkF m 17 #[.val (.ref a), .val (.ref b), .val (.int (0 : Int32)), .val (.int (0 : Int32)), .val .null, .unset] [])) := fun tt hq => k6 tt (st9 tt hq)
  have z9 : h9.size = h4.size := W9.size
  have F9 := f8.same W9
  have N9 := Fr.snoc X9 N0 (by omega : n0 ≤ a)
  have C9 := C4.trans (CHr.wr W9 f5 C4.1)
  have k10 : To p.tables e below S0 (T9.setTop (mkF m 18 #[.val (.ref a), .val (.ref b), .val (.int (0 : Int32)), .val (.int (0 : Int32)), .val .null, .unset] [(.ref a)])) := fun tt hq => k9 tt (by
    show Steps _ _ _ (T9.setTop (mkF m 17 #[.val (.ref a), .val (.ref b), .val (.int (0 : Int32)), .val (.int (0 : Int32)), .val .null, .unset] [])) _
    refine XS.aloadN X9.here hx rfl (hb hby d_jdk_42_method_149_code_17) rfl rfl ?_
    show Steps _ _ _ (T9.setTop (mkF m 18 #[.val (.ref a), .val (.ref b), .val (.int (0 : Int32)), .val (.int (0 : Int32)), .val .null, .unset] [(.ref a)])) _
    exact hq)
  obtain ⟨a11, T11, h11, kk11, b11, c11, X11, e11, E11, hS11, hk11, hZ11a, hown11a, A11, Fc11, Fv11, V11, ya11, yb11, Cq11, -, hne11, st11⟩ := ldcCH X9 hx hZ4 hown4 (hw _ (List.mem_of_getElem? (i := 75) rfl)) (own_wS hw) e9 hS4 (by omega) (own_EW hw) (List.mem_of_getElem? (i := 0) rfl) C9.1 (vs := []) (z := (0 : Int32)) ⟨by decide, by decide⟩ (by decide) (by decide) (g := (mkF m 18 #[.val (.ref a), .val (.ref b), .val (.int (0 : Int32)), .val (.int (0 : Int32)), .val .null, .unset] [(.ref a)])) rfl (hb hby d_jdk_42_method_149_code_18) (n := 0) (by decide) (by decide) (by decide) (by decide)
  have k11 : To p.tables e below S0 (T11.setTop (mkF m 20 #[.val (.ref a), .val (.ref b), .val (.int (0 : Int32)), .val (.int (0 : Int32)), .val .null, .unset] [(.ref a11), (.ref a)])) := fun tt hq => k10 tt (st11 tt hq)
  have hZ11 : Z.Warmed39 T11.vm := hZ11a
  have hown11 : T11.vm.findClass "java/lang/String" = some m.cls := hown11a
  have z11 : h9.size ≤ h11.size := E11.1
  have C11 := C9.trans Cq11
  have f12 : Safe Z own_EL T11.vm h11 a := (Cq11.safe (adr_lt (by omega)) (Safe.wr W9 f5 C4.1 f5))
  have nx11_a : ¬ (@Eq Nat a a11) ∧ ¬ (@Eq Nat a b11) := hne11 a f12
  obtain ⟨T13, X13, e13, st13⟩ := getF X11 hx hZ11 hown11 (host := "") (Or.inl (hw _ (List.mem_of_getElem? (i := 34) rfl))) Via.refl e11 Fc11 (g := (mkF m 20 #[.val (.ref a), .val (.ref b), .val (.int (0 : Int32)), .val (.int (0 : Int32)), .val .null, .unset] [(.ref a11), (.ref a)])) rfl rfl (hb hby d_jdk_42_method_149_code_20)
  have k13 : To p.tables e below S0 (T13.setTop (mkF m 23 #[.val (.ref a), .val (.ref b), .val (.int (0 : Int32)), .val (.int (0 : Int32)), .val .null, .unset] [(.int (0 : Int32)), (.ref a)])) := fun tt hq => k11 tt (st13 tt hq)
  have f14 : Exa Z h11 a "java/lang/String" := ((f7.wr W9).ext E11)
  have f15 : Fld Z h11 a "java/lang/String" "coder" "B" u2 := (((F2.ext E4).other W9 (Or.inr (slot_ne (Or.inr (hw _ (List.mem_of_getElem? (i := 35) rfl))) (Or.inr (hw _ (List.mem_of_getElem? (i := 33) rfl))) (by decide) (t := .byte) (t' := (.array .byte)) (by decide) (by decide)))).ext E11)
  obtain ⟨T16, h16, X16, e16, W16, st16⟩ := putF X13 hx hZ11 hown11 (host := "") (Or.inl (hw _ (List.mem_of_getElem? (i := 34) rfl))) Via.refl e13 f15 f14 (Or.inr ⟨(hw _ (List.mem_of_getElem? (i := 35) rfl)), rfl, hnm⟩) (hw _ (List.mem_of_getElem? (i := 20) rfl)) (ty := .byte) (by decide) rfl rfl (g := (mkF m 23 #[.val (.ref a), .val (.ref b), .val (.int (0 : Int32)), .val (.int (0 : Int32)), .val .null, .unset] [(.int (0 : Int32)), (.ref a)])) rfl rfl (hb hby d_jdk_42_method_149_code_23)
  have k16 : To p.tables e below S0 (T16.setTop (mkF m 26 #[.val (.ref a), .val (.ref b), .val (.int (0 : Int32)), .val (.int (0 : Int32)), .val .null, .unset] [])) := fun tt hq => k13 tt (st16 tt hq)
  have z16 : h16.size = h11.size := W16.size
  have F16 := f15.same W16
  have N16 := Fr.snoc X16 N9 (by omega : n0 ≤ a)
  have C16 := C11.trans (CHr.wr W16 f12 C11.1)
  have f17 : Arv Z h16 b4 c4 .byte (0 : Int32) [] (.int 0) := (((V4.other W9 (adr_ne (by omega))).ext E11).other W16 (adr_ne (by omega)))
  have f18 : Exa Z h16 a "java/lang/String" := (f14.wr W16)
  have f19 : Fld Z h16 a "java/lang/String" "value" "[B" (.ref b4) := ((F9.ext E11).other W16 (Or.inr (slot_ne (Or.inr (hw _ (List.mem_of_getElem? (i := 33) rfl))) (Or.inr (hw _ (List.mem_of_getElem? (i := 35) rfl))) (by decide) (t := (.array .byte)) (t' := .byte) (by decide) (by decide))))
  refine retVoidW X16 hx hZ11 (own_EW hw) hS11 (by omega) C16 e16 hret hlk (hb hby d_jdk_42_method_149_code_26) k16 ?_ (by decide) (by decide)
  exact ⟨rfl, N16, (((((Keep.refl h0 [a]).ext E4).wr W9 (Or.inl (by simp))).ext E11).wr W16 (Or.inl (by simp))), b4, c4, f17.lt, f18, f19, F16, f17⟩
theorem d_jdk_42_method_3_code_0 : decode jdk_42_method_3_code 0 = .ok (.aload_n 0, 1) := by decide +kernel
theorem d_jdk_42_method_3_code_1 : decode jdk_42_method_3_code 1 = .ok (.aload_n 1, 1) := by decide +kernel
theorem d_jdk_42_method_3_code_2 : decode jdk_42_method_3_code 2 = .ok (.iconst 0, 1) := by decide +kernel
theorem d_jdk_42_method_3_code_3 : decode jdk_42_method_3_code 3 = .ok (.aload_n 1, 1) := by decide +kernel
theorem d_jdk_42_method_3_code_4 : decode jdk_42_method_3_code 4 = .ok (.arraylength, 1) := by decide +kernel
theorem d_jdk_42_method_3_code_5 : decode jdk_42_method_3_code 5 = .ok (.aconst_null, 1) := by decide +kernel
theorem d_jdk_42_method_3_code_6 : decode jdk_42_method_3_code 6 = .ok (.invokespecial 27, 3) := by decide +kernel
theorem d_jdk_42_method_3_code_9 : decode jdk_42_method_3_code 9 = .ok (.return_, 1) := by decide +kernel
theorem pd_0 : parseMethodDescriptor "([CIILjava/lang/Void;)V" = some ⟨[(.array .char), .int, .int, (.object "java/lang/Void")], none⟩ := by decide +kernel
set_option maxRecDepth 65536 in
set_option maxHeartbeats 40000000 in
theorem rm_n1_0 (l : Launch) (Z : State) (a0 : Array Value) (hw : ∀ d ∈ tables_1, d.before a0 Z = true) (a : Addr) (b : Addr) (kb : ClassId) (u1 : Value) (u2 : Value) (h0 : Heap) (n0 : Nat) (hn0 : n0 ≤ h0.size) (E0 : Exa Z h0 a "java/lang/String") (F1 : Fld Z h0 a "java/lang/String" "value" "[B" u1) (F2 : Fld Z h0 a "java/lang/String" "coder" "B" u2) (P0 : Arv Z h0 b kb .char (0 : Int32) [] (.int (0 : Int32))) (ga : n0 ≤ a) (ya : @LT.lt Nat instLTNat a h0.size) :
    ConW l Z own_EL (⟨"java/lang/String", "<init>", "([C)V"⟩ : MethodName) jdk_42_method_3_code 2 none [] ({ frames := 2, cells := 4, slots := 8, locals := 29 } : Room) #[(.ref a), (.ref b)] h0 [a] (fun v h L => v = none ∧ Fr n0 L ∧ Keep h0 h [a] ∧ ∃ (t : Addr) (k : ClassId), (@LT.lt Nat instLTNat t h.size) ∧ Exa Z h a "java/lang/String" ∧ Fld Z h a "java/lang/String" "value" "[B" (.ref t) ∧ Fld Z h a "java/lang/String" "coder" "B" (.int (0 : Int32)) ∧ Arv Z h t k .byte (0 : Int32) [] (.int 0)) := by
  refine enterW (Ls := #[.val (.ref a), .val (.ref b)]) (plainFor_of_name pn_0) (fun m => by exact entry_eq rfl) ?_
  intro p e s m below meth cd_ s₁ S0 vm0 hx hby hml hret hlk hnm hown hZ X0 e0 k0 C0 hsf hS0
  have N0 := Fr.nil n0
  have Sf_a : Safe Z own_EL vm0 h0 a := hsf _ (List.mem_of_getElem? (i := 0) rfl)
  have k1 : To p.tables e below S0 (s₁.setTop (mkF m 4 #[.val (.ref a), .val (.ref b)] [(.ref b), (.int (0 : Int32)), (.ref b), (.ref a)])) := fun tt hq => k0 tt (by
    show Steps _ _ _ (s₁.setTop (mkF m 0 #[.val (.ref a), .val (.ref b)] [])) _
    refine XS.aloadN X0.here hx rfl (hb hby d_jdk_42_method_3_code_0) rfl rfl ?_
    show Steps _ _ _ (s₁.setTop (mkF m 1 #[.val (.ref a), .val (.ref b)] [(.ref a)])) _
    refine XS.aloadN X0.here hx rfl (hb hby d_jdk_42_method_3_code_1) rfl rfl ?_
    show Steps _ _ _ (s₁.setTop (mkF m 2 #[.val (.ref a), .val (.ref b)] [(.ref b), (.ref a)])) _
    refine XS.iconst X0.here hx rfl (hb hby d_jdk_42_method_3_code_2) ?_
    show Steps _ _ _ (s₁.setTop (mkF m 3 #[.val (.ref a), .val (.ref b)] [(.int (0 : Int32)), (.ref b), (.ref a)])) _
    refine XS.aloadN X0.here hx rfl (hb hby d_jdk_42_method_3_code_3) rfl rfl ?_
    show Steps _ _ _ (s₁.setTop (mkF m 4 #[.val (.ref a), .val (.ref b)] [(.ref b), (.int (0 : Int32)), (.ref b), (.ref a)])) _
    exact hq)
  obtain ⟨cl2, Ar2, -, S2, M2, -, -⟩ := id P0
  have st2 := fun tt => X0.arraylength hx (by rw [e0]; exact Ar2.1) (State.isArrayOf_alike hZ.alike Ar2.2.1) (g := (mkF m 4 #[.val (.ref a), .val (.ref b)] [(.ref b), (.int (0 : Int32)), (.ref b), (.ref a)])) rfl rfl (hb hby d_jdk_42_method_3_code_4) tt
  rw [len_of S2 M2] at st2
  have k2 : To p.tables e below S0 (s₁.setTop (mkF m 5 #[.val (.ref a), .val (.ref b)] [(.int (0 : Int32)), (.int (0 : Int32)), (.ref b), (.ref a)])) := fun tt hq => k1 tt (st2 tt hq)
  have k3 : To p.tables e below S0 (s₁.setTop (mkF m 6 #[.val (.ref a), .val (.ref b)] [.null, (.int (0 : Int32)), (.int (0 : Int32)), (.ref b), (.ref a)])) := fun tt hq => k2 tt (by
    show Steps _ _ _ (s₁.setTop (mkF m 5 #[.val (.ref a), .val (.ref b)] [(.int (0 : Int32)), (.int (0 : Int32)), (.ref b), (.ref a)])) _
    refine XS.aconstNull X0.here hx rfl (hb hby d_jdk_42_method_3_code_5) ?_
    show Steps _ _ _ (s₁.setTop (mkF m 6 #[.val (.ref a), .val (.ref b)] [.null, (.int (0 : Int32)), (.int (0 : Int32)), (.ref b), (.ref a)])) _
    exact hq)
  obtain ⟨_, T4, L4, X4, ⟨rfl, Nq4, Kq4, t4, kt4, gt4, P40, P41, P42, P43⟩, k4a, Cq4, hS4, hZ4, hown4⟩ := callCW X0 hx hZ (y := (⟨"java/lang/String", "<init>", "([CIILjava/lang/Void;)V"⟩ : MethodName)) rfl hown hS0 (by omega) (hw _ (List.mem_of_getElem? (i := 72) rfl)) (hw _ (List.mem_of_getElem? (i := 73) rfl)) (hw _ (List.mem_of_getElem? (i := 74) rfl)) (by decide) (backOfW (W := 0) (rm_n4_0 l Z a0 hw a b kb u1 u2 h0 n0 (by omega) E0 F1 F2 P0 (by omega) (by omega)) hZ (hw _ (List.mem_of_getElem? (i := 74) rfl)) (hw _ (List.mem_of_getElem? (i := 12) rfl)) (by decide) (by decide) (own_EW hw) C0.1 (allS ⟨adr_lt (by omega), Sf_a⟩ all0)) e0 (argsL := [(.ref b), (.int (0 : Int32)), (.int (0 : Int32)), .null]) (rest := []) rfl rfl pd_0 rfl (by rw [hml]; rfl) (hb hby d_jdk_42_method_3_code_6) (Nat.le_of_eq rfl) (by decide) (by decide) k3
  have k4 : To p.tables e below S0 (T4.setTop (mkF m 9 #[.val (.ref a), .val (.ref b)] [])) := k4a
  have N4 := N0.app Nq4
  obtain ⟨h4, e4⟩ : ∃ z, T4.heap = z := ⟨_, rfl⟩
  rw [e4] at Kq4 gt4 P40 P41 P42 P43 Cq4 hS4
  have z4 : h0.size ≤ h4.size := Kq4.1
  have C4 := C0.trans Cq4
  refine retVoidW X4 hx hZ4 (own_EW hw) hS4 (by omega) C4 e4 hret hlk (hb hby d_jdk_42_method_3_code_9) k4 ?_ (by decide) (by decide)
  exact ⟨rfl, N4, ((Keep.refl h0 [a]).trans Kq4 (allS (Or.inl (by simp)) all0)), t4, kt4, P43.lt, P40, P41, P42, P43⟩
theorem d_jdk_43_method_3_code_0 : decode jdk_43_method_3_code 0 = .ok (.iload_n 0, 1) := by decide +kernel
theorem d_jdk_43_method_3_code_1 : decode jdk_43_method_3_code 1 = .ok (.sipush 255, 3) := by decide +kernel
theorem d_jdk_43_method_3_code_4 : decode jdk_43_method_3_code 4 = .ok (.if_icmp .gt 7, 3) := by decide +kernel
theorem d_jdk_43_method_3_code_7 : decode jdk_43_method_3_code 7 = .ok (.iconst 1, 1) := by decide +kernel
theorem d_jdk_43_method_3_code_8 : decode jdk_43_method_3_code 8 = .ok (.goto 4, 3) := by decide +kernel
theorem d_jdk_43_method_3_code_11 : decode jdk_43_method_3_code 11 = .ok (.iconst 0, 1) := by decide +kernel
theorem d_jdk_43_method_3_code_12 : decode jdk_43_method_3_code 12 = .ok (.ireturn, 1) := by decide +kernel
theorem pn_1 : plainName "java/lang/StringLatin1" = true := by first | (simp [plainName, overriddenIn]; done) | decide +kernel
set_option maxRecDepth 65536 in
set_option maxHeartbeats 40000000 in
theorem rm_enc (l : Launch) (Z : State) (a0 : Array Value) (hw : ∀ d ∈ tables_1, d.before a0 Z = true) (c : Int32) (h0 : Heap) (n0 : Nat) (hn0 : n0 ≤ h0.size) (hc : ¬ (255 : Int32) < c) :
    Con l Z (⟨"java/lang/StringLatin1", "canEncode", "(C)Z"⟩ : MethodName) jdk_43_method_3_code 1 (some .boolean) [] ({ frames := 0, cells := 0, slots := 0, locals := 0 } : Room) #[(.int c)] h0 (fun v h L => v = some (.int (1 : Int32)) ∧ Fr n0 L ∧ h = h0) := by
  refine enter (Ls := #[.val (.int c)]) (plainFor_of_name pn_1) (fun m => by exact entry_eq rfl) ?_
  intro p e s m below meth cd_ s₁ S0 hx hby hml hret hlk hnm hown hZ X0 e0 k0
  have N0 := Fr.nil n0
  have k1 : To p.tables e below S0 (s₁.setTop (mkF m 12 #[.val (.int c)] [(.int (1 : Int32))])) := fun tt hq => k0 tt (by
    show Steps _ _ _ (s₁.setTop (mkF m 0 #[.val (.int c)] [])) _
    refine XS.iloadN X0.here hx rfl (hb hby d_jdk_43_method_3_code_0) rfl ?_
    show Steps _ _ _ (s₁.setTop (mkF m 1 #[.val (.int c)] [(.int c)])) _
    refine XS.sipush X0.here hx rfl (hb hby d_jdk_43_method_3_code_1) ?_
    show Steps _ _ _ (s₁.setTop (mkF m 4 #[.val (.int c)] [(.int (255 : Int32)), (.int c)])) _
    refine XS.icmpNo X0.here hx rfl (hb hby d_jdk_43_method_3_code_4) rfl (flt hc).2.2.1 ?_
    show Steps _ _ _ (s₁.setTop (mkF m 7 #[.val (.int c)] [])) _
    refine XS.iconst X0.here hx rfl (hb hby d_jdk_43_method_3_code_7) ?_
    show Steps _ _ _ (s₁.setTop (mkF m 8 #[.val (.int c)] [(.int (1 : Int32))])) _
    refine XS.goto X0.here hx rfl (pc0 := 8) (pc' := 12) rfl (hb hby d_jdk_43_method_3_code_8) (by decide) (by decide) ?_
    show Steps _ _ _ (s₁.setTop (mkF m 12 #[.val (.int c)] [(.int (1 : Int32))])) _
    exact hq)
  have hE := e0
  refine retInt X0 hx hret hlk (by simp) rfl (hb hby d_jdk_43_method_3_code_12) k1 ?_ (by decide) (by decide)
  try rw [hE]
  exact ⟨rfl, N0, rfl⟩
theorem d_jdk_43_method_46_code_0 : decode jdk_43_method_46_code 0 = .ok (.iconst 1, 1) := by decide +kernel
theorem d_jdk_43_method_46_code_1 : decode jdk_43_method_46_code 1 = .ok (.newarray .byte, 2) := by decide +kernel
theorem d_jdk_43_method_46_code_3 : decode jdk_43_method_46_code 3 = .ok (.dup, 1) := by decide +kernel
theorem d_jdk_43_method_46_code_4 : decode jdk_43_method_46_code 4 = .ok (.iconst 0, 1) := by decide +kernel
theorem d_jdk_43_method_46_code_5 : decode jdk_43_method_46_code 5 = .ok (.iload_n 0, 1) := by decide +kernel
theorem d_jdk_43_method_46_code_6 : decode jdk_43_method_46_code 6 = .ok (.i2b, 1) := by decide +kernel
theorem d_jdk_43_method_46_code_7 : decode jdk_43_method_46_code 7 = .ok (.bastore, 1) := by decide +kernel
theorem d_jdk_43_method_46_code_8 : decode jdk_43_method_46_code 8 = .ok (.areturn, 1) := by decide +kernel
set_option maxRecDepth 65536 in
set_option maxHeartbeats 40000000 in
theorem rm_tob (l : Launch) (Z : State) (a0 : Array Value) (hw : ∀ d ∈ tables_1, d.before a0 Z = true) (c : Int32) (h0 : Heap) (n0 : Nat) (hn0 : n0 ≤ h0.size)  :
    Con l Z (⟨"java/lang/StringLatin1", "toBytes", "(C)[B"⟩ : MethodName) jdk_43_method_46_code 1 (some (.array .byte)) [] ({ frames := 0, cells := 1, slots := 1, locals := 0 } : Room) #[(.int c)] h0 (fun v h L => ∃ (t : Addr) (k : ClassId), v = some (.ref t) ∧ Fr n0 L ∧ h0.size ≤ t ∧ Keep h0 h [] ∧ Arv Z h t k .byte (1 : Int32) [(.int (nar .byte (c.toInt8.toInt32)))] (.int (0 : Int32))) := by
  refine enter (Ls := #[.val (.int c)]) (plainFor_of_name pn_1) (fun m => by exact entry_eq rfl) ?_
  intro p e s m below meth cd_ s₁ S0 hx hby hml hret hlk hnm hown hZ X0 e0 k0
  have N0 := Fr.nil n0
  have k1 : To p.tables e below S0 (s₁.setTop (mkF m 1 #[.val (.int c)] [(.int (1 : Int32))])) := fun tt hq => k0 tt (by
    show Steps _ _ _ (s₁.setTop (mkF m 0 #[.val (.int c)] [])) _
    refine XS.iconst X0.here hx rfl (hb hby d_jdk_43_method_46_code_0) ?_
    show Steps _ _ _ (s₁.setTop (mkF m 1 #[.val (.int c)] [(.int (1 : Int32))])) _
    exact hq)
  obtain ⟨T2, h2, c2, X2, e2, E2, A2, st2⟩ := newP X0 hx hZ (hw _ (List.mem_of_getElem? (i := 24) rfl)) e0 (g := (mkF m 1 #[.val (.int c)] [(.int (1 : Int32))])) rfl (hb hby d_jdk_43_method_46_code_1) rfl (by decide) (cap := 1) (by decide) (by decide) (by decide) (by decide)
  obtain ⟨b2, g2⟩ : ∃ z, z = h0.size := ⟨_, rfl⟩
  rw [← g2] at A2 st2
  have k2 : To p.tables e below S0 (T2.setTop (mkF m 3 #[.val (.int c)] [(.ref b2)])) := fun tt hq => k1 tt (st2 tt hq)
  have z2 : h0.size ≤ h2.size := E2.1
  have V2 : Arv Z h2 b2 c2 .byte (1 : Int32) [(.int (0 : Int32))] (.int (0 : Int32)) := (Arv.new A2 (by decide)).pad (pad_rep [] (.int (0 : Int32)) 1)
  have y2 : @LT.lt Nat instLTNat b2 h2.size := V2.lt
  have k3 : To p.tables e below S0 (T2.setTop (mkF m 7 #[.val (.int c)] [(.int (c.toInt8.toInt32)), (.int (0 : Int32)), (.ref b2), (.ref b2)])) := fun tt hq => k2 tt (by
    show Steps _ _ _ (T2.setTop (mkF m 3 #[.val (.int c)] [(.ref b2)])) _
    refine XS.dup X2.here hx rfl (hb hby d_jdk_43_method_46_code_3) rfl rfl ?_
    show Steps _ _ _ (T2.setTop (mkF m 4 #[.val (.int c)] [(.ref b2), (.ref b2)])) _
    refine XS.iconst X2.here hx rfl (hb hby d_jdk_43_method_46_code_4) ?_
    show Steps _ _ _ (T2.setTop (mkF m 5 #[.val (.int c)] [(.int (0 : Int32)), (.ref b2), (.ref b2)])) _
    refine XS.iloadN X2.here hx rfl (hb hby d_jdk_43_method_46_code_5) rfl ?_
    show Steps _ _ _ (T2.setTop (mkF m 6 #[.val (.int c)] [(.int c), (.int (0 : Int32)), (.ref b2), (.ref b2)])) _
    refine XS.i2b X2.here hx rfl (hb hby d_jdk_43_method_46_code_6) rfl ?_
    show Steps _ _ _ (T2.setTop (mkF m 7 #[.val (.int c)] [(.int (c.toInt8.toInt32)), (.int (0 : Int32)), (.ref b2), (.ref b2)])) _
    exact hq)
  obtain ⟨cl4, Ar4, q4, S4, M4, G4, J4⟩ := id V2
  obtain ⟨T4, h4, X4, e4, W4, st4⟩ := stB X2 hx hZ e2 Ar4 (j := (0 : Int32)) (inb_of S4 ⟨by decide, by decide⟩) (g := (mkF m 7 #[.val (.int c)] [(.int (c.toInt8.toInt32)), (.int (0 : Int32)), (.ref b2), (.ref b2)])) rfl rfl (hb hby d_jdk_43_method_46_code_7)
  have k4 : To p.tables e below S0 (T4.setTop (mkF m 8 #[.val (.int c)] [(.ref b2)])) := fun tt hq => k3 tt (st4 tt hq)
  have z4 : h4.size = h2.size := W4.size
  have V4 : Arv Z h4 b2 c2 .byte (1 : Int32) [(.int (nar .byte (c.toInt8.toInt32)))] (.int (0 : Int32)) := Arv.set Ar4 q4 S4 M4 G4 J4 (fits_nar_byte _) W4 0 rfl (Nat.le_of_ble_eq_true rfl)
  have N4 := Fr.snoc X4 N0 (by omega : n0 ≤ b2)
  have hE := e4
  refine retRef X4 hx hret hlk rfl rfl (hb hby d_jdk_43_method_46_code_8) k4 ?_ (by decide) (by decide)
  try rw [hE]
  exact ⟨b2, _, rfl, N4, (by omega), (((Keep.refl h0 []).ext E2).wr W4 (Or.inr (by omega))), V4⟩
theorem d_jdk_42_method_151_code_0 : decode jdk_42_method_151_code 0 = .ok (.aload_n 0, 1) := by decide +kernel
theorem d_jdk_42_method_151_code_1 : decode jdk_42_method_151_code 1 = .ok (.invokespecial 1, 3) := by decide +kernel
theorem d_jdk_42_method_151_code_4 : decode jdk_42_method_151_code 4 = .ok (.aload_n 0, 1) := by decide +kernel
theorem d_jdk_42_method_151_code_5 : decode jdk_42_method_151_code 5 = .ok (.aload_n 1, 1) := by decide +kernel
theorem d_jdk_42_method_151_code_6 : decode jdk_42_method_151_code 6 = .ok (.putfield 9, 3) := by decide +kernel
theorem d_jdk_42_method_151_code_9 : decode jdk_42_method_151_code 9 = .ok (.aload_n 0, 1) := by decide +kernel
theorem d_jdk_42_method_151_code_10 : decode jdk_42_method_151_code 10 = .ok (.iload_n 2, 1) := by decide +kernel
theorem d_jdk_42_method_151_code_11 : decode jdk_42_method_151_code 11 = .ok (.putfield 15, 3) := by decide +kernel
theorem d_jdk_42_method_151_code_14 : decode jdk_42_method_151_code 14 = .ok (.return_, 1) := by decide +kernel
set_option maxRecDepth 65536 in
set_option maxHeartbeats 40000000 in
theorem rm_sbb (l : Launch) (Z : State) (a0 : Array Value) (hw : ∀ d ∈ tables_1, d.before a0 Z = true) (a : Addr) (t : Addr) (u1 : Value) (u2 : Value) (h0 : Heap) (n0 : Nat) (hn0 : n0 ≤ h0.size) (E0 : Exa Z h0 a "java/lang/String") (F1 : Fld Z h0 a "java/lang/String" "value" "[B" u1) (F2 : Fld Z h0 a "java/lang/String" "coder" "B" u2) (ga : n0 ≤ a) :
    Con l Z (⟨"java/lang/String", "<init>", "([BB)V"⟩ : MethodName) jdk_42_method_151_code 3 none [] ({ frames := 1, cells := 0, slots := 0, locals := 12 } : Room) #[(.ref a), (.ref t), (.int (0 : Int32))] h0 (fun v h L => v = none ∧ Fr n0 L ∧ Keep h0 h [a] ∧ Exa Z h a "java/lang/String" ∧ Fld Z h a "java/lang/String" "value" "[B" (.ref t) ∧ Fld Z h a "java/lang/String" "coder" "B" (.int (0 : Int32))) := by
  refine enter (Ls := #[.val (.ref a), .val (.ref t), .val (.int (0 : Int32))]) (plainFor_of_name pn_0) (fun m => by exact entry_eq rfl) ?_
  intro p e s m below meth cd_ s₁ S0 hx hby hml hret hlk hnm hown hZ X0 e0 k0
  have N0 := Fr.nil n0
  have k1 : To p.tables e below S0 (s₁.setTop (mkF m 1 #[.val (.ref a), .val (.ref t), .val (.int (0 : Int32))] [(.ref a)])) := fun tt hq => k0 tt (by
    show Steps _ _ _ (s₁.setTop (mkF m 0 #[.val (.ref a), .val (.ref t), .val (.int (0 : Int32))] [])) _
    refine XS.aloadN X0.here hx rfl (hb hby d_jdk_42_method_151_code_0) rfl rfl ?_
    show Steps _ _ _ (s₁.setTop (mkF m 1 #[.val (.ref a), .val (.ref t), .val (.int (0 : Int32))] [(.ref a)])) _
    exact hq)
  obtain ⟨T2, X2, e2, st2⟩ := initO X0 hx hZ hown (hw _ (List.mem_of_getElem? (i := 29) rfl)) (hw _ (List.mem_of_getElem? (i := 30) rfl)) (hw _ (List.mem_of_getElem? (i := 31) rfl)) e0 (g := (mkF m 1 #[.val (.ref a), .val (.ref t), .val (.int (0 : Int32))] [(.ref a)])) rfl (by rw [hml]; rfl) rfl (hb hby d_jdk_42_method_151_code_1) (by decide) (W := 0) (by show 2 * 0 + _ ≤ _; exact Nat.le_of_eq rfl) (by decide)
  have k2 : To p.tables e below S0 (T2.setTop (mkF m 4 #[.val (.ref a), .val (.ref t), .val (.int (0 : Int32))] [])) := fun tt hq => k1 tt (st2 tt hq)
  have k3 : To p.tables e below S0 (T2.setTop (mkF m 6 #[.val (.ref a), .val (.ref t), .val (.int (0 : Int32))] [(.ref t), (.ref a)])) := fun tt hq => k2 tt (by
    show Steps _ _ _ (T2.setTop (mkF m 4 #[.val (.ref a), .val (.ref t), .val (.int (0 : Int32))] [])) _
    refine XS.aloadN X2.here hx rfl (hb hby d_jdk_42_method_151_code_4) rfl rfl ?_
    show Steps _ _ _ (T2.setTop (mkF m 5 #[.val (.ref a), .val (.ref t), .val (.int (0 : Int32))] [(.ref a)])) _
    refine XS.aloadN X2.here hx rfl (hb hby d_jdk_42_method_151_code_5) rfl rfl ?_
    show Steps _ _ _ (T2.setTop (mkF m 6 #[.val (.ref a), .val (.ref t), .val (.int (0 : Int32))] [(.ref t), (.ref a)])) _
    exact hq)
  obtain ⟨T4, h4, X4, e4, W4, st4⟩ := putF X2 hx hZ hown (host := "") (Or.inl (hw _ (List.mem_of_getElem? (i := 32) rfl))) Via.refl e2 F1 E0 (Or.inr ⟨(hw _ (List.mem_of_getElem? (i := 33) rfl)), rfl, hnm⟩) (hw _ (List.mem_of_getElem? (i := 20) rfl)) (ty := (.array .byte)) (by decide) rfl rfl (g := (mkF m 6 #[.val (.ref a), .val (.ref t), .val (.int (0 : Int32))] [(.ref t), (.ref a)])) rfl rfl (hb hby d_jdk_42_method_151_code_6)
  have k4 : To p.tables e below S0 (T4.setTop (mkF m 9 #[.val (.ref a), .val (.ref t), .val (.int (0 : Int32))] [])) := fun tt hq => k3 tt (st4 tt hq)
  have z4 : h4.size = h0.size := W4.size
  have F4 := F1.same W4
  have N4 := Fr.snoc X4 N0 (by omega : n0 ≤ a)
  have f5 : Exa Z h4 a "java/lang/String" := (E0.wr W4)
  have f6 : Fld Z h4 a "java/lang/String" "coder" "B" u2 := (F2.other W4 (Or.inr (slot_ne (Or.inr (hw _ (List.mem_of_getElem? (i := 35) rfl))) (Or.inr (hw _ (List.mem_of_getElem? (i := 33) rfl))) (by decide) (t := .byte) (t' := (.array .byte)) (by decide) (by decide))))
  have k7 : To p.tables e below S0 (T4.setTop (mkF m 11 #[.val (.ref a), .val (.ref t), .val (.int (0 : Int32))] [(.int (0 : Int32)), (.ref a)])) := fun tt hq => k4 tt (by
    show Steps _ _ _ (T4.setTop (mkF m 9 #[.val (.ref a), .val (.ref t), .val (.int (0 : Int32))] [])) _
    refine XS.aloadN X4.here hx rfl (hb hby d_jdk_42_method_151_code_9) rfl rfl ?_
    show Steps _ _ _ (T4.setTop (mkF m 10 #[.val (.ref a), .val (.ref t), .val (.int (0 : Int32))] [(.ref a)])) _
    refine XS.iloadN X4.here hx rfl (hb hby d_jdk_42_method_151_code_10) rfl ?_
    show Steps _ _ _ (T4.setTop (mkF m 11 #[.val (.ref a), .val (.ref t), .val (.int (0 : Int32))] [(.int (0 : Int32)), (.ref a)])) _
    exact hq)
  obtain ⟨T8, h8, X8, e8, W8, st8⟩ := putF X4 hx hZ hown (host := "") (Or.inl (hw _ (List.mem_of_getElem? (i := 34) rfl))) Via.refl e4 f6 f5 (Or.inr ⟨(hw _ (List.mem_of_getElem? (i := 35) rfl)), rfl, hnm⟩) (hw _ (List.mem_of_getElem? (i := 20) rfl)) (ty := .byte) (by decide) rfl rfl (g := (mkF m 11 #[.val (.ref a), .val (.ref t), .val (.int (0 : Int32))] [(.int (0 : Int32)), (.ref a)])) rfl rfl (hb hby d_jdk_42_method_151_code_11)
  have k8 : To p.tables e below S0 (T8.setTop (mkF m 14 #[.val (.ref a), .val (.ref t), .val (.int (0 : Int32))] [])) := fun tt hq => k7 tt (st8 tt hq)
  have z8 : h8.size = h4.size := W8.size
  have F8 := f6.same W8
  have N8 := Fr.snoc X8 N4 (by omega : n0 ≤ a)
  have f9 : Exa Z h8 a "java/lang/String" := (f5.wr W8)
  have f10 : Fld Z h8 a "java/lang/String" "value" "[B" (.ref t) := (F4.other W8 (Or.inr (slot_ne (Or.inr (hw _ (List.mem_of_getElem? (i := 33) rfl))) (Or.inr (hw _ (List.mem_of_getElem? (i := 35) rfl))) (by decide) (t := (.array .byte)) (t' := .byte) (by decide) (by decide))))
  have hE := e8
  refine retVoid X8 hx hret hlk (hb hby d_jdk_42_method_151_code_14) k8 ?_ (by decide) (by decide)
  try rw [hE]
  exact ⟨rfl, N8, (((Keep.refl h0 [a]).wr W4 (Or.inl (by simp))).wr W8 (Or.inl (by simp))), f9, f10, F8⟩
theorem d_jdk_42_method_139_code_0 : decode jdk_42_method_139_code 0 = .ok (.getstatic 38, 3) := by decide +kernel
theorem d_jdk_42_method_139_code_3 : decode jdk_42_method_139_code 3 = .ok (.ifCond .eq 23, 3) := by decide +kernel
theorem d_jdk_42_method_139_code_6 : decode jdk_42_method_139_code 6 = .ok (.iload_n 0, 1) := by decide +kernel
theorem d_jdk_42_method_139_code_7 : decode jdk_42_method_139_code 7 = .ok (.invokestatic 1015, 3) := by decide +kernel
theorem d_jdk_42_method_139_code_10 : decode jdk_42_method_139_code 10 = .ok (.ifCond .eq 16, 3) := by decide +kernel
theorem d_jdk_42_method_139_code_13 : decode jdk_42_method_139_code 13 = .ok (.new 10, 3) := by decide +kernel
theorem d_jdk_42_method_139_code_16 : decode jdk_42_method_139_code 16 = .ok (.dup, 1) := by decide +kernel
theorem d_jdk_42_method_139_code_17 : decode jdk_42_method_139_code 17 = .ok (.iload_n 0, 1) := by decide +kernel
theorem d_jdk_42_method_139_code_18 : decode jdk_42_method_139_code 18 = .ok (.invokestatic 1018, 3) := by decide +kernel
theorem d_jdk_42_method_139_code_21 : decode jdk_42_method_139_code 21 = .ok (.iconst 0, 1) := by decide +kernel
theorem d_jdk_42_method_139_code_22 : decode jdk_42_method_139_code 22 = .ok (.invokespecial 209, 3) := by decide +kernel
theorem d_jdk_42_method_139_code_25 : decode jdk_42_method_139_code 25 = .ok (.areturn, 1) := by decide +kernel
theorem d_jdk_42_method_139_code_26 : decode jdk_42_method_139_code 26 = .ok (.new 10, 3) := by decide +kernel
theorem d_jdk_42_method_139_code_29 : decode jdk_42_method_139_code 29 = .ok (.dup, 1) := by decide +kernel
theorem d_jdk_42_method_139_code_30 : decode jdk_42_method_139_code 30 = .ok (.iload_n 0, 1) := by decide +kernel
theorem d_jdk_42_method_139_code_31 : decode jdk_42_method_139_code 31 = .ok (.invokestatic 1021, 3) := by decide +kernel
theorem d_jdk_42_method_139_code_34 : decode jdk_42_method_139_code 34 = .ok (.iconst 1, 1) := by decide +kernel
theorem d_jdk_42_method_139_code_35 : decode jdk_42_method_139_code 35 = .ok (.invokespecial 209, 3) := by decide +kernel
theorem d_jdk_42_method_139_code_38 : decode jdk_42_method_139_code 38 = .ok (.areturn, 1) := by decide +kernel
theorem pd_1 : parseMethodDescriptor "(C)Z" = some ⟨[.char], some .boolean⟩ := by decide +kernel
theorem pd_2 : parseMethodDescriptor "(C)[B" = some ⟨[.char], some (.array .byte)⟩ := by decide +kernel
theorem pd_3 : parseMethodDescriptor "([BB)V" = some ⟨[(.array .byte), .byte], none⟩ := by decide +kernel
set_option maxRecDepth 65536 in
set_option maxHeartbeats 40000000 in
theorem rm_vof (l : Launch) (Z : State) (a0 : Array Value) (hw : ∀ d ∈ tables_1, d.before a0 Z = true) (zc : Int32) (c : Int32) (h0 : Heap) (n0 : Nat) (hn0 : n0 ≤ h0.size) (S_c : Sta Z Z.heap "java/lang/String" "COMPACT_STRINGS" "Z" (.int zc)) (hzc : ¬ zc = (0 : Int32)) (O0 : Old Z n0 h0) (hc : ¬ (255 : Int32) < c) :
    Con l Z (⟨"java/lang/String", "valueOf", "(C)Ljava/lang/String;"⟩ : MethodName) jdk_42_method_139_code 1 (some (.object "java/lang/String")) [] ({ frames := 2, cells := 2, slots := 5, locals := 27 } : Room) #[(.int c)] h0 (fun v h L => ∃ (a t : Addr) (k : ClassId), v = some (.ref a) ∧ Fr n0 L ∧ h0.size ≤ a ∧ h0.size ≤ t ∧ Keep h0 h [] ∧ Exa Z h a "java/lang/String" ∧ Fld Z h a "java/lang/String" "value" "[B" (.ref t) ∧ Fld Z h a "java/lang/String" "coder" "B" (.int (0 : Int32)) ∧ Arv Z h t k .byte (1 : Int32) [(.int (nar .byte (c.toInt8.toInt32)))] (.int (0 : Int32))) := by
  refine enter (Ls := #[.val (.int c)]) (plainFor_of_name pn_0) (fun m => by exact entry_eq rfl) ?_
  intro p e s m below meth cd_ s₁ S0 hx hby hml hret hlk hnm hown hZ X0 e0 k0
  have N0 := Fr.nil n0
  obtain ⟨T1, X1, e1, st1⟩ := getS2 X0 hx hZ hown (host := "") (Or.inl (hw _ (List.mem_of_getElem? (i := 14) rfl))) Via.refl e0 (staOld S_c O0) (g := (mkF m 0 #[.val (.int c)] [])) rfl (hb hby d_jdk_42_method_139_code_0)
  have k1 : To p.tables e below S0 (T1.setTop (mkF m 3 #[.val (.int c)] [(.int zc)])) := fun tt hq => k0 tt (st1 tt hq)
  have k2 : To p.tables e below S0 (T1.setTop (mkF m 7 #[.val (.int c)] [(.int c)])) := fun tt hq => k1 tt (by
    show Steps _ _ _ (T1.setTop (mkF m 3 #[.val (.int c)] [(.int zc)])) _
    refine XS.ifNo X1.here hx rfl (hb hby d_jdk_42_method_139_code_3) rfl ((if0 _ _).trans (feq hzc).1) ?_
    show Steps _ _ _ (T1.setTop (mkF m 6 #[.val (.int c)] [])) _
    refine XS.iloadN X1.here hx rfl (hb hby d_jdk_42_method_139_code_6) rfl ?_
    show Steps _ _ _ (T1.setTop (mkF m 7 #[.val (.int c)] [(.int c)])) _
    exact hq)
  obtain ⟨_, T3, L3, X3, ⟨rfl, Nq3, eq3⟩, k3a⟩ := callS' X1 hx hZ (y := (⟨"java/lang/StringLatin1", "canEncode", "(C)Z"⟩ : MethodName)) hown (hw _ (List.mem_of_getElem? (i := 15) rfl)) (hw _ (List.mem_of_getElem? (i := 16) rfl)) (hw _ (List.mem_of_getElem? (i := 17) rfl)) (hw _ (List.mem_of_getElem? (i := 18) rfl)) (by decide) (backC (W := 0) (rm_enc l Z a0 hw c h0 n0 (by omega) hc) hZ (hw _ (List.mem_of_getElem? (i := 18) rfl)) (hw _ (List.mem_of_getElem? (i := 17) rfl)) (by decide) (by decide)) e1 (argsL := [(.int c)]) (rest := []) rfl rfl pd_1 rfl (by rw [hml]; rfl) (hb hby d_jdk_42_method_139_code_7) (Nat.le_of_eq rfl) (by decide) (by decide) k2
  have k3 : To p.tables e below S0 (T3.setTop (mkF m 10 #[.val (.int c)] [(.int (1 : Int32))])) := k3a
  have N3 := N0.app Nq3
  have e3 : T3.heap = h0 := eq3
  have k4 : To p.tables e below S0 (T3.setTop (mkF m 13 #[.val (.int c)] [])) := fun tt hq => k3 tt (by
    show Steps _ _ _ (T3.setTop (mkF m 10 #[.val (.int c)] [(.int (1 : Int32))])) _
    refine XS.ifNo X3.here hx rfl (hb hby d_jdk_42_method_139_code_10) rfl ((if0 _ _).trans (feq (by decide)).1) ?_
    show Steps _ _ _ (T3.setTop (mkF m 13 #[.val (.int c)] [])) _
    exact hq)
  obtain ⟨T5, h5, X5, e5, E5, A5, D5, -, st5⟩ := newO X3 hx hZ hown (hw _ (List.mem_of_getElem? (i := 19) rfl)) (hw _ (List.mem_of_getElem? (i := 20) rfl)) (hw _ (List.mem_of_getElem? (i := 12) rfl)) e3 (g := (mkF m 13 #[.val (.int c)] [])) rfl (hb hby d_jdk_42_method_139_code_13) (by decide) (by decide)
  obtain ⟨b5, g5⟩ : ∃ z, z = h0.size := ⟨_, rfl⟩
  rw [← g5] at A5 D5 st5
  have k5 : To p.tables e below S0 (T5.setTop (mkF m 16 #[.val (.int c)] [(.ref b5)])) := fun tt hq => k4 tt (st5 tt hq)
  have z5 : h0.size ≤ h5.size := E5.1
  have y5 : @LT.lt Nat instLTNat b5 h5.size := A5.lt
  have F5_value : Fld Z h5 b5 "java/lang/String" "value" "[B" .null := D5 (Or.inr (hw _ (List.mem_of_getElem? (i := 33) rfl))) (ty := (.array .byte)) (by decide)
  have F5_coder : Fld Z h5 b5 "java/lang/String" "coder" "B" (.int (0 : Int32)) := D5 (Or.inr (hw _ (List.mem_of_getElem? (i := 35) rfl))) (ty := .byte) (by decide)
  have k6 : To p.tables e below S0 (T5.setTop (mkF m 18 #[.val (.int c)] [(.int c), (.ref b5), (.ref b5)])) := fun tt hq => k5 tt (by
    show Steps _ _ _ (T5.setTop (mkF m 16 #[.val (.int c)] [(.ref b5)])) _
    refine XS.dup X5.here hx rfl (hb hby d_jdk_42_method_139_code_16) rfl rfl ?_
    show Steps _ _ _ (T5.setTop (mkF m 17 #[.val (.int c)] [(.ref b5), (.ref b5)])) _
    refine XS.iloadN X5.here hx rfl (hb hby d_jdk_42_method_139_code_17) rfl ?_
    show Steps _ _ _ (T5.setTop (mkF m 18 #[.val (.int c)] [(.int c), (.ref b5), (.ref b5)])) _
    exact hq)
  obtain ⟨_, T7, L7, X7, ⟨t7, kt7, rfl, Nq7, gt7, Kq7, V7⟩, k7a⟩ := callS' X5 hx hZ (y := (⟨"java/lang/StringLatin1", "toBytes", "(C)[B"⟩ : MethodName)) hown (hw _ (List.mem_of_getElem? (i := 21) rfl)) (hw _ (List.mem_of_getElem? (i := 22) rfl)) (hw _ (List.mem_of_getElem? (i := 17) rfl)) (hw _ (List.mem_of_getElem? (i := 23) rfl)) (by decide) (backC (W := 2) (rm_tob l Z a0 hw c h5 n0 (by omega)) hZ (hw _ (List.mem_of_getElem? (i := 23) rfl)) (hw _ (List.mem_of_getElem? (i := 17) rfl)) (by decide) (by decide)) e5 (argsL := [(.int c)]) (rest := [(.ref b5), (.ref b5)]) rfl rfl pd_2 rfl (by rw [hml]; rfl) (hb hby d_jdk_42_method_139_code_18) (Nat.le_of_eq rfl) (by decide) (by decide) k6
  have k7 : To p.tables e below S0 (T7.setTop (mkF m 21 #[.val (.int c)] [(.ref t7), (.ref b5), (.ref b5)])) := k7a
  have N7 := N3.app Nq7
  obtain ⟨h7, e7⟩ : ∃ z, T7.heap = z := ⟨_, rfl⟩
  rw [e7] at Kq7 V7
  have z7 : h5.size ≤ h7.size := Kq7.1
  have y7 : @LT.lt Nat instLTNat t7 h7.size := V7.lt
  have k8 : To p.tables e below S0 (T7.setTop (mkF m 22 #[.val (.int c)] [(.int (0 : Int32)), (.ref t7), (.ref b5), (.ref b5)])) := fun tt hq => k7 tt (by
    show Steps _ _ _ (T7.setTop (mkF m 21 #[.val (.int c)] [(.ref t7), (.ref b5), (.ref b5)])) _
    refine XS.iconst X7.here hx rfl (hb hby d_jdk_42_method_139_code_21) ?_
    show Steps _ _ _ (T7.setTop (mkF m 22 #[.val (.int c)] [(.int (0 : Int32)), (.ref t7), (.ref b5), (.ref b5)])) _
    exact hq)
  have f9 : Exa Z h7 b5 "java/lang/String" := (A5.keep Kq7)
  have f10 : Fld Z h7 b5 "java/lang/String" "value" "[B" .null := (F5_value.keep Kq7 nin0)
  have f11 : Fld Z h7 b5 "java/lang/String" "coder" "B" (.int (0 : Int32)) := (F5_coder.keep Kq7 nin0)
  obtain ⟨_, T12, L12, X12, ⟨rfl, Nq12, Kq12, A12, Fv12, Fc12⟩, k12a⟩ := callC' X7 hx hZ (y := (⟨"java/lang/String", "<init>", "([BB)V"⟩ : MethodName)) rfl hown (hw _ (List.mem_of_getElem? (i := 25) rfl)) (hw _ (List.mem_of_getElem? (i := 26) rfl)) (hw _ (List.mem_of_getElem? (i := 28) rfl)) (by decide) (backC (W := 1) (rm_sbb l Z a0 hw b5 t7 .null (.int (0 : Int32)) h7 n0 (by omega) f9 f10 f11 (by omega)) hZ (hw _ (List.mem_of_getElem? (i := 28) rfl)) (hw _ (List.mem_of_getElem? (i := 12) rfl)) (by decide) (by decide)) e7 (argsL := [(.ref t7), (.int (0 : Int32))]) (rest := [(.ref b5)]) rfl rfl pd_3 rfl (by rw [hml]; rfl) (hb hby d_jdk_42_method_139_code_22) (Nat.le_of_eq rfl) (by decide) (by decide) k8
  have k12 : To p.tables e below S0 (T12.setTop (mkF m 25 #[.val (.int c)] [(.ref b5)])) := k12a
  have N12 := N7.app Nq12
  obtain ⟨h12, e12⟩ : ∃ z, T12.heap = z := ⟨_, rfl⟩
  rw [e12] at Kq12 A12 Fv12 Fc12
  have z12 : h7.size ≤ h12.size := Kq12.1
  have f13 : Arv Z h12 t7 kt7 .byte (1 : Int32) [(.int (nar .byte (c.toInt8.toInt32)))] (.int (0 : Int32)) := (V7.keep Kq12 (ninS (adr_ne (by omega)) nin0))
  have hE := e12
  refine retRef X12 hx hret hlk rfl rfl (hb hby d_jdk_42_method_139_code_25) k12 ?_ (by decide) (by decide)
  try rw [hE]
  exact ⟨b5, t7, kt7, rfl, N12, (by omega), (by omega), ((((Keep.refl h0 []).ext E5).trans Kq7 all0).trans Kq12 (allS (Or.inr (by omega)) all0)), A12, Fv12, Fc12, f13⟩
theorem d_jdk_42_method_152_code_0 : decode jdk_42_method_152_code 0 = .ok (.getstatic 38, 3) := by decide +kernel
theorem d_jdk_42_method_152_code_3 : decode jdk_42_method_152_code 3 = .ok (.ifCond .eq 10, 3) := by decide +kernel
theorem d_jdk_42_method_152_code_6 : decode jdk_42_method_152_code 6 = .ok (.aload_n 0, 1) := by decide +kernel
theorem d_jdk_42_method_152_code_7 : decode jdk_42_method_152_code 7 = .ok (.getfield 15, 3) := by decide +kernel
theorem d_jdk_42_method_152_code_10 : decode jdk_42_method_152_code 10 = .ok (.goto 4, 3) := by decide +kernel
theorem d_jdk_42_method_152_code_13 : decode jdk_42_method_152_code 13 = .ok (.iconst 1, 1) := by decide +kernel
theorem d_jdk_42_method_152_code_14 : decode jdk_42_method_152_code 14 = .ok (.ireturn, 1) := by decide +kernel
set_option maxRecDepth 65536 in
set_option maxHeartbeats 40000000 in
theorem rm_coder (l : Launch) (Z : State) (a0 : Array Value) (hw : ∀ d ∈ tables_1, d.before a0 Z = true) (zc : Int32) (a : Addr) (h0 : Heap) (n0 : Nat) (hn0 : n0 ≤ h0.size) (S_c : Sta Z Z.heap "java/lang/String" "COMPACT_STRINGS" "Z" (.int zc)) (hzc : ¬ zc = (0 : Int32)) (O0 : Old Z n0 h0) (F0 : Fld Z h0 a "java/lang/String" "coder" "B" (.int (0 : Int32))) :
    Con l Z (⟨"java/lang/String", "coder", "()B"⟩ : MethodName) jdk_42_method_152_code 1 (some .byte) [] ({ frames := 0, cells := 0, slots := 0, locals := 0 } : Room) #[(.ref a)] h0 (fun v h L => v = some (.int (0 : Int32)) ∧ Fr n0 L ∧ h = h0) := by
  refine enter (Ls := #[.val (.ref a)]) (plainFor_of_name pn_0) (fun m => by exact entry_eq rfl) ?_
  intro p e s m below meth cd_ s₁ S0 hx hby hml hret hlk hnm hown hZ X0 e0 k0
  have N0 := Fr.nil n0
  obtain ⟨T1, X1, e1, st1⟩ := getS2 X0 hx hZ hown (host := "") (Or.inl (hw _ (List.mem_of_getElem? (i := 14) rfl))) Via.refl e0 (staOld S_c O0) (g := (mkF m 0 #[.val (.ref a)] [])) rfl (hb hby d_jdk_42_method_152_code_0)
  have k1 : To p.tables e below S0 (T1.setTop (mkF m 3 #[.val (.ref a)] [(.int zc)])) := fun tt hq => k0 tt (st1 tt hq)
  have k2 : To p.tables e below S0 (T1.setTop (mkF m 7 #[.val (.ref a)] [(.ref a)])) := fun tt hq => k1 tt (by
    show Steps _ _ _ (T1.setTop (mkF m 3 #[.val (.ref a)] [(.int zc)])) _
    refine XS.ifNo X1.here hx rfl (hb hby d_jdk_42_method_152_code_3) rfl ((if0 _ _).trans (feq hzc).1) ?_
    show Steps _ _ _ (T1.setTop (mkF m 6 #[.val (.ref a)] [])) _
    refine XS.aloadN X1.here hx rfl (hb hby d_jdk_42_method_152_code_6) rfl rfl ?_
    show Steps _ _ _ (T1.setTop (mkF m 7 #[.val (.ref a)] [(.ref a)])) _
    exact hq)
  obtain ⟨T3, X3, e3, st3⟩ := getF X1 hx hZ hown (host := "") (Or.inl (hw _ (List.mem_of_getElem? (i := 34) rfl))) Via.refl e1 F0 (g := (mkF m 7 #[.val (.ref a)] [(.ref a)])) rfl rfl (hb hby d_jdk_42_method_152_code_7)
  have k3 : To p.tables e below S0 (T3.setTop (mkF m 10 #[.val (.ref a)] [(.int (0 : Int32))])) := fun tt hq => k2 tt (st3 tt hq)
  have k4 : To p.tables e below S0 (T3.setTop (mkF m 14 #[.val (.ref a)] [(.int (0 : Int32))])) := fun tt hq => k3 tt (by
    show Steps _ _ _ (T3.setTop (mkF m 10 #[.val (.ref a)] [(.int (0 : Int32))])) _
    refine XS.goto X3.here hx rfl (pc0 := 10) (pc' := 14) rfl (hb hby d_jdk_42_method_152_code_10) (by decide) (by decide) ?_
    show Steps _ _ _ (T3.setTop (mkF m 14 #[.val (.ref a)] [(.int (0 : Int32))])) _
    exact hq)
  have hE := e3
  refine retInt X3 hx hret hlk (by simp) rfl (hb hby d_jdk_42_method_152_code_14) k4 ?_ (by decide) (by decide)
  try rw [hE]
  exact ⟨rfl, N0, rfl⟩
theorem d_jdk_42_method_54_code_0 : decode jdk_42_method_54_code 0 = .ok (.aload_n 0, 1) := by decide +kernel
theorem d_jdk_42_method_54_code_1 : decode jdk_42_method_54_code 1 = .ok (.getfield 9, 3) := by decide +kernel
theorem d_jdk_42_method_54_code_4 : decode jdk_42_method_54_code 4 = .ok (.arraylength, 1) := by decide +kernel
theorem d_jdk_42_method_54_code_5 : decode jdk_42_method_54_code 5 = .ok (.aload_n 0, 1) := by decide +kernel
theorem d_jdk_42_method_54_code_6 : decode jdk_42_method_54_code 6 = .ok (.invokevirtual 335, 3) := by decide +kernel
theorem d_jdk_42_method_54_code_9 : decode jdk_42_method_54_code 9 = .ok (.ishr, 1) := by decide +kernel
theorem d_jdk_42_method_54_code_10 : decode jdk_42_method_54_code 10 = .ok (.ireturn, 1) := by decide +kernel
theorem pd_4 : parseMethodDescriptor "()B" = some ⟨[], some .byte⟩ := by decide +kernel
set_option maxRecDepth 65536 in
set_option maxHeartbeats 40000000 in
theorem rm_len0 (l : Launch) (Z : State) (a0 : Array Value) (hw : ∀ d ∈ tables_1, d.before a0 Z = true) (zc : Int32) (a : Addr) (t : Addr) (kt : ClassId) (h0 : Heap) (n0 : Nat) (hn0 : n0 ≤ h0.size) (S_c : Sta Z Z.heap "java/lang/String" "COMPACT_STRINGS" "Z" (.int zc)) (hzc : ¬ zc = (0 : Int32)) (O0 : Old Z n0 h0) (P0 : Exa Z h0 a "java/lang/String") (P1 : Fld Z h0 a "java/lang/String" "value" "[B" (.ref t)) (P2 : Fld Z h0 a "java/lang/String" "coder" "B" (.int (0 : Int32))) (P3 : Arv Z h0 t kt .byte (0 : Int32) [] (.int 0)) :
    Con l Z (⟨"java/lang/String", "length", "()I"⟩ : MethodName) jdk_42_method_54_code 1 (some .int) [] ({ frames := 1, cells := 0, slots := 0, locals := 13 } : Room) #[(.ref a)] h0 (fun v h L => v = some (.int (0 : Int32)) ∧ Fr n0 L ∧ h = h0) := by
  refine enter (Ls := #[.val (.ref a)]) (plainFor_of_name pn_0) (fun m => by exact entry_eq rfl) ?_
  intro p e s m below meth cd_ s₁ S0 hx hby hml hret hlk hnm hown hZ X0 e0 k0
  have N0 := Fr.nil n0
  have k1 : To p.tables e below S0 (s₁.setTop (mkF m 1 #[.val (.ref a)] [(.ref a)])) := fun tt hq => k0 tt (by
    show Steps _ _ _ (s₁.setTop (mkF m 0 #[.val (.ref a)] [])) _
    refine XS.aloadN X0.here hx rfl (hb hby d_jdk_42_method_54_code_0) rfl rfl ?_
    show Steps _ _ _ (s₁.setTop (mkF m 1 #[.val (.ref a)] [(.ref a)])) _
    exact hq)
  obtain ⟨T2, X2, e2, st2⟩ := getF X0 hx hZ hown (host := "") (Or.inl (hw _ (List.mem_of_getElem? (i := 32) rfl))) Via.refl e0 P1 (g := (mkF m 1 #[.val (.ref a)] [(.ref a)])) rfl rfl (hb hby d_jdk_42_method_54_code_1)
  have k2 : To p.tables e below S0 (T2.setTop (mkF m 4 #[.val (.ref a)] [(.ref t)])) := fun tt hq => k1 tt (st2 tt hq)
  obtain ⟨cl3, Ar3, -, S3, M3, -, -⟩ := id P3
  have st3 := fun tt => X2.arraylength hx (by rw [e2]; exact Ar3.1) (State.isArrayOf_alike hZ.alike Ar3.2.1) (g := (mkF m 4 #[.val (.ref a)] [(.ref t)])) rfl rfl (hb hby d_jdk_42_method_54_code_4) tt
  rw [len_of S3 M3] at st3
  have k3 : To p.tables e below S0 (T2.setTop (mkF m 5 #[.val (.ref a)] [(.int (0 : Int32))])) := fun tt hq => k2 tt (st3 tt hq)
  have k4 : To p.tables e below S0 (T2.setTop (mkF m 6 #[.val (.ref a)] [(.ref a), (.int (0 : Int32))])) := fun tt hq => k3 tt (by
    show Steps _ _ _ (T2.setTop (mkF m 5 #[.val (.ref a)] [(.int (0 : Int32))])) _
    refine XS.aloadN X2.here hx rfl (hb hby d_jdk_42_method_54_code_5) rfl rfl ?_
    show Steps _ _ _ (T2.setTop (mkF m 6 #[.val (.ref a)] [(.ref a), (.int (0 : Int32))])) _
    exact hq)
  obtain ⟨_, T5, L5, X5, ⟨rfl, Nq5, eq5⟩, k5a⟩ := callV' X2 hx hZ (y := (⟨"java/lang/String", "coder", "()B"⟩ : MethodName)) (z := (⟨"java/lang/String", "coder", "()B"⟩ : MethodName)) hown (hw _ (List.mem_of_getElem? (i := 90) rfl)) (hw _ (List.mem_of_getElem? (i := 91) rfl)) (notFace_of_selects (args := #[]) (mvT hZ (hw _ (List.mem_of_getElem? (i := 93) rfl)))) (hw _ (List.mem_of_getElem? (i := 93) rfl)) (hw _ (List.mem_of_getElem? (i := 92) rfl)) (by decide) P0 (backC (W := 1) (rm_coder l Z a0 hw zc a h0 n0 (by omega) S_c hzc O0 P2) hZ (hw _ (List.mem_of_getElem? (i := 94) rfl)) (hw _ (List.mem_of_getElem? (i := 12) rfl)) (by decide) (by decide)) e2 (argsL := []) (rest := [(.int (0 : Int32))]) rfl rfl pd_4 rfl (by rw [hml]; rfl) (hb hby d_jdk_42_method_54_code_6) (Nat.le_of_eq rfl) (by decide) (by decide) k4
  have k5 : To p.tables e below S0 (T5.setTop (mkF m 9 #[.val (.ref a)] [(.int (0 : Int32)), (.int (0 : Int32))])) := k5a
  have N5 := N0.app Nq5
  have e5 : T5.heap = h0 := eq5
  have k6 : To p.tables e below S0 (T5.setTop (mkF m 10 #[.val (.ref a)] [(.int (0 : Int32))])) := fun tt hq => k5 tt (by
    show Steps _ _ _ (T5.setTop (mkF m 9 #[.val (.ref a)] [(.int (0 : Int32)), (.int (0 : Int32))])) _
    refine XS.ishr X5.here hx rfl (hb hby d_jdk_42_method_54_code_9) rfl ?_
    show Steps _ _ _ (T5.setTop (mkF m 10 #[.val (.ref a)] [(.int (0 : Int32))])) _
    exact hq)
  have hE := e5
  refine retInt X5 hx hret hlk (by simp) rfl (hb hby d_jdk_42_method_54_code_10) k6 ?_ (by decide) (by decide)
  try rw [hE]
  exact ⟨rfl, N5, rfl⟩
set_option maxRecDepth 65536 in
set_option maxHeartbeats 40000000 in
theorem rm_len1 (l : Launch) (Z : State) (a0 : Array Value) (hw : ∀ d ∈ tables_1, d.before a0 Z = true) (zc : Int32) (a : Addr) (t : Addr) (kt : ClassId) (c0 : Int32) (h0 : Heap) (n0 : Nat) (hn0 : n0 ≤ h0.size) (S_c : Sta Z Z.heap "java/lang/String" "COMPACT_STRINGS" "Z" (.int zc)) (hzc : ¬ zc = (0 : Int32)) (O0 : Old Z n0 h0) (P0 : Exa Z h0 a "java/lang/String") (P1 : Fld Z h0 a "java/lang/String" "value" "[B" (.ref t)) (P2 : Fld Z h0 a "java/lang/String" "coder" "B" (.int (0 : Int32))) (P3 : Arv Z h0 t kt .byte (1 : Int32) [(.int c0)] (.int 0)) :
    Con l Z (⟨"java/lang/String", "length", "()I"⟩ : MethodName) jdk_42_method_54_code 1 (some .int) [] ({ frames := 1, cells := 0, slots := 0, locals := 13 } : Room) #[(.ref a)] h0 (fun v h L => v = some (.int (1 : Int32)) ∧ Fr n0 L ∧ h = h0) := by
  refine enter (Ls := #[.val (.ref a)]) (plainFor_of_name pn_0) (fun m => by exact entry_eq rfl) ?_
  intro p e s m below meth cd_ s₁ S0 hx hby hml hret hlk hnm hown hZ X0 e0 k0
  have N0 := Fr.nil n0
  have k1 : To p.tables e below S0 (s₁.setTop (mkF m 1 #[.val (.ref a)] [(.ref a)])) := fun tt hq => k0 tt (by
    show Steps _ _ _ (s₁.setTop (mkF m 0 #[.val (.ref a)] [])) _
    refine XS.aloadN X0.here hx rfl (hb hby d_jdk_42_method_54_code_0) rfl rfl ?_
    show Steps _ _ _ (s₁.setTop (mkF m 1 #[.val (.ref a)] [(.ref a)])) _
    exact hq)
  obtain ⟨T2, X2, e2, st2⟩ := getF X0 hx hZ hown (host := "") (Or.inl (hw _ (List.mem_of_getElem? (i := 32) rfl))) Via.refl e0 P1 (g := (mkF m 1 #[.val (.ref a)] [(.ref a)])) rfl rfl (hb hby d_jdk_42_method_54_code_1)
  have k2 : To p.tables e below S0 (T2.setTop (mkF m 4 #[.val (.ref a)] [(.ref t)])) := fun tt hq => k1 tt (st2 tt hq)
  obtain ⟨cl3, Ar3, -, S3, M3, -, -⟩ := id P3
  have st3 := fun tt => X2.arraylength hx (by rw [e2]; exact Ar3.1) (State.isArrayOf_alike hZ.alike Ar3.2.1) (g := (mkF m 4 #[.val (.ref a)] [(.ref t)])) rfl rfl (hb hby d_jdk_42_method_54_code_4) tt
  rw [len_of S3 M3] at st3
  have k3 : To p.tables e below S0 (T2.setTop (mkF m 5 #[.val (.ref a)] [(.int (1 : Int32))])) := fun tt hq => k2 tt (st3 tt hq)
  have k4 : To p.tables e below S0 (T2.setTop (mkF m 6 #[.val (.ref a)] [(.ref a), (.int (1 : Int32))])) := fun tt hq => k3 tt (by
    show Steps _ _ _ (T2.setTop (mkF m 5 #[.val (.ref a)] [(.int (1 : Int32))])) _
    refine XS.aloadN X2.here hx rfl (hb hby d_jdk_42_method_54_code_5) rfl rfl ?_
    show Steps _ _ _ (T2.setTop (mkF m 6 #[.val (.ref a)] [(.ref a), (.int (1 : Int32))])) _
    exact hq)
  obtain ⟨_, T5, L5, X5, ⟨rfl, Nq5, eq5⟩, k5a⟩ := callV' X2 hx hZ (y := (⟨"java/lang/String", "coder", "()B"⟩ : MethodName)) (z := (⟨"java/lang/String", "coder", "()B"⟩ : MethodName)) hown (hw _ (List.mem_of_getElem? (i := 90) rfl)) (hw _ (List.mem_of_getElem? (i := 91) rfl)) (notFace_of_selects (args := #[]) (mvT hZ (hw _ (List.mem_of_getElem? (i := 93) rfl)))) (hw _ (List.mem_of_getElem? (i := 93) rfl)) (hw _ (List.mem_of_getElem? (i := 92) rfl)) (by decide) P0 (backC (W := 1) (rm_coder l Z a0 hw zc a h0 n0 (by omega) S_c hzc O0 P2) hZ (hw _ (List.mem_of_getElem? (i := 94) rfl)) (hw _ (List.mem_of_getElem? (i := 12) rfl)) (by decide) (by decide)) e2 (argsL := []) (rest := [(.int (1 : Int32))]) rfl rfl pd_4 rfl (by rw [hml]; rfl) (hb hby d_jdk_42_method_54_code_6) (Nat.le_of_eq rfl) (by decide) (by decide) k4
  have k5 : To p.tables e below S0 (T5.setTop (mkF m 9 #[.val (.ref a)] [(.int (0 : Int32)), (.int (1 : Int32))])) := k5a
  have N5 := N0.app Nq5
  have e5 : T5.heap = h0 := eq5
  have k6 : To p.tables e below S0 (T5.setTop (mkF m 10 #[.val (.ref a)] [(.int (1 : Int32))])) := fun tt hq => k5 tt (by
    show Steps _ _ _ (T5.setTop (mkF m 9 #[.val (.ref a)] [(.int (0 : Int32)), (.int (1 : Int32))])) _
    refine XS.ishr X5.here hx rfl (hb hby d_jdk_42_method_54_code_9) rfl ?_
    show Steps _ _ _ (T5.setTop (mkF m 10 #[.val (.ref a)] [(.int (1 : Int32))])) _
    exact hq)
  have hE := e5
  refine retInt X5 hx hret hlk (by simp) rfl (hb hby d_jdk_42_method_54_code_10) k6 ?_ (by decide) (by decide)
  try rw [hE]
  exact ⟨rfl, N5, rfl⟩
theorem d_jdk_42_method_154_code_0 : decode jdk_42_method_154_code 0 = .ok (.getstatic 38, 3) := by decide +kernel
theorem d_jdk_42_method_154_code_3 : decode jdk_42_method_154_code 3 = .ok (.ifCond .eq 14, 3) := by decide +kernel
theorem d_jdk_42_method_154_code_6 : decode jdk_42_method_154_code 6 = .ok (.aload_n 0, 1) := by decide +kernel
theorem d_jdk_42_method_154_code_7 : decode jdk_42_method_154_code 7 = .ok (.getfield 15, 3) := by decide +kernel
theorem d_jdk_42_method_154_code_10 : decode jdk_42_method_154_code 10 = .ok (.ifCond .ne 7, 3) := by decide +kernel
theorem d_jdk_42_method_154_code_13 : decode jdk_42_method_154_code 13 = .ok (.iconst 1, 1) := by decide +kernel
theorem d_jdk_42_method_154_code_14 : decode jdk_42_method_154_code 14 = .ok (.goto 4, 3) := by decide +kernel
theorem d_jdk_42_method_154_code_17 : decode jdk_42_method_154_code 17 = .ok (.iconst 0, 1) := by decide +kernel
theorem d_jdk_42_method_154_code_18 : decode jdk_42_method_154_code 18 = .ok (.ireturn, 1) := by decide +kernel
set_option maxRecDepth 65536 in
set_option maxHeartbeats 40000000 in
theorem rm_latin (l : Launch) (Z : State) (a0 : Array Value) (hw : ∀ d ∈ tables_1, d.before a0 Z = true) (zc : Int32) (a : Addr) (h0 : Heap) (n0 : Nat) (hn0 : n0 ≤ h0.size) (S_c : Sta Z Z.heap "java/lang/String" "COMPACT_STRINGS" "Z" (.int zc)) (hzc : ¬ zc = (0 : Int32)) (O0 : Old Z n0 h0) (F0 : Fld Z h0 a "java/lang/String" "coder" "B" (.int (0 : Int32))) :
    Con l Z (⟨"java/lang/String", "isLatin1", "()Z"⟩ : MethodName) jdk_42_method_154_code 1 (some .boolean) [] ({ frames := 0, cells := 0, slots := 0, locals := 0 } : Room) #[(.ref a)] h0 (fun v h L => v = some (.int (1 : Int32)) ∧ Fr n0 L ∧ h = h0) := by
  refine enter (Ls := #[.val (.ref a)]) (plainFor_of_name pn_0) (fun m => by exact entry_eq rfl) ?_
  intro p e s m below meth cd_ s₁ S0 hx hby hml hret hlk hnm hown hZ X0 e0 k0
  have N0 := Fr.nil n0
  obtain ⟨T1, X1, e1, st1⟩ := getS2 X0 hx hZ hown (host := "") (Or.inl (hw _ (List.mem_of_getElem? (i := 14) rfl))) Via.refl e0 (staOld S_c O0) (g := (mkF m 0 #[.val (.ref a)] [])) rfl (hb hby d_jdk_42_method_154_code_0)
  have k1 : To p.tables e below S0 (T1.setTop (mkF m 3 #[.val (.ref a)] [(.int zc)])) := fun tt hq => k0 tt (st1 tt hq)
  have k2 : To p.tables e below S0 (T1.setTop (mkF m 7 #[.val (.ref a)] [(.ref a)])) := fun tt hq => k1 tt (by
    show Steps _ _ _ (T1.setTop (mkF m 3 #[.val (.ref a)] [(.int zc)])) _
    refine XS.ifNo X1.here hx rfl (hb hby d_jdk_42_method_154_code_3) rfl ((if0 _ _).trans (feq hzc).1) ?_
    show Steps _ _ _ (T1.setTop (mkF m 6 #[.val (.ref a)] [])) _
    refine XS.aloadN X1.here hx rfl (hb hby d_jdk_42_method_154_code_6) rfl rfl ?_
    show Steps _ _ _ (T1.setTop (mkF m 7 #[.val (.ref a)] [(.ref a)])) _
    exact hq)
  obtain ⟨T3, X3, e3, st3⟩ := getF X1 hx hZ hown (host := "") (Or.inl (hw _ (List.mem_of_getElem? (i := 34) rfl))) Via.refl e1 F0 (g := (mkF m 7 #[.val (.ref a)] [(.ref a)])) rfl rfl (hb hby d_jdk_42_method_154_code_7)
  have k3 : To p.tables e below S0 (T3.setTop (mkF m 10 #[.val (.ref a)] [(.int (0 : Int32))])) := fun tt hq => k2 tt (st3 tt hq)
  have k4 : To p.tables e below S0 (T3.setTop (mkF m 18 #[.val (.ref a)] [(.int (1 : Int32))])) := fun tt hq => k3 tt (by
    show Steps _ _ _ (T3.setTop (mkF m 10 #[.val (.ref a)] [(.int (0 : Int32))])) _
    refine XS.ifNo X3.here hx rfl (hb hby d_jdk_42_method_154_code_10) rfl ((if0 _ _).trans (teq (by decide)).2) ?_
    show Steps _ _ _ (T3.setTop (mkF m 13 #[.val (.ref a)] [])) _
    refine XS.iconst X3.here hx rfl (hb hby d_jdk_42_method_154_code_13) ?_
    show Steps _ _ _ (T3.setTop (mkF m 14 #[.val (.ref a)] [(.int (1 : Int32))])) _
    refine XS.goto X3.here hx rfl (pc0 := 14) (pc' := 18) rfl (hb hby d_jdk_42_method_154_code_14) (by decide) (by decide) ?_
    show Steps _ _ _ (T3.setTop (mkF m 18 #[.val (.ref a)] [(.int (1 : Int32))])) _
    exact hq)
  have hE := e3
  refine retInt X3 hx hret hlk (by simp) rfl (hb hby d_jdk_42_method_154_code_18) k4 ?_ (by decide) (by decide)
  try rw [hE]
  exact ⟨rfl, N0, rfl⟩
theorem d_jdk_41_method_11_code_0 : decode jdk_41_method_11_code 0 = .ok (.iload_n 0, 1) := by decide +kernel
theorem d_jdk_41_method_11_code_1 : decode jdk_41_method_11_code 1 = .ok (.ifCond .lt 8, 3) := by decide +kernel
theorem d_jdk_41_method_11_code_4 : decode jdk_41_method_11_code 4 = .ok (.iload_n 0, 1) := by decide +kernel
theorem d_jdk_41_method_11_code_5 : decode jdk_41_method_11_code 5 = .ok (.iload_n 1, 1) := by decide +kernel
theorem d_jdk_41_method_11_code_6 : decode jdk_41_method_11_code 6 = .ok (.if_icmp .lt 10, 3) := by decide +kernel
theorem d_jdk_41_method_11_code_9 : decode jdk_41_method_11_code 9 = .ok (.aload_n 2, 1) := by decide +kernel
theorem d_jdk_41_method_11_code_10 : decode jdk_41_method_11_code 10 = .ok (.iload_n 0, 1) := by decide +kernel
theorem d_jdk_41_method_11_code_11 : decode jdk_41_method_11_code 11 = .ok (.iload_n 1, 1) := by decide +kernel
theorem d_jdk_41_method_11_code_12 : decode jdk_41_method_11_code 12 = .ok (.invokestatic 95, 3) := by decide +kernel
theorem d_jdk_41_method_11_code_15 : decode jdk_41_method_11_code 15 = .ok (.athrow, 1) := by decide +kernel
theorem d_jdk_41_method_11_code_16 : decode jdk_41_method_11_code 16 = .ok (.iload_n 0, 1) := by decide +kernel
theorem d_jdk_41_method_11_code_17 : decode jdk_41_method_11_code 17 = .ok (.ireturn, 1) := by decide +kernel
theorem pn_2 : plainName "jdk/internal/util/Preconditions" = true := by first | (simp [plainName, overriddenIn]; done) | decide +kernel
set_option maxRecDepth 65536 in
set_option maxHeartbeats 40000000 in
theorem rm_pchk (l : Launch) (Z : State) (a0 : Array Value) (hw : ∀ d ∈ tables_1, d.before a0 Z = true) (i : Int32) (n : Int32) (fm : Value) (h0 : Heap) (n0 : Nat) (hn0 : n0 ≤ h0.size) (hfm : fm.isRef = true) (hi0 : ¬ i < (0 : Int32)) (hi1 : i < n) :
    Con l Z (⟨"jdk/internal/util/Preconditions", "checkIndex", "(IILjava/util/function/BiFunction;)I"⟩ : MethodName) jdk_41_method_11_code 3 (some .int) [] ({ frames := 0, cells := 0, slots := 0, locals := 0 } : Room) #[(.int i), (.int n), fm] h0 (fun v h L => v = some (.int i) ∧ Fr n0 L ∧ h = h0) := by
  refine enter (Ls := #[.val (.int i), .val (.int n), .val fm]) (plainFor_of_name pn_2) (fun m => by rcases ref_cases hfm with rfl | ⟨z, rfl⟩ <;> exact entry_eq rfl) ?_
  intro p e s m below meth cd_ s₁ S0 hx hby hml hret hlk hnm hown hZ X0 e0 k0
  have N0 := Fr.nil n0
  have k1 : To p.tables e below S0 (s₁.setTop (mkF m 17 #[.val (.int i), .val (.int n), .val fm] [(.int i)])) := fun tt hq => k0 tt (by
    show Steps _ _ _ (s₁.setTop (mkF m 0 #[.val (.int i), .val (.int n), .val fm] [])) _
    refine XS.iloadN X0.here hx rfl (hb hby d_jdk_41_method_11_code_0) rfl ?_
    show Steps _ _ _ (s₁.setTop (mkF m 1 #[.val (.int i), .val (.int n), .val fm] [(.int i)])) _
    refine XS.ifNo X0.here hx rfl (hb hby d_jdk_41_method_11_code_1) rfl ((if0 _ _).trans (flt hi0).1) ?_
    show Steps _ _ _ (s₁.setTop (mkF m 4 #[.val (.int i), .val (.int n), .val fm] [])) _
    refine XS.iloadN X0.here hx rfl (hb hby d_jdk_41_method_11_code_4) rfl ?_
    show Steps _ _ _ (s₁.setTop (mkF m 5 #[.val (.int i), .val (.int n), .val fm] [(.int i)])) _
    refine XS.iloadN X0.here hx rfl (hb hby d_jdk_41_method_11_code_5) rfl ?_
    show Steps _ _ _ (s₁.setTop (mkF m 6 #[.val (.int i), .val (.int n), .val fm] [(.int n), (.int i)])) _
    refine XS.icmpYes X0.here hx rfl (pc0 := 6) (pc' := 16) rfl (hb hby d_jdk_41_method_11_code_6) rfl (tlt hi1).1 (by decide) (by decide) ?_
    show Steps _ _ _ (s₁.setTop (mkF m 16 #[.val (.int i), .val (.int n), .val fm] [])) _
    refine XS.iloadN X0.here hx rfl (hb hby d_jdk_41_method_11_code_16) rfl ?_
    show Steps _ _ _ (s₁.setTop (mkF m 17 #[.val (.int i), .val (.int n), .val fm] [(.int i)])) _
    exact hq)
  have hE := e0
  refine retInt X0 hx hret hlk (by simp) rfl (hb hby d_jdk_41_method_11_code_17) k1 ?_ (by decide) (by decide)
  try rw [hE]
  exact ⟨rfl, N0, rfl⟩
theorem d_jdk_42_method_155_code_0 : decode jdk_42_method_155_code 0 = .ok (.iload_n 0, 1) := by decide +kernel
theorem d_jdk_42_method_155_code_1 : decode jdk_42_method_155_code 1 = .ok (.iload_n 1, 1) := by decide +kernel
theorem d_jdk_42_method_155_code_2 : decode jdk_42_method_155_code 2 = .ok (.getstatic 1053, 3) := by decide +kernel
theorem d_jdk_42_method_155_code_5 : decode jdk_42_method_155_code 5 = .ok (.invokestatic 1059, 3) := by decide +kernel
theorem d_jdk_42_method_155_code_8 : decode jdk_42_method_155_code 8 = .ok (.pop, 1) := by decide +kernel
theorem d_jdk_42_method_155_code_9 : decode jdk_42_method_155_code 9 = .ok (.return_, 1) := by decide +kernel
theorem pd_5 : parseMethodDescriptor "(IILjava/util/function/BiFunction;)I" = some ⟨[.int, .int, (.object "java/util/function/BiFunction")], some .int⟩ := by decide +kernel
set_option maxRecDepth 65536 in
set_option maxHeartbeats 40000000 in
theorem rm_chk (l : Launch) (Z : State) (a0 : Array Value) (hw : ∀ d ∈ tables_1, d.before a0 Z = true) (fm : Value) (i : Int32) (n : Int32) (h0 : Heap) (n0 : Nat) (hn0 : n0 ≤ h0.size) (S_f : Sta Z Z.heap "jdk/internal/util/Preconditions" "SIOOBE_FORMATTER" "Ljava/util/function/BiFunction;" fm) (hfm : fm.isRef = true) (O0 : Old Z n0 h0) (hi0 : ¬ i < (0 : Int32)) (hi1 : i < n) :
    Con l Z (⟨"java/lang/String", "checkIndex", "(II)V"⟩ : MethodName) jdk_42_method_155_code 2 none [] ({ frames := 1, cells := 0, slots := 0, locals := 14 } : Room) #[(.int i), (.int n)] h0 (fun v h L => v = none ∧ Fr n0 L ∧ h = h0) := by
  refine enter (Ls := #[.val (.int i), .val (.int n)]) (plainFor_of_name pn_0) (fun m => by exact entry_eq rfl) ?_
  intro p e s m below meth cd_ s₁ S0 hx hby hml hret hlk hnm hown hZ X0 e0 k0
  have N0 := Fr.nil n0
  have k1 : To p.tables e below S0 (s₁.setTop (mkF m 2 #[.val (.int i), .val (.int n)] [(.int n), (.int i)])) := fun tt hq => k0 tt (by
    show Steps _ _ _ (s₁.setTop (mkF m 0 #[.val (.int i), .val (.int n)] [])) _
    refine XS.iloadN X0.here hx rfl (hb hby d_jdk_42_method_155_code_0) rfl ?_
    show Steps _ _ _ (s₁.setTop (mkF m 1 #[.val (.int i), .val (.int n)] [(.int i)])) _
    refine XS.iloadN X0.here hx rfl (hb hby d_jdk_42_method_155_code_1) rfl ?_
    show Steps _ _ _ (s₁.setTop (mkF m 2 #[.val (.int i), .val (.int n)] [(.int n), (.int i)])) _
    exact hq)
  obtain ⟨T2, X2, e2, st2⟩ := getS2 X0 hx hZ hown (host := "") (Or.inl (hw _ (List.mem_of_getElem? (i := 108) rfl))) Via.refl e0 (staOld S_f O0) (g := (mkF m 2 #[.val (.int i), .val (.int n)] [(.int n), (.int i)])) rfl (hb hby d_jdk_42_method_155_code_2)
  have k2 : To p.tables e below S0 (T2.setTop (mkF m 5 #[.val (.int i), .val (.int n)] [fm, (.int n), (.int i)])) := fun tt hq => k1 tt (st2 tt hq)
  obtain ⟨_, T3, L3, X3, ⟨rfl, Nq3, eq3⟩, k3a⟩ := callS' X2 hx hZ (y := (⟨"jdk/internal/util/Preconditions", "checkIndex", "(IILjava/util/function/BiFunction;)I"⟩ : MethodName)) hown (hw _ (List.mem_of_getElem? (i := 110) rfl)) (hw _ (List.mem_of_getElem? (i := 111) rfl)) (hw _ (List.mem_of_getElem? (i := 109) rfl)) (hw _ (List.mem_of_getElem? (i := 112) rfl)) (by decide) (backC (W := 0) (rm_pchk l Z a0 hw i n fm h0 n0 (by omega) hfm hi0 hi1) hZ (hw _ (List.mem_of_getElem? (i := 112) rfl)) (hw _ (List.mem_of_getElem? (i := 109) rfl)) (by decide) (by decide)) e2 (argsL := [(.int i), (.int n), fm]) (rest := []) rfl rfl pd_5 rfl (by rw [hml]; rfl) (hb hby d_jdk_42_method_155_code_5) (Nat.le_of_eq rfl) (by decide) (by decide) k2
  have k3 : To p.tables e below S0 (T3.setTop (mkF m 8 #[.val (.int i), .val (.int n)] [(.int i)])) := k3a
  have N3 := N0.app Nq3
  have e3 : T3.heap = h0 := eq3
  have k4 : To p.tables e below S0 (T3.setTop (mkF m 9 #[.val (.int i), .val (.int n)] [])) := fun tt hq => k3 tt (by
    show Steps _ _ _ (T3.setTop (mkF m 8 #[.val (.int i), .val (.int n)] [(.int i)])) _
    refine XS.pop X3.here hx rfl (hb hby d_jdk_42_method_155_code_8) rfl rfl ?_
    show Steps _ _ _ (T3.setTop (mkF m 9 #[.val (.int i), .val (.int n)] [])) _
    exact hq)
  have hE := e3
  refine retVoid X3 hx hret hlk (hb hby d_jdk_42_method_155_code_9) k4 ?_ (by decide) (by decide)
  try rw [hE]
  exact ⟨rfl, N3, rfl⟩
theorem d_jdk_42_method_57_code_0 : decode jdk_42_method_57_code 0 = .ok (.aload_n 0, 1) := by decide +kernel
theorem d_jdk_42_method_57_code_1 : decode jdk_42_method_57_code 1 = .ok (.invokevirtual 492, 3) := by decide +kernel
theorem d_jdk_42_method_57_code_4 : decode jdk_42_method_57_code 4 = .ok (.ifCond .eq 23, 3) := by decide +kernel
theorem d_jdk_42_method_57_code_7 : decode jdk_42_method_57_code 7 = .ok (.iload_n 1, 1) := by decide +kernel
theorem d_jdk_42_method_57_code_8 : decode jdk_42_method_57_code 8 = .ok (.aload_n 0, 1) := by decide +kernel
theorem d_jdk_42_method_57_code_9 : decode jdk_42_method_57_code 9 = .ok (.getfield 9, 3) := by decide +kernel
theorem d_jdk_42_method_57_code_12 : decode jdk_42_method_57_code 12 = .ok (.arraylength, 1) := by decide +kernel
theorem d_jdk_42_method_57_code_13 : decode jdk_42_method_57_code 13 = .ok (.invokestatic 499, 3) := by decide +kernel
theorem d_jdk_42_method_57_code_16 : decode jdk_42_method_57_code 16 = .ok (.aload_n 0, 1) := by decide +kernel
theorem d_jdk_42_method_57_code_17 : decode jdk_42_method_57_code 17 = .ok (.getfield 9, 3) := by decide +kernel
theorem d_jdk_42_method_57_code_20 : decode jdk_42_method_57_code 20 = .ok (.iload_n 1, 1) := by decide +kernel
theorem d_jdk_42_method_57_code_21 : decode jdk_42_method_57_code 21 = .ok (.baload, 1) := by decide +kernel
theorem d_jdk_42_method_57_code_22 : decode jdk_42_method_57_code 22 = .ok (.sipush 255, 3) := by decide +kernel
theorem d_jdk_42_method_57_code_25 : decode jdk_42_method_57_code 25 = .ok (.iand, 1) := by decide +kernel
theorem d_jdk_42_method_57_code_26 : decode jdk_42_method_57_code 26 = .ok (.ireturn, 1) := by decide +kernel
theorem d_jdk_42_method_57_code_27 : decode jdk_42_method_57_code 27 = .ok (.aload_n 0, 1) := by decide +kernel
theorem d_jdk_42_method_57_code_28 : decode jdk_42_method_57_code 28 = .ok (.getfield 9, 3) := by decide +kernel
theorem d_jdk_42_method_57_code_31 : decode jdk_42_method_57_code 31 = .ok (.arraylength, 1) := by decide +kernel
theorem d_jdk_42_method_57_code_32 : decode jdk_42_method_57_code 32 = .ok (.iconst 1, 1) := by decide +kernel
theorem d_jdk_42_method_57_code_33 : decode jdk_42_method_57_code 33 = .ok (.ishr, 1) := by decide +kernel
theorem d_jdk_42_method_57_code_34 : decode jdk_42_method_57_code 34 = .ok (.istore_n 2, 1) := by decide +kernel
theorem d_jdk_42_method_57_code_35 : decode jdk_42_method_57_code 35 = .ok (.iload_n 1, 1) := by decide +kernel
theorem d_jdk_42_method_57_code_36 : decode jdk_42_method_57_code 36 = .ok (.iload_n 2, 1) := by decide +kernel
theorem d_jdk_42_method_57_code_37 : decode jdk_42_method_57_code 37 = .ok (.invokestatic 499, 3) := by decide +kernel
theorem d_jdk_42_method_57_code_40 : decode jdk_42_method_57_code 40 = .ok (.aload_n 0, 1) := by decide +kernel
theorem d_jdk_42_method_57_code_41 : decode jdk_42_method_57_code 41 = .ok (.getfield 9, 3) := by decide +kernel
theorem d_jdk_42_method_57_code_44 : decode jdk_42_method_57_code 44 = .ok (.iload_n 1, 1) := by decide +kernel
theorem d_jdk_42_method_57_code_45 : decode jdk_42_method_57_code 45 = .ok (.iload_n 2, 1) := by decide +kernel
theorem d_jdk_42_method_57_code_46 : decode jdk_42_method_57_code 46 = .ok (.invokestatic 502, 3) := by decide +kernel
theorem d_jdk_42_method_57_code_49 : decode jdk_42_method_57_code 49 = .ok (.ireturn, 1) := by decide +kernel
theorem pd_6 : parseMethodDescriptor "()Z" = some ⟨[], some .boolean⟩ := by decide +kernel
theorem pd_7 : parseMethodDescriptor "(II)V" = some ⟨[.int, .int], none⟩ := by decide +kernel
set_option maxRecDepth 65536 in
set_option maxHeartbeats 40000000 in
theorem rm_cp1_0 (l : Launch) (Z : State) (a0 : Array Value) (hw : ∀ d ∈ tables_1, d.before a0 Z = true) (zc : Int32) (fm : Value) (a : Addr) (t : Addr) (kt : ClassId) (c0 : Int32) (h0 : Heap) (n0 : Nat) (hn0 : n0 ≤ h0.size) (S_c : Sta Z Z.heap "java/lang/String" "COMPACT_STRINGS" "Z" (.int zc)) (hzc : ¬ zc = (0 : Int32)) (S_f : Sta Z Z.heap "jdk/internal/util/Preconditions" "SIOOBE_FORMATTER" "Ljava/util/function/BiFunction;" fm) (hfm : fm.isRef = true) (O0 : Old Z n0 h0) (P0 : Exa Z h0 a "java/lang/String") (P1 : Fld Z h0 a "java/lang/String" "value" "[B" (.ref t)) (P2 : Fld Z h0 a "java/lang/String" "coder" "B" (.int (0 : Int32))) (P3 : Arv Z h0 t kt .byte (1 : Int32) [(.int c0)] (.int 0)) :
    Con l Z (⟨"java/lang/String", "codePointAt", "(I)I"⟩ : MethodName) jdk_42_method_57_code 3 (some .int) [] ({ frames := 2, cells := 0, slots := 0, locals := 27 } : Room) #[(.ref a), (.int (0 : Int32))] h0 (fun v h L => v = some (.int (c0 &&& (255 : Int32))) ∧ Fr n0 L ∧ h = h0) := by
  refine enter (Ls := #[.val (.ref a), .val (.int (0 : Int32)), .unset]) (plainFor_of_name pn_0) (fun m => by exact entry_eq rfl) ?_
  intro p e s m below meth cd_ s₁ S0 hx hby hml hret hlk hnm hown hZ X0 e0 k0
  have N0 := Fr.nil n0
  have k1 : To p.tables e below S0 (s₁.setTop (mkF m 1 #[.val (.ref a), .val (.int (0 : Int32)), .unset] [(.ref a)])) := fun tt hq => k0 tt (by
    show Steps _ _ _ (s₁.setTop (mkF m 0 #[.val (.ref a), .val (.int (0 : Int32)), .unset] [])) _
    refine XS.aloadN X0.here hx rfl (hb hby d_jdk_42_method_57_code_0) rfl rfl ?_
    show Steps _ _ _ (s₁.setTop (mkF m 1 #[.val (.ref a), .val (.int (0 : Int32)), .unset] [(.ref a)])) _
    exact hq)
  obtain ⟨_, T2, L2, X2, ⟨rfl, Nq2, eq2⟩, k2a⟩ := callV' X0 hx hZ (y := (⟨"java/lang/String", "isLatin1", "()Z"⟩ : MethodName)) (z := (⟨"java/lang/String", "isLatin1", "()Z"⟩ : MethodName)) hown (hw _ (List.mem_of_getElem? (i := 100) rfl)) (hw _ (List.mem_of_getElem? (i := 101) rfl)) (notFace_of_selects (args := #[]) (mvT hZ (hw _ (List.mem_of_getElem? (i := 103) rfl)))) (hw _ (List.mem_of_getElem? (i := 103) rfl)) (hw _ (List.mem_of_getElem? (i := 102) rfl)) (by decide) P0 (backC (W := 0) (rm_latin l Z a0 hw zc a h0 n0 (by omega) S_c hzc O0 P2) hZ (hw _ (List.mem_of_getElem? (i := 104) rfl)) (hw _ (List.mem_of_getElem? (i := 12) rfl)) (by decide) (by decide)) e0 (argsL := []) (rest := []) rfl rfl pd_6 rfl (by rw [hml]; rfl) (hb hby d_jdk_42_method_57_code_1) (Nat.le_of_eq rfl) (by decide) (by decide) k1
  have k2 : To p.tables e below S0 (T2.setTop (mkF m 4 #[.val (.ref a), .val (.int (0 : Int32)), .unset] [(.int (1 : Int32))])) := k2a
  have N2 := N0.app Nq2
  have e2 : T2.heap = h0 := eq2
  have k3 : To p.tables e below S0 (T2.setTop (mkF m 9 #[.val (.ref a), .val (.int (0 : Int32)), .unset] [(.ref a), (.int (0 : Int32))])) := fun tt hq => k2 tt (by
    show Steps _ _ _ (T2.setTop (mkF m 4 #[.val (.ref a), .val (.int (0 : Int32)), .unset] [(.int (1 : Int32))])) _
    refine XS.ifNo X2.here hx rfl (hb hby d_jdk_42_method_57_code_4) rfl ((if0 _ _).trans (feq (by decide)).1) ?_
    show Steps _ _ _ (T2.setTop (mkF m 7 #[.val (.ref a), .val (.int (0 : Int32)), .unset] [])) _
    refine XS.iloadN X2.here hx rfl (hb hby d_jdk_42_method_57_code_7) rfl ?_
    show Steps _ _ _ (T2.setTop (mkF m 8 #[.val (.ref a), .val (.int (0 : Int32)), .unset] [(.int (0 : Int32))])) _
    refine XS.aloadN X2.here hx rfl (hb hby d_jdk_42_method_57_code_8) rfl rfl ?_
    show Steps _ _ _ (T2.setTop (mkF m 9 #[.val (.ref a), .val (.int (0 : Int32)), .unset] [(.ref a), (.int (0 : Int32))])) _
    exact hq)
  obtain ⟨T4, X4, e4, st4⟩ := getF X2 hx hZ hown (host := "") (Or.inl (hw _ (List.mem_of_getElem? (i := 32) rfl))) Via.refl e2 P1 (g := (mkF m 9 #[.val (.ref a), .val (.int (0 : Int32)), .unset] [(.ref a), (.int (0 : Int32))])) rfl rfl (hb hby d_jdk_42_method_57_code_9)
  have k4 : To p.tables e below S0 (T4.setTop (mkF m 12 #[.val (.ref a), .val (.int (0 : Int32)), .unset] [(.ref t), (.int (0 : Int32))])) := fun tt hq => k3 tt (st4 tt hq)
  obtain ⟨cl5, Ar5, -, S5, M5, -, -⟩ := id P3
  have st5 := fun tt => X4.arraylength hx (by rw [e4]; exact Ar5.1) (State.isArrayOf_alike hZ.alike Ar5.2.1) (g := (mkF m 12 #[.val (.ref a), .val (.int (0 : Int32)), .unset] [(.ref t), (.int (0 : Int32))])) rfl rfl (hb hby d_jdk_42_method_57_code_12) tt
  rw [len_of S5 M5] at st5
  have k5 : To p.tables e below S0 (T4.setTop (mkF m 13 #[.val (.ref a), .val (.int (0 : Int32)), .unset] [(.int (1 : Int32)), (.int (0 : Int32))])) := fun tt hq => k4 tt (st5 tt hq)
  obtain ⟨_, T6, L6, X6, ⟨rfl, Nq6, eq6⟩, k6a⟩ := callS' X4 hx hZ (y := (⟨"java/lang/String", "checkIndex", "(II)V"⟩ : MethodName)) hown (hw _ (List.mem_of_getElem? (i := 105) rfl)) (hw _ (List.mem_of_getElem? (i := 106) rfl)) (hw _ (List.mem_of_getElem? (i := 12) rfl)) (hw _ (List.mem_of_getElem? (i := 107) rfl)) (by decide) (backC (W := 0) (rm_chk l Z a0 hw fm (0 : Int32) (1 : Int32) h0 n0 (by omega) S_f hfm O0 (by decide) (by decide)) hZ (hw _ (List.mem_of_getElem? (i := 107) rfl)) (hw _ (List.mem_of_getElem? (i := 12) rfl)) (by decide) (by decide)) e4 (argsL := [(.int (0 : Int32)), (.int (1 : Int32))]) (rest := []) rfl rfl pd_7 rfl (by rw [hml]; rfl) (hb hby d_jdk_42_method_57_code_13) (Nat.le_of_eq rfl) (by decide) (by decide) k5
  have k6 : To p.tables e below S0 (T6.setTop (mkF m 16 #[.val (.ref a), .val (.int (0 : Int32)), .unset] [])) := k6a
  have N6 := N2.app Nq6
  have e6 : T6.heap = h0 := eq6
  have k7 : To p.tables e below S0 (T6.setTop (mkF m 17 #[.val (.ref a), .val (.int (0 : Int32)), .unset] [(.ref a)])) := fun tt hq => k6 tt (by
    show Steps _ _ _ (T6.setTop (mkF m 16 #[.val (.ref a), .val (.int (0 : Int32)), .unset] [])) _
    refine XS.aloadN X6.here hx rfl (hb hby d_jdk_42_method_57_code_16) rfl rfl ?_
    show Steps _ _ _ (T6.setTop (mkF m 17 #[.val (.ref a), .val (.int (0 : Int32)), .unset] [(.ref a)])) _
    exact hq)
  obtain ⟨T8, X8, e8, st8⟩ := getF X6 hx hZ hown (host := "") (Or.inl (hw _ (List.mem_of_getElem? (i := 32) rfl))) Via.refl e6 P1 (g := (mkF m 17 #[.val (.ref a), .val (.int (0 : Int32)), .unset] [(.ref a)])) rfl rfl (hb hby d_jdk_42_method_57_code_17)
  have k8 : To p.tables e below S0 (T8.setTop (mkF m 20 #[.val (.ref a), .val (.int (0 : Int32)), .unset] [(.ref t)])) := fun tt hq => k7 tt (st8 tt hq)
  have k9 : To p.tables e below S0 (T8.setTop (mkF m 21 #[.val (.ref a), .val (.int (0 : Int32)), .unset] [(.int (0 : Int32)), (.ref t)])) := fun tt hq => k8 tt (by
    show Steps _ _ _ (T8.setTop (mkF m 20 #[.val (.ref a), .val (.int (0 : Int32)), .unset] [(.ref t)])) _
    refine XS.iloadN X8.here hx rfl (hb hby d_jdk_42_method_57_code_20) rfl ?_
    show Steps _ _ _ (T8.setTop (mkF m 21 #[.val (.ref a), .val (.int (0 : Int32)), .unset] [(.int (0 : Int32)), (.ref t)])) _
    exact hq)
  obtain ⟨cl10, Ar10, -, S10, -, G10, -⟩ := id P3
  have hi10 := inb_of (j := (0 : Int32)) S10 ⟨by decide, by decide⟩
  have st10 := fun tt => X8.baloadBytes hx (j := (0 : Int32)) (v := (.int c0)) (by rw [e8]; exact Ar10.1) (State.isArrayOf_alike hZ.alike Ar10.2.1) Ar10.2.2 hi10 (G10.at hi10 rfl) (g := (mkF m 21 #[.val (.ref a), .val (.int (0 : Int32)), .unset] [(.int (0 : Int32)), (.ref t)])) rfl rfl (hb hby d_jdk_42_method_57_code_21) tt
  have k10 : To p.tables e below S0 (T8.setTop (mkF m 22 #[.val (.ref a), .val (.int (0 : Int32)), .unset] [(.int c0)])) := fun tt hq => k9 tt (st10 tt hq)
  have k11 : To p.tables e below S0 (T8.setTop (mkF m 26 #[.val (.ref a), .val (.int (0 : Int32)), .unset] [(.int (c0 &&& (255 : Int32)))])) := fun tt hq => k10 tt (by
    show Steps _ _ _ (T8.setTop (mkF m 22 #[.val (.ref a), .val (.int (0 : Int32)), .unset] [(.int c0)])) _
    refine XS.sipush X8.here hx rfl (hb hby d_jdk_42_method_57_code_22) ?_
    show Steps _ _ _ (T8.setTop (mkF m 25 #[.val (.ref a), .val (.int (0 : Int32)), .unset] [(.int (255 : Int32)), (.int c0)])) _
    refine XS.iand X8.here hx rfl (hb hby d_jdk_42_method_57_code_25) rfl ?_
    show Steps _ _ _ (T8.setTop (mkF m 26 #[.val (.ref a), .val (.int (0 : Int32)), .unset] [(.int (c0 &&& (255 : Int32)))])) _
    exact hq)
  have hE := e8
  refine retInt X8 hx hret hlk (by simp) rfl (hb hby d_jdk_42_method_57_code_26) k11 ?_ (by decide) (by decide)
  try rw [hE]
  exact ⟨rfl, N6, rfl⟩
theorem d_jdk_33_method_40_code_0 : decode jdk_33_method_40_code 0 = .ok (.iload_n 0, 1) := by decide +kernel
theorem d_jdk_33_method_40_code_1 : decode jdk_33_method_40_code 1 = .ok (.iload_n 1, 1) := by decide +kernel
theorem d_jdk_33_method_40_code_2 : decode jdk_33_method_40_code 2 = .ok (.if_icmp .ge 7, 3) := by decide +kernel
theorem d_jdk_33_method_40_code_5 : decode jdk_33_method_40_code 5 = .ok (.iconst (-1), 1) := by decide +kernel
theorem d_jdk_33_method_40_code_6 : decode jdk_33_method_40_code 6 = .ok (.goto 13, 3) := by decide +kernel
theorem d_jdk_33_method_40_code_9 : decode jdk_33_method_40_code 9 = .ok (.iload_n 0, 1) := by decide +kernel
theorem d_jdk_33_method_40_code_10 : decode jdk_33_method_40_code 10 = .ok (.iload_n 1, 1) := by decide +kernel
theorem d_jdk_33_method_40_code_11 : decode jdk_33_method_40_code 11 = .ok (.if_icmp .ne 7, 3) := by decide +kernel
theorem d_jdk_33_method_40_code_14 : decode jdk_33_method_40_code 14 = .ok (.iconst 0, 1) := by decide +kernel
theorem d_jdk_33_method_40_code_15 : decode jdk_33_method_40_code 15 = .ok (.goto 4, 3) := by decide +kernel
theorem d_jdk_33_method_40_code_18 : decode jdk_33_method_40_code 18 = .ok (.iconst 1, 1) := by decide +kernel
theorem d_jdk_33_method_40_code_19 : decode jdk_33_method_40_code 19 = .ok (.ireturn, 1) := by decide +kernel
theorem pn_3 : plainName "java/lang/Integer" = true := by first | (simp [plainName, overriddenIn]; done) | decide +kernel
set_option maxRecDepth 65536 in
set_option maxHeartbeats 40000000 in
theorem rm_icmp (l : Launch) (Z : State) (a0 : Array Value) (hw : ∀ d ∈ tables_1, d.before a0 Z = true) (a : Int32) (b : Int32) (h0 : Heap) (n0 : Nat) (hn0 : n0 ≤ h0.size)  :
    Con l Z (⟨"java/lang/Integer", "compare", "(II)I"⟩ : MethodName) jdk_33_method_40_code 2 (some .int) [] ({ frames := 0, cells := 0, slots := 0, locals := 0 } : Room) #[(.int a), (.int b)] h0 (fun v h L => ∃ r : Int32, v = some (.int r) ∧ Fr n0 L ∧ h = h0 ∧ r = (if a < b then -1 else if a = b then 0 else 1)) := by
  refine enter (Ls := #[.val (.int a), .val (.int b)]) (plainFor_of_name pn_3) (fun m => by exact entry_eq rfl) ?_
  intro p e s m below meth cd_ s₁ S0 hx hby hml hret hlk hnm hown hZ X0 e0 k0
  have N0 := Fr.nil n0
  have k1 : To p.tables e below S0 (s₁.setTop (mkF m 2 #[.val (.int a), .val (.int b)] [(.int b), (.int a)])) := fun tt hq => k0 tt (by
    show Steps _ _ _ (s₁.setTop (mkF m 0 #[.val (.int a), .val (.int b)] [])) _
    refine XS.iloadN X0.here hx rfl (hb hby d_jdk_33_method_40_code_0) rfl ?_
    show Steps _ _ _ (s₁.setTop (mkF m 1 #[.val (.int a), .val (.int b)] [(.int a)])) _
    refine XS.iloadN X0.here hx rfl (hb hby d_jdk_33_method_40_code_1) rfl ?_
    show Steps _ _ _ (s₁.setTop (mkF m 2 #[.val (.int a), .val (.int b)] [(.int b), (.int a)])) _
    exact hq)
  by_cases hc2_2 : a < b
  · -- pc 2, holds
    have k3 : To p.tables e below S0 (s₁.setTop (mkF m 19 #[.val (.int a), .val (.int b)] [(.int (-1 : Int32))])) := fun tt hq => k1 tt (by
      show Steps _ _ _ (s₁.setTop (mkF m 2 #[.val (.int a), .val (.int b)] [(.int b), (.int a)])) _
      refine XS.icmpNo X0.here hx rfl (hb hby d_jdk_33_method_40_code_2) rfl (tlt hc2_2).2.1 ?_
      show Steps _ _ _ (s₁.setTop (mkF m 5 #[.val (.int a), .val (.int b)] [])) _
      refine XS.iconst X0.here hx rfl (hb hby d_jdk_33_method_40_code_5) ?_
      show Steps _ _ _ (s₁.setTop (mkF m 6 #[.val (.int a), .val (.int b)] [(.int (-1 : Int32))])) _
      refine XS.goto X0.here hx rfl (pc0 := 6) (pc' := 19) rfl (hb hby d_jdk_33_method_40_code_6) (by decide) (by decide) ?_
      show Steps _ _ _ (s₁.setTop (mkF m 19 #[.val (.int a), .val (.int b)] [(.int (-1 : Int32))])) _
      exact hq)
    have hE := e0
    refine retInt X0 hx hret hlk (by simp) rfl (hb hby d_jdk_33_method_40_code_19) k3 ?_ (by decide) (by decide)
    try rw [hE]
    exact ⟨_, rfl, N0, rfl, by simp [hc2_2]⟩
  · -- pc 2, holds not
    have k4 : To p.tables e below S0 (s₁.setTop (mkF m 11 #[.val (.int a), .val (.int b)] [(.int b), (.int a)])) := fun tt hq => k1 tt (by
      show Steps _ _ _ (s₁.setTop (mkF m 2 #[.val (.int a), .val (.int b)] [(.int b), (.int a)])) _
      refine XS.icmpYes X0.here hx rfl (pc0 := 2) (pc' := 9) rfl (hb hby d_jdk_33_method_40_code_2) rfl (flt hc2_2).2.1 (by decide) (by decide) ?_
      show Steps _ _ _ (s₁.setTop (mkF m 9 #[.val (.int a), .val (.int b)] [])) _
      refine XS.iloadN X0.here hx rfl (hb hby d_jdk_33_method_40_code_9) rfl ?_
      show Steps _ _ _ (s₁.setTop (mkF m 10 #[.val (.int a), .val (.int b)] [(.int a)])) _
      refine XS.iloadN X0.here hx rfl (hb hby d_jdk_33_method_40_code_10) rfl ?_
      show Steps _ _ _ (s₁.setTop (mkF m 11 #[.val (.int a), .val (.int b)] [(.int b), (.int a)])) _
      exact hq)
    by_cases hc11_5 : a = b
    · -- pc 11, holds
      have k6 : To p.tables e below S0 (s₁.setTop (mkF m 19 #[.val (.int a), .val (.int b)] [(.int (0 : Int32))])) := fun tt hq => k4 tt (by
        show Steps _ _ _ (s₁.setTop (mkF m 11 #[.val (.int a), .val (.int b)] [(.int b), (.int a)])) _
        refine XS.icmpNo X0.here hx rfl (hb hby d_jdk_33_method_40_code_11) rfl (teq hc11_5).2 ?_
        show Steps _ _ _ (s₁.setTop (mkF m 14 #[.val (.int a), .val (.int b)] [])) _
        refine XS.iconst X0.here hx rfl (hb hby d_jdk_33_method_40_code_14) ?_
        show Steps _ _ _ (s₁.setTop (mkF m 15 #[.val (.int a), .val (.int b)] [(.int (0 : Int32))])) _
        refine XS.goto X0.here hx rfl (pc0 := 15) (pc' := 19) rfl (hb hby d_jdk_33_method_40_code_15) (by decide) (by decide) ?_
        show Steps _ _ _ (s₁.setTop (mkF m 19 #[.val (.int a), .val (.int b)] [(.int (0 : Int32))])) _
        exact hq)
      have hE := e0
      refine retInt X0 hx hret hlk (by simp) rfl (hb hby d_jdk_33_method_40_code_19) k6 ?_ (by decide) (by decide)
      try rw [hE]
      exact ⟨_, rfl, N0, rfl, by simp [hc2_2, hc11_5]⟩
    · -- pc 11, holds not
      have k7 : To p.tables e below S0 (s₁.setTop (mkF m 19 #[.val (.int a), .val (.int b)] [(.int (1 : Int32))])) := fun tt hq => k4 tt (by
        show Steps _ _ _ (s₁.setTop (mkF m 11 #[.val (.int a), .val (.int b)] [(.int b), (.int a)])) _
        refine XS.icmpYes X0.here hx rfl (pc0 := 11) (pc' := 18) rfl (hb hby d_jdk_33_method_40_code_11) rfl (feq hc11_5).2 (by decide) (by decide) ?_
        show Steps _ _ _ (s₁.setTop (mkF m 18 #[.val (.int a), .val (.int b)] [])) _
        refine XS.iconst X0.here hx rfl (hb hby d_jdk_33_method_40_code_18) ?_
        show Steps _ _ _ (s₁.setTop (mkF m 19 #[.val (.int a), .val (.int b)] [(.int (1 : Int32))])) _
        exact hq)
      have hE := e0
      refine retInt X0 hx hret hlk (by simp) rfl (hb hby d_jdk_33_method_40_code_19) k7 ?_ (by decide) (by decide)
      try rw [hE]
      exact ⟨_, rfl, N0, rfl, by simp [hc2_2, hc11_5]⟩
theorem d_jdk_89_method_18_code_0 : decode jdk_89_method_18_code 0 = .ok (.iload_n 0, 1) := by decide +kernel
theorem d_jdk_89_method_18_code_1 : decode jdk_89_method_18_code 1 = .ok (.ldc 73, 2) := by decide +kernel
theorem d_jdk_89_method_18_code_3 : decode jdk_89_method_18_code 3 = .ok (.if_icmp .lt 7, 3) := by decide +kernel
theorem d_jdk_89_method_18_code_6 : decode jdk_89_method_18_code 6 = .ok (.iconst 2, 1) := by decide +kernel
theorem d_jdk_89_method_18_code_7 : decode jdk_89_method_18_code 7 = .ok (.goto 4, 3) := by decide +kernel
theorem d_jdk_89_method_18_code_10 : decode jdk_89_method_18_code 10 = .ok (.iconst 1, 1) := by decide +kernel
theorem d_jdk_89_method_18_code_11 : decode jdk_89_method_18_code 11 = .ok (.ireturn, 1) := by decide +kernel
theorem pn_4 : plainName "java/lang/Character" = true := by first | (simp [plainName, overriddenIn]; done) | decide +kernel
set_option maxRecDepth 65536 in
set_option maxHeartbeats 40000000 in
theorem rm_cc (l : Launch) (Z : State) (a0 : Array Value) (hw : ∀ d ∈ tables_1, d.before a0 Z = true) (a : Int32) (h0 : Heap) (n0 : Nat) (hn0 : n0 ≤ h0.size) (hs : a < (65536 : Int32)) :
    Con l Z (⟨"java/lang/Character", "charCount", "(I)I"⟩ : MethodName) jdk_89_method_18_code 1 (some .int) [] ({ frames := 0, cells := 0, slots := 0, locals := 0 } : Room) #[(.int a)] h0 (fun v h L => v = some (.int (1 : Int32)) ∧ Fr n0 L ∧ h = h0) := by
  refine enter (Ls := #[.val (.int a)]) (plainFor_of_name pn_4) (fun m => by exact entry_eq rfl) ?_
  intro p e s m below meth cd_ s₁ S0 hx hby hml hret hlk hnm hown hZ X0 e0 k0
  have N0 := Fr.nil n0
  have k1 : To p.tables e below S0 (s₁.setTop (mkF m 11 #[.val (.int a)] [(.int (1 : Int32))])) := fun tt hq => k0 tt (by
    show Steps _ _ _ (s₁.setTop (mkF m 0 #[.val (.int a)] [])) _
    refine XS.iloadN X0.here hx rfl (hb hby d_jdk_89_method_18_code_0) rfl ?_
    show Steps _ _ _ (s₁.setTop (mkF m 1 #[.val (.int a)] [(.int a)])) _
    refine X0.ldcInt hx hown (mvT hZ (hw _ (List.mem_of_getElem? (i := 117) rfl))) (g := (mkF m 1 #[.val (.int a)] [(.int a)])) rfl (hb hby d_jdk_89_method_18_code_1) _ ?_
    show Steps _ _ _ (s₁.setTop (mkF m 3 #[.val (.int a)] [(.int (65536 : Int32)), (.int a)])) _
    refine XS.icmpYes X0.here hx rfl (pc0 := 3) (pc' := 10) rfl (hb hby d_jdk_89_method_18_code_3) rfl (tlt hs).1 (by decide) (by decide) ?_
    show Steps _ _ _ (s₁.setTop (mkF m 10 #[.val (.int a)] [])) _
    refine XS.iconst X0.here hx rfl (hb hby d_jdk_89_method_18_code_10) ?_
    show Steps _ _ _ (s₁.setTop (mkF m 11 #[.val (.int a)] [(.int (1 : Int32))])) _
    exact hq)
  have hE := e0
  refine retInt X0 hx hret hlk (by simp) rfl (hb hby d_jdk_89_method_18_code_11) k1 ?_ (by decide) (by decide)
  try rw [hE]
  exact ⟨rfl, N0, rfl⟩
theorem d_prog_1_method_2_code_0 : decode prog_1_method_2_code 0 = .ok (.iconst 0, 1) := by decide +kernel
theorem d_prog_1_method_2_code_1 : decode prog_1_method_2_code 1 = .ok (.istore_n 3, 1) := by decide +kernel
theorem d_prog_1_method_2_code_2 : decode prog_1_method_2_code 2 = .ok (.iconst 0, 1) := by decide +kernel
theorem d_prog_1_method_2_code_3 : decode prog_1_method_2_code 3 = .ok (.istore 4, 2) := by decide +kernel
theorem d_prog_1_method_2_code_5 : decode prog_1_method_2_code 5 = .ok (.iload_n 3, 1) := by decide +kernel
theorem d_prog_1_method_2_code_6 : decode prog_1_method_2_code 6 = .ok (.aload_n 1, 1) := by decide +kernel
theorem d_prog_1_method_2_code_7 : decode prog_1_method_2_code 7 = .ok (.invokevirtual 7, 3) := by decide +kernel
theorem d_prog_1_method_2_code_10 : decode prog_1_method_2_code 10 = .ok (.if_icmp .ge 63, 3) := by decide +kernel
theorem d_prog_1_method_2_code_13 : decode prog_1_method_2_code 13 = .ok (.iload 4, 2) := by decide +kernel
theorem d_prog_1_method_2_code_15 : decode prog_1_method_2_code 15 = .ok (.aload_n 2, 1) := by decide +kernel
theorem d_prog_1_method_2_code_16 : decode prog_1_method_2_code 16 = .ok (.invokevirtual 7, 3) := by decide +kernel
theorem d_prog_1_method_2_code_19 : decode prog_1_method_2_code 19 = .ok (.if_icmp .ge 54, 3) := by decide +kernel
theorem d_prog_1_method_2_code_22 : decode prog_1_method_2_code 22 = .ok (.aload_n 1, 1) := by decide +kernel
theorem d_prog_1_method_2_code_23 : decode prog_1_method_2_code 23 = .ok (.iload_n 3, 1) := by decide +kernel
theorem d_prog_1_method_2_code_24 : decode prog_1_method_2_code 24 = .ok (.invokevirtual 13, 3) := by decide +kernel
theorem d_prog_1_method_2_code_27 : decode prog_1_method_2_code 27 = .ok (.istore 5, 2) := by decide +kernel
theorem d_prog_1_method_2_code_29 : decode prog_1_method_2_code 29 = .ok (.aload_n 2, 1) := by decide +kernel
theorem d_prog_1_method_2_code_30 : decode prog_1_method_2_code 30 = .ok (.iload 4, 2) := by decide +kernel
theorem d_prog_1_method_2_code_32 : decode prog_1_method_2_code 32 = .ok (.invokevirtual 13, 3) := by decide +kernel
theorem d_prog_1_method_2_code_35 : decode prog_1_method_2_code 35 = .ok (.istore 6, 2) := by decide +kernel
theorem d_prog_1_method_2_code_37 : decode prog_1_method_2_code 37 = .ok (.iload 5, 2) := by decide +kernel
theorem d_prog_1_method_2_code_39 : decode prog_1_method_2_code 39 = .ok (.iload 6, 2) := by decide +kernel
theorem d_prog_1_method_2_code_41 : decode prog_1_method_2_code 41 = .ok (.if_icmp .eq 11, 3) := by decide +kernel
theorem d_prog_1_method_2_code_44 : decode prog_1_method_2_code 44 = .ok (.iload 5, 2) := by decide +kernel
theorem d_prog_1_method_2_code_46 : decode prog_1_method_2_code 46 = .ok (.iload 6, 2) := by decide +kernel
theorem d_prog_1_method_2_code_48 : decode prog_1_method_2_code 48 = .ok (.invokestatic 17, 3) := by decide +kernel
theorem d_prog_1_method_2_code_51 : decode prog_1_method_2_code 51 = .ok (.ireturn, 1) := by decide +kernel
theorem d_prog_1_method_2_code_52 : decode prog_1_method_2_code 52 = .ok (.iload_n 3, 1) := by decide +kernel
theorem d_prog_1_method_2_code_53 : decode prog_1_method_2_code 53 = .ok (.iload 5, 2) := by decide +kernel
theorem d_prog_1_method_2_code_55 : decode prog_1_method_2_code 55 = .ok (.invokestatic 23, 3) := by decide +kernel
theorem d_prog_1_method_2_code_58 : decode prog_1_method_2_code 58 = .ok (.iadd, 1) := by decide +kernel
theorem d_prog_1_method_2_code_59 : decode prog_1_method_2_code 59 = .ok (.istore_n 3, 1) := by decide +kernel
theorem d_prog_1_method_2_code_60 : decode prog_1_method_2_code 60 = .ok (.iload 4, 2) := by decide +kernel
theorem d_prog_1_method_2_code_62 : decode prog_1_method_2_code 62 = .ok (.iload 6, 2) := by decide +kernel
theorem d_prog_1_method_2_code_64 : decode prog_1_method_2_code 64 = .ok (.invokestatic 23, 3) := by decide +kernel
theorem d_prog_1_method_2_code_67 : decode prog_1_method_2_code 67 = .ok (.iadd, 1) := by decide +kernel
theorem d_prog_1_method_2_code_68 : decode prog_1_method_2_code 68 = .ok (.istore 4, 2) := by decide +kernel
theorem d_prog_1_method_2_code_70 : decode prog_1_method_2_code 70 = .ok (.goto (-65), 3) := by decide +kernel
theorem d_prog_1_method_2_code_73 : decode prog_1_method_2_code 73 = .ok (.aload_n 1, 1) := by decide +kernel
theorem d_prog_1_method_2_code_74 : decode prog_1_method_2_code 74 = .ok (.invokevirtual 7, 3) := by decide +kernel
theorem d_prog_1_method_2_code_77 : decode prog_1_method_2_code 77 = .ok (.iload_n 3, 1) := by decide +kernel
theorem d_prog_1_method_2_code_78 : decode prog_1_method_2_code 78 = .ok (.isub, 1) := by decide +kernel
theorem d_prog_1_method_2_code_79 : decode prog_1_method_2_code 79 = .ok (.aload_n 2, 1) := by decide +kernel
theorem d_prog_1_method_2_code_80 : decode prog_1_method_2_code 80 = .ok (.invokevirtual 7, 3) := by decide +kernel
theorem d_prog_1_method_2_code_83 : decode prog_1_method_2_code 83 = .ok (.iload 4, 2) := by decide +kernel
theorem d_prog_1_method_2_code_85 : decode prog_1_method_2_code 85 = .ok (.isub, 1) := by decide +kernel
theorem d_prog_1_method_2_code_86 : decode prog_1_method_2_code 86 = .ok (.invokestatic 17, 3) := by decide +kernel
theorem d_prog_1_method_2_code_89 : decode prog_1_method_2_code 89 = .ok (.ireturn, 1) := by decide +kernel
theorem pn_5 : plainName "com/example/huntaway/huntaway/CodePointOrder" = true := by first | (simp [plainName, overriddenIn]; done) | decide +kernel
theorem pd_8 : parseMethodDescriptor "()I" = some ⟨[], some .int⟩ := by decide +kernel
theorem pd_9 : parseMethodDescriptor "(I)I" = some ⟨[.int], some .int⟩ := by decide +kernel
theorem pd_10 : parseMethodDescriptor "(II)I" = some ⟨[.int, .int], some .int⟩ := by decide +kernel
set_option maxRecDepth 65536 in
set_option maxHeartbeats 40000000 in
theorem rm_cmp11 (l : Launch) (Z : State) (a0 : Array Value) (hw : ∀ d ∈ tables_1, d.before a0 Z = true) (zc : Int32) (fm : Value) (qF : Addr) (qP : Addr) (qI : Addr) (a : Addr) (ta : Addr) (ka : ClassId) (c : Int32) (b : Addr) (tb : Addr) (kb : ClassId) (d : Int32) (h0 : Heap) (n0 : Nat) (hn0 : n0 ≤ h0.size) (S_c : Sta Z Z.heap "java/lang/String" "COMPACT_STRINGS" "Z" (.int zc)) (hzc : ¬ zc = (0 : Int32)) (S_f : Sta Z Z.heap "jdk/internal/util/Preconditions" "SIOOBE_FORMATTER" "Ljava/util/function/BiFunction;" fm) (hfm : fm.isRef = true) (S_F : Sta Z Z.heap "com/example/huntaway/huntaway/Effect" "FORBID" "Lcom/example/huntaway/huntaway/Effect;" (.ref qF)) (S_P : Sta Z Z.heap "com/example/huntaway/huntaway/Effect" "PERMIT" "Lcom/example/huntaway/huntaway/Effect;" (.ref qP)) (S_I : Sta Z Z.heap "com/example/huntaway/huntaway/CodePointOrder" "INSTANCE" "Lcom/example/huntaway/huntaway/CodePointOrder;" (.ref qI)) (A_I : Exa Z Z.heap qI "com/example/huntaway/huntaway/CodePointOrder") (O0 : Old Z n0 h0) (P0 : Exa Z h0 a "java/lang/String") (P1 : Fld Z h0 a "java/lang/String" "value" "[B" (.ref ta)) (P2 : Fld Z h0 a "java/lang/String" "coder" "B" (.int (0 : Int32))) (P3 : Arv Z h0 ta ka .byte (1 : Int32) [(.int c)] (.int 0)) (R0 : Exa Z h0 b "java/lang/String") (R1 : Fld Z h0 b "java/lang/String" "value" "[B" (.ref tb)) (R2 : Fld Z h0 b "java/lang/String" "coder" "B" (.int (0 : Int32))) (R3 : Arv Z h0 tb kb .byte (1 : Int32) [(.int d)] (.int 0)) :
    Con l Z (⟨"com/example/huntaway/huntaway/CodePointOrder", "compare", "(Ljava/lang/String;Ljava/lang/String;)I"⟩ : MethodName) prog_1_method_2_code 7 (some .int) [] ({ frames := 3, cells := 0, slots := 0, locals := 41 } : Room) #[(.ref qI), (.ref a), (.ref b)] h0 (fun v h L => ∃ r : Int32, v = some (.int r) ∧ Fr n0 L ∧ h = h0) := by
  refine enter (Ls := #[.val (.ref qI), .val (.ref a), .val (.ref b), .unset, .unset, .unset, .unset]) (plainFor_of_name pn_5) (fun m => by exact entry_eq rfl) ?_
  intro p e s m below meth cd_ s₁ S0 hx hby hml hret hlk hnm hown hZ X0 e0 k0
  have N0 := Fr.nil n0
  have k1 : To p.tables e below S0 (s₁.setTop (mkF m 7 #[.val (.ref qI), .val (.ref a), .val (.ref b), .val (.int (0 : Int32)), .val (.int (0 : Int32)), .unset, .unset] [(.ref a), (.int (0 : Int32))])) := fun tt hq => k0 tt (by
    show Steps _ _ _ (s₁.setTop (mkF m 0 #[.val (.ref qI), .val (.ref a), .val (.ref b), .unset, .unset, .unset, .unset] [])) _
    refine XS.iconst X0.here hx rfl (hb hby d_prog_1_method_2_code_0) ?_
    show Steps _ _ _ (s₁.setTop (mkF m 1 #[.val (.ref qI), .val (.ref a), .val (.ref b), .unset, .unset, .unset, .unset] [(.int (0 : Int32))])) _
    refine XS.istoreN X0.here hx rfl (hb hby d_prog_1_method_2_code_1) rfl (l' := #[.val (.ref qI), .val (.ref a), .val (.ref b), .val (.int (0 : Int32)), .unset, .unset, .unset]) rfl ?_
    show Steps _ _ _ (s₁.setTop (mkF m 2 #[.val (.ref qI), .val (.ref a), .val (.ref b), .val (.int (0 : Int32)), .unset, .unset, .unset] [])) _
    refine XS.iconst X0.here hx rfl (hb hby d_prog_1_method_2_code_2) ?_
    show Steps _ _ _ (s₁.setTop (mkF m 3 #[.val (.ref qI), .val (.ref a), .val (.ref b), .val (.int (0 : Int32)), .unset, .unset, .unset] [(.int (0 : Int32))])) _
    refine XS.istore X0.here hx rfl (hb hby d_prog_1_method_2_code_3) rfl (l' := #[.val (.ref qI), .val (.ref a), .val (.ref b), .val (.int (0 : Int32)), .val (.int (0 : Int32)), .unset, .unset]) rfl ?_
    show Steps _ _ _ (s₁.setTop (mkF m 5 #[.val (.ref qI), .val (.ref a), .val (.ref b), .val (.int (0 : Int32)), .val (.int (0 : Int32)), .unset, .unset] [])) _
    refine XS.iloadN X0.here hx rfl (hb hby d_prog_1_method_2_code_5) rfl ?_
    show Steps _ _ _ (s₁.setTop (mkF m 6 #[.val (.ref qI), .val (.ref a), .val (.ref b), .val (.int (0 : Int32)), .val (.int (0 : Int32)), .unset, .unset] [(.int (0 : Int32))])) _
    refine XS.aloadN X0.here hx rfl (hb hby d_prog_1_method_2_code_6) rfl rfl ?_
    show Steps _ _ _ (s₁.setTop (mkF m 7 #[.val (.ref qI), .val (.ref a), .val (.ref b), .val (.int (0 : Int32)), .val (.int (0 : Int32)), .unset, .unset] [(.ref a), (.int (0 : Int32))])) _
    exact hq)
  obtain ⟨_, T2, L2, X2, ⟨rfl, Nq2, eq2⟩, k2a⟩ := callV' X0 hx hZ (y := (⟨"java/lang/String", "length", "()I"⟩ : MethodName)) (z := (⟨"java/lang/String", "length", "()I"⟩ : MethodName)) hown (hw _ (List.mem_of_getElem? (i := 85) rfl)) (hw _ (List.mem_of_getElem? (i := 86) rfl)) (notFace_of_selects (args := #[]) (mvT hZ (hw _ (List.mem_of_getElem? (i := 88) rfl)))) (hw _ (List.mem_of_getElem? (i := 88) rfl)) (hw _ (List.mem_of_getElem? (i := 87) rfl)) (by decide) P0 (backC (W := 1) (rm_len1 l Z a0 hw zc a ta ka c h0 n0 (by omega) S_c hzc O0 P0 P1 P2 P3) hZ (hw _ (List.mem_of_getElem? (i := 89) rfl)) (hw _ (List.mem_of_getElem? (i := 12) rfl)) (by decide) (by decide)) e0 (argsL := []) (rest := [(.int (0 : Int32))]) rfl rfl pd_8 rfl (by rw [hml]; rfl) (hb hby d_prog_1_method_2_code_7) (Nat.le_of_eq rfl) (by decide) (by decide) k1
  have k2 : To p.tables e below S0 (T2.setTop (mkF m 10 #[.val (.ref qI), .val (.ref a), .val (.ref b), .val (.int (0 : Int32)), .val (.int (0 : Int32)), .unset, .unset] [(.int (1 : Int32)), (.int (0 : Int32))])) := k2a
  have N2 := N0.app Nq2
  have e2 : T2.heap = h0 := eq2
  have k3 : To p.tables e below S0 (T2.setTop (mkF m 16 #[.val (.ref qI), .val (.ref a), .val (.ref b), .val (.int (0 : Int32)), .val (.int (0 : Int32)), .unset, .unset] [(.ref b), (.int (0 : Int32))])) := fun tt hq => k2 tt (by
    show Steps _ _ _ (T2.setTop (mkF m 10 #[.val (.ref qI), .val (.ref a), .val (.ref b), .val (.int (0 : Int32)), .val (.int (0 : Int32)), .unset, .unset] [(.int (1 : Int32)), (.int (0 : Int32))])) _
    refine XS.icmpNo X2.here hx rfl (hb hby d_prog_1_method_2_code_10) rfl (tlt (by decide)).2.1 ?_
    show Steps _ _ _ (T2.setTop (mkF m 13 #[.val (.ref qI), .val (.ref a), .val (.ref b), .val (.int (0 : Int32)), .val (.int (0 : Int32)), .unset, .unset] [])) _
    refine XS.iload X2.here hx rfl (hb hby d_prog_1_method_2_code_13) rfl ?_
    show Steps _ _ _ (T2.setTop (mkF m 15 #[.val (.ref qI), .val (.ref a), .val (.ref b), .val (.int (0 : Int32)), .val (.int (0 : Int32)), .unset, .unset] [(.int (0 : Int32))])) _
    refine XS.aloadN X2.here hx rfl (hb hby d_prog_1_method_2_code_15) rfl rfl ?_
    show Steps _ _ _ (T2.setTop (mkF m 16 #[.val (.ref qI), .val (.ref a), .val (.ref b), .val (.int (0 : Int32)), .val (.int (0 : Int32)), .unset, .unset] [(.ref b), (.int (0 : Int32))])) _
    exact hq)
  obtain ⟨_, T4, L4, X4, ⟨rfl, Nq4, eq4⟩, k4a⟩ := callV' X2 hx hZ (y := (⟨"java/lang/String", "length", "()I"⟩ : MethodName)) (z := (⟨"java/lang/String", "length", "()I"⟩ : MethodName)) hown (hw _ (List.mem_of_getElem? (i := 85) rfl)) (hw _ (List.mem_of_getElem? (i := 86) rfl)) (notFace_of_selects (args := #[]) (mvT hZ (hw _ (List.mem_of_getElem? (i := 88) rfl)))) (hw _ (List.mem_of_getElem? (i := 88) rfl)) (hw _ (List.mem_of_getElem? (i := 87) rfl)) (by decide) R0 (backC (W := 1) (rm_len1 l Z a0 hw zc b tb kb d h0 n0 (by omega) S_c hzc O0 R0 R1 R2 R3) hZ (hw _ (List.mem_of_getElem? (i := 89) rfl)) (hw _ (List.mem_of_getElem? (i := 12) rfl)) (by decide) (by decide)) e2 (argsL := []) (rest := [(.int (0 : Int32))]) rfl rfl pd_8 rfl (by rw [hml]; rfl) (hb hby d_prog_1_method_2_code_16) (Nat.le_of_eq rfl) (by decide) (by decide) k3
  have k4 : To p.tables e below S0 (T4.setTop (mkF m 19 #[.val (.ref qI), .val (.ref a), .val (.ref b), .val (.int (0 : Int32)), .val (.int (0 : Int32)), .unset, .unset] [(.int (1 : Int32)), (.int (0 : Int32))])) := k4a
  have N4 := N2.app Nq4
  have e4 : T4.heap = h0 := eq4
  have k5 : To p.tables e below S0 (T4.setTop (mkF m 24 #[.val (.ref qI), .val (.ref a), .val (.ref b), .val (.int (0 : Int32)), .val (.int (0 : Int32)), .unset, .unset] [(.int (0 : Int32)), (.ref a)])) := fun tt hq => k4 tt (by
    show Steps _ _ _ (T4.setTop (mkF m 19 #[.val (.ref qI), .val (.ref a), .val (.ref b), .val (.int (0 : Int32)), .val (.int (0 : Int32)), .unset, .unset] [(.int (1 : Int32)), (.int (0 : Int32))])) _
    refine XS.icmpNo X4.here hx rfl (hb hby d_prog_1_method_2_code_19) rfl (tlt (by decide)).2.1 ?_
    show Steps _ _ _ (T4.setTop (mkF m 22 #[.val (.ref qI), .val (.ref a), .val (.ref b), .val (.int (0 : Int32)), .val (.int (0 : Int32)), .unset, .unset] [])) _
    refine XS.aloadN X4.here hx rfl (hb hby d_prog_1_method_2_code_22) rfl rfl ?_
    show Steps _ _ _ (T4.setTop (mkF m 23 #[.val (.ref qI), .val (.ref a), .val (.ref b), .val (.int (0 : Int32)), .val (.int (0 : Int32)), .unset, .unset] [(.ref a)])) _
    refine XS.iloadN X4.here hx rfl (hb hby d_prog_1_method_2_code_23) rfl ?_
    show Steps _ _ _ (T4.setTop (mkF m 24 #[.val (.ref qI), .val (.ref a), .val (.ref b), .val (.int (0 : Int32)), .val (.int (0 : Int32)), .unset, .unset] [(.int (0 : Int32)), (.ref a)])) _
    exact hq)
  obtain ⟨_, T6, L6, X6, ⟨rfl, Nq6, eq6⟩, k6a⟩ := callV' X4 hx hZ (y := (⟨"java/lang/String", "codePointAt", "(I)I"⟩ : MethodName)) (z := (⟨"java/lang/String", "codePointAt", "(I)I"⟩ : MethodName)) hown (hw _ (List.mem_of_getElem? (i := 95) rfl)) (hw _ (List.mem_of_getElem? (i := 96) rfl)) (notFace_of_selects (args := #[]) (mvT hZ (hw _ (List.mem_of_getElem? (i := 98) rfl)))) (hw _ (List.mem_of_getElem? (i := 98) rfl)) (hw _ (List.mem_of_getElem? (i := 97) rfl)) (by decide) P0 (backC (W := 0) (rm_cp1_0 l Z a0 hw zc fm a ta ka c h0 n0 (by omega) S_c hzc S_f hfm O0 P0 P1 P2 P3) hZ (hw _ (List.mem_of_getElem? (i := 99) rfl)) (hw _ (List.mem_of_getElem? (i := 12) rfl)) (by decide) (by decide)) e4 (argsL := [(.int (0 : Int32))]) (rest := []) rfl rfl pd_9 rfl (by rw [hml]; rfl) (hb hby d_prog_1_method_2_code_24) (Nat.le_of_eq rfl) (by decide) (by decide) k5
  have k6 : To p.tables e below S0 (T6.setTop (mkF m 27 #[.val (.ref qI), .val (.ref a), .val (.ref b), .val (.int (0 : Int32)), .val (.int (0 : Int32)), .unset, .unset] [(.int (c &&& (255 : Int32)))])) := k6a
  have N6 := N4.app Nq6
  have e6 : T6.heap = h0 := eq6
  have k7 : To p.tables e below S0 (T6.setTop (mkF m 32 #[.val (.ref qI), .val (.ref a), .val (.ref b), .val (.int (0 : Int32)), .val (.int (0 : Int32)), .val (.int (c &&& (255 : Int32))), .unset] [(.int (0 : Int32)), (.ref b)])) := fun tt hq => k6 tt (by
    show Steps _ _ _ (T6.setTop (mkF m 27 #[.val (.ref qI), .val (.ref a), .val (.ref b), .val (.int (0 : Int32)), .val (.int (0 : Int32)), .unset, .unset] [(.int (c &&& (255 : Int32)))])) _
    refine XS.istore X6.here hx rfl (hb hby d_prog_1_method_2_code_27) rfl (l' := #[.val (.ref qI), .val (.ref a), .val (.ref b), .val (.int (0 : Int32)), .val (.int (0 : Int32)), .val (.int (c &&& (255 : Int32))), .unset]) rfl ?_
    show Steps _ _ _ (T6.setTop (mkF m 29 #[.val (.ref qI), .val (.ref a), .val (.ref b), .val (.int (0 : Int32)), .val (.int (0 : Int32)), .val (.int (c &&& (255 : Int32))), .unset] [])) _
    refine XS.aloadN X6.here hx rfl (hb hby d_prog_1_method_2_code_29) rfl rfl ?_
    show Steps _ _ _ (T6.setTop (mkF m 30 #[.val (.ref qI), .val (.ref a), .val (.ref b), .val (.int (0 : Int32)), .val (.int (0 : Int32)), .val (.int (c &&& (255 : Int32))), .unset] [(.ref b)])) _
    refine XS.iload X6.here hx rfl (hb hby d_prog_1_method_2_code_30) rfl ?_
    show Steps _ _ _ (T6.setTop (mkF m 32 #[.val (.ref qI), .val (.ref a), .val (.ref b), .val (.int (0 : Int32)), .val (.int (0 : Int32)), .val (.int (c &&& (255 : Int32))), .unset] [(.int (0 : Int32)), (.ref b)])) _
    exact hq)
  obtain ⟨_, T8, L8, X8, ⟨rfl, Nq8, eq8⟩, k8a⟩ := callV' X6 hx hZ (y := (⟨"java/lang/String", "codePointAt", "(I)I"⟩ : MethodName)) (z := (⟨"java/lang/String", "codePointAt", "(I)I"⟩ : MethodName)) hown (hw _ (List.mem_of_getElem? (i := 95) rfl)) (hw _ (List.mem_of_getElem? (i := 96) rfl)) (notFace_of_selects (args := #[]) (mvT hZ (hw _ (List.mem_of_getElem? (i := 98) rfl)))) (hw _ (List.mem_of_getElem? (i := 98) rfl)) (hw _ (List.mem_of_getElem? (i := 97) rfl)) (by decide) R0 (backC (W := 0) (rm_cp1_0 l Z a0 hw zc fm b tb kb d h0 n0 (by omega) S_c hzc S_f hfm O0 R0 R1 R2 R3) hZ (hw _ (List.mem_of_getElem? (i := 99) rfl)) (hw _ (List.mem_of_getElem? (i := 12) rfl)) (by decide) (by decide)) e6 (argsL := [(.int (0 : Int32))]) (rest := []) rfl rfl pd_9 rfl (by rw [hml]; rfl) (hb hby d_prog_1_method_2_code_32) (Nat.le_of_eq rfl) (by decide) (by decide) k7
  have k8 : To p.tables e below S0 (T8.setTop (mkF m 35 #[.val (.ref qI), .val (.ref a), .val (.ref b), .val (.int (0 : Int32)), .val (.int (0 : Int32)), .val (.int (c &&& (255 : Int32))), .unset] [(.int (d &&& (255 : Int32)))])) := k8a
  have N8 := N6.app Nq8
  have e8 : T8.heap = h0 := eq8
  have k9 : To p.tables e below S0 (T8.setTop (mkF m 41 #[.val (.ref qI), .val (.ref a), .val (.ref b), .val (.int (0 : Int32)), .val (.int (0 : Int32)), .val (.int (c &&& (255 : Int32))), .val (.int (d &&& (255 : Int32)))] [(.int (d &&& (255 : Int32))), (.int (c &&& (255 : Int32)))])) := fun tt hq => k8 tt (by
    show Steps _ _ _ (T8.setTop (mkF m 35 #[.val (.ref qI), .val (.ref a), .val (.ref b), .val (.int (0 : Int32)), .val (.int (0 : Int32)), .val (.int (c &&& (255 : Int32))), .unset] [(.int (d &&& (255 : Int32)))])) _
    refine XS.istore X8.here hx rfl (hb hby d_prog_1_method_2_code_35) rfl (l' := #[.val (.ref qI), .val (.ref a), .val (.ref b), .val (.int (0 : Int32)), .val (.int (0 : Int32)), .val (.int (c &&& (255 : Int32))), .val (.int (d &&& (255 : Int32)))]) rfl ?_
    show Steps _ _ _ (T8.setTop (mkF m 37 #[.val (.ref qI), .val (.ref a), .val (.ref b), .val (.int (0 : Int32)), .val (.int (0 : Int32)), .val (.int (c &&& (255 : Int32))), .val (.int (d &&& (255 : Int32)))] [])) _
    refine XS.iload X8.here hx rfl (hb hby d_prog_1_method_2_code_37) rfl ?_
    show Steps _ _ _ (T8.setTop (mkF m 39 #[.val (.ref qI), .val (.ref a), .val (.ref b), .val (.int (0 : Int32)), .val (.int (0 : Int32)), .val (.int (c &&& (255 : Int32))), .val (.int (d &&& (255 : Int32)))] [(.int (c &&& (255 : Int32)))])) _
    refine XS.iload X8.here hx rfl (hb hby d_prog_1_method_2_code_39) rfl ?_
    show Steps _ _ _ (T8.setTop (mkF m 41 #[.val (.ref qI), .val (.ref a), .val (.ref b), .val (.int (0 : Int32)), .val (.int (0 : Int32)), .val (.int (c &&& (255 : Int32))), .val (.int (d &&& (255 : Int32)))] [(.int (d &&& (255 : Int32))), (.int (c &&& (255 : Int32)))])) _
    exact hq)
  by_cases hc41_10 : (c &&& (255 : Int32)) = (d &&& (255 : Int32))
  · -- pc 41, holds
    have k11 : To p.tables e below S0 (T8.setTop (mkF m 55 #[.val (.ref qI), .val (.ref a), .val (.ref b), .val (.int (0 : Int32)), .val (.int (0 : Int32)), .val (.int (c &&& (255 : Int32))), .val (.int (d &&& (255 : Int32)))] [(.int (c &&& (255 : Int32))), (.int (0 : Int32))])) := fun tt hq => k9 tt (by
      show Steps _ _ _ (T8.setTop (mkF m 41 #[.val (.ref qI), .val (.ref a), .val (.ref b), .val (.int (0 : Int32)), .val (.int (0 : Int32)), .val (.int (c &&& (255 : Int32))), .val (.int (d &&& (255 : Int32)))] [(.int (d &&& (255 : Int32))), (.int (c &&& (255 : Int32)))])) _
      refine XS.icmpYes X8.here hx rfl (pc0 := 41) (pc' := 52) rfl (hb hby d_prog_1_method_2_code_41) rfl (teq hc41_10).1 (by decide) (by decide) ?_
      show Steps _ _ _ (T8.setTop (mkF m 52 #[.val (.ref qI), .val (.ref a), .val (.ref b), .val (.int (0 : Int32)), .val (.int (0 : Int32)), .val (.int (c &&& (255 : Int32))), .val (.int (d &&& (255 : Int32)))] [])) _
      refine XS.iloadN X8.here hx rfl (hb hby d_prog_1_method_2_code_52) rfl ?_
      show Steps _ _ _ (T8.setTop (mkF m 53 #[.val (.ref qI), .val (.ref a), .val (.ref b), .val (.int (0 : Int32)), .val (.int (0 : Int32)), .val (.int (c &&& (255 : Int32))), .val (.int (d &&& (255 : Int32)))] [(.int (0 : Int32))])) _
      refine XS.iload X8.here hx rfl (hb hby d_prog_1_method_2_code_53) rfl ?_
      show Steps _ _ _ (T8.setTop (mkF m 55 #[.val (.ref qI), .val (.ref a), .val (.ref b), .val (.int (0 : Int32)), .val (.int (0 : Int32)), .val (.int (c &&& (255 : Int32))), .val (.int (d &&& (255 : Int32)))] [(.int (c &&& (255 : Int32))), (.int (0 : Int32))])) _
      exact hq)
    obtain ⟨_, T12, L12, X12, ⟨rfl, Nq12, eq12⟩, k12a⟩ := callS' X8 hx hZ (y := (⟨"java/lang/Character", "charCount", "(I)I"⟩ : MethodName)) hown (hw _ (List.mem_of_getElem? (i := 113) rfl)) (hw _ (List.mem_of_getElem? (i := 114) rfl)) (hw _ (List.mem_of_getElem? (i := 115) rfl)) (hw _ (List.mem_of_getElem? (i := 116) rfl)) (by decide) (backC (W := 1) (rm_cc l Z a0 hw (c &&& (255 : Int32)) h0 n0 (by omega) (own_small _)) hZ (hw _ (List.mem_of_getElem? (i := 116) rfl)) (hw _ (List.mem_of_getElem? (i := 115) rfl)) (by decide) (by decide)) e8 (argsL := [(.int (c &&& (255 : Int32)))]) (rest := [(.int (0 : Int32))]) rfl rfl pd_9 rfl (by rw [hml]; rfl) (hb hby d_prog_1_method_2_code_55) (Nat.le_of_eq rfl) (by decide) (by decide) k11
    have k12 : To p.tables e below S0 (T12.setTop (mkF m 58 #[.val (.ref qI), .val (.ref a), .val (.ref b), .val (.int (0 : Int32)), .val (.int (0 : Int32)), .val (.int (c &&& (255 : Int32))), .val (.int (d &&& (255 : Int32)))] [(.int (1 : Int32)), (.int (0 : Int32))])) := k12a
    have N12 := N8.app Nq12
    have e12 : T12.heap = h0 := eq12
    have k13 : To p.tables e below S0 (T12.setTop (mkF m 64 #[.val (.ref qI), .val (.ref a), .val (.ref b), .val (.int (1 : Int32)), .val (.int (0 : Int32)), .val (.int (c &&& (255 : Int32))), .val (.int (d &&& (255 : Int32)))] [(.int (d &&& (255 : Int32))), (.int (0 : Int32))])) := fun tt hq => k12 tt (by
      show Steps _ _ _ (T12.setTop (mkF m 58 #[.val (.ref qI), .val (.ref a), .val (.ref b), .val (.int (0 : Int32)), .val (.int (0 : Int32)), .val (.int (c &&& (255 : Int32))), .val (.int (d &&& (255 : Int32)))] [(.int (1 : Int32)), (.int (0 : Int32))])) _
      refine XS.iadd X12.here hx rfl (hb hby d_prog_1_method_2_code_58) rfl ?_
      show Steps _ _ _ (T12.setTop (mkF m 59 #[.val (.ref qI), .val (.ref a), .val (.ref b), .val (.int (0 : Int32)), .val (.int (0 : Int32)), .val (.int (c &&& (255 : Int32))), .val (.int (d &&& (255 : Int32)))] [(.int (1 : Int32))])) _
      refine XS.istoreN X12.here hx rfl (hb hby d_prog_1_method_2_code_59) rfl (l' := #[.val (.ref qI), .val (.ref a), .val (.ref b), .val (.int (1 : Int32)), .val (.int (0 : Int32)), .val (.int (c &&& (255 : Int32))), .val (.int (d &&& (255 : Int32)))]) rfl ?_
      show Steps _ _ _ (T12.setTop (mkF m 60 #[.val (.ref qI), .val (.ref a), .val (.ref b), .val (.int (1 : Int32)), .val (.int (0 : Int32)), .val (.int (c &&& (255 : Int32))), .val (.int (d &&& (255 : Int32)))] [])) _
      refine XS.iload X12.here hx rfl (hb hby d_prog_1_method_2_code_60) rfl ?_
      show Steps _ _ _ (T12.setTop (mkF m 62 #[.val (.ref qI), .val (.ref a), .val (.ref b), .val (.int (1 : Int32)), .val (.int (0 : Int32)), .val (.int (c &&& (255 : Int32))), .val (.int (d &&& (255 : Int32)))] [(.int (0 : Int32))])) _
      refine XS.iload X12.here hx rfl (hb hby d_prog_1_method_2_code_62) rfl ?_
      show Steps _ _ _ (T12.setTop (mkF m 64 #[.val (.ref qI), .val (.ref a), .val (.ref b), .val (.int (1 : Int32)), .val (.int (0 : Int32)), .val (.int (c &&& (255 : Int32))), .val (.int (d &&& (255 : Int32)))] [(.int (d &&& (255 : Int32))), (.int (0 : Int32))])) _
      exact hq)
    obtain ⟨_, T14, L14, X14, ⟨rfl, Nq14, eq14⟩, k14a⟩ := callS' X12 hx hZ (y := (⟨"java/lang/Character", "charCount", "(I)I"⟩ : MethodName)) hown (hw _ (List.mem_of_getElem? (i := 113) rfl)) (hw _ (List.mem_of_getElem? (i := 114) rfl)) (hw _ (List.mem_of_getElem? (i := 115) rfl)) (hw _ (List.mem_of_getElem? (i := 116) rfl)) (by decide) (backC (W := 1) (rm_cc l Z a0 hw (d &&& (255 : Int32)) h0 n0 (by omega) (own_small _)) hZ (hw _ (List.mem_of_getElem? (i := 116) rfl)) (hw _ (List.mem_of_getElem? (i := 115) rfl)) (by decide) (by decide)) e12 (argsL := [(.int (d &&& (255 : Int32)))]) (rest := [(.int (0 : Int32))]) rfl rfl pd_9 rfl (by rw [hml]; rfl) (hb hby d_prog_1_method_2_code_64) (Nat.le_of_eq rfl) (by decide) (by decide) k13
    have k14 : To p.tables e below S0 (T14.setTop (mkF m 67 #[.val (.ref qI), .val (.ref a), .val (.ref b), .val (.int (1 : Int32)), .val (.int (0 : Int32)), .val (.int (c &&& (255 : Int32))), .val (.int (d &&& (255 : Int32)))] [(.int (1 : Int32)), (.int (0 : Int32))])) := k14a
    have N14 := N12.app Nq14
    have e14 : T14.heap = h0 := eq14
    have k15 : To p.tables e below S0 (T14.setTop (mkF m 7 #[.val (.ref qI), .val (.ref a), .val (.ref b), .val (.int (1 : Int32)), .val (.int (1 : Int32)), .val (.int (c &&& (255 : Int32))), .val (.int (d &&& (255 : Int32)))] [(.ref a), (.int (1 : Int32))])) := fun tt hq => k14 tt (by
      show Steps _ _ _ (T14.setTop (mkF m 67 #[.val (.ref qI), .val (.ref a), .val (.ref b), .val (.int (1 : Int32)), .val (.int (0 : Int32)), .val (.int (c &&& (255 : Int32))), .val (.int (d &&& (255 : Int32)))] [(.int (1 : Int32)), (.int (0 : Int32))])) _
      refine XS.iadd X14.here hx rfl (hb hby d_prog_1_method_2_code_67) rfl ?_
      show Steps _ _ _ (T14.setTop (mkF m 68 #[.val (.ref qI), .val (.ref a), .val (.ref b), .val (.int (1 : Int32)), .val (.int (0 : Int32)), .val (.int (c &&& (255 : Int32))), .val (.int (d &&& (255 : Int32)))] [(.int (1 : Int32))])) _
      refine XS.istore X14.here hx rfl (hb hby d_prog_1_method_2_code_68) rfl (l' := #[.val (.ref qI), .val (.ref a), .val (.ref b), .val (.int (1 : Int32)), .val (.int (1 : Int32)), .val (.int (c &&& (255 : Int32))), .val (.int (d &&& (255 : Int32)))]) rfl ?_
      show Steps _ _ _ (T14.setTop (mkF m 70 #[.val (.ref qI), .val (.ref a), .val (.ref b), .val (.int (1 : Int32)), .val (.int (1 : Int32)), .val (.int (c &&& (255 : Int32))), .val (.int (d &&& (255 : Int32)))] [])) _
      refine XS.goto X14.here hx rfl (pc0 := 70) (pc' := 5) rfl (hb hby d_prog_1_method_2_code_70) (by decide) (by decide) ?_
      show Steps _ _ _ (T14.setTop (mkF m 5 #[.val (.ref qI), .val (.ref a), .val (.ref b), .val (.int (1 : Int32)), .val (.int (1 : Int32)), .val (.int (c &&& (255 : Int32))), .val (.int (d &&& (255 : Int32)))] [])) _
      refine XS.iloadN X14.here hx rfl (hb hby d_prog_1_method_2_code_5) rfl ?_
      show Steps _ _ _ (T14.setTop (mkF m 6 #[.val (.ref qI), .val (.ref a), .val (.ref b), .val (.int (1 : Int32)), .val (.int (1 : Int32)), .val (.int (c &&& (255 : Int32))), .val (.int (d &&& (255 : Int32)))] [(.int (1 : Int32))])) _
      refine XS.aloadN X14.here hx rfl (hb hby d_prog_1_method_2_code_6) rfl rfl ?_
      show Steps _ _ _ (T14.setTop (mkF m 7 #[.val (.ref qI), .val (.ref a), .val (.ref b), .val (.int (1 : Int32)), .val (.int (1 : Int32)), .val (.int (c &&& (255 : Int32))), .val (.int (d &&& (255 : Int32)))] [(.ref a), (.int (1 : Int32))])) _
      exact hq)
    obtain ⟨_, T16, L16, X16, ⟨rfl, Nq16, eq16⟩, k16a⟩ := callV' X14 hx hZ (y := (⟨"java/lang/String", "length", "()I"⟩ : MethodName)) (z := (⟨"java/lang/String", "length", "()I"⟩ : MethodName)) hown (hw _ (List.mem_of_getElem? (i := 85) rfl)) (hw _ (List.mem_of_getElem? (i := 86) rfl)) (notFace_of_selects (args := #[]) (mvT hZ (hw _ (List.mem_of_getElem? (i := 88) rfl)))) (hw _ (List.mem_of_getElem? (i := 88) rfl)) (hw _ (List.mem_of_getElem? (i := 87) rfl)) (by decide) P0 (backC (W := 1) (rm_len1 l Z a0 hw zc a ta ka c h0 n0 (by omega) S_c hzc O0 P0 P1 P2 P3) hZ (hw _ (List.mem_of_getElem? (i := 89) rfl)) (hw _ (List.mem_of_getElem? (i := 12) rfl)) (by decide) (by decide)) e14 (argsL := []) (rest := [(.int (1 : Int32))]) rfl rfl pd_8 rfl (by rw [hml]; rfl) (hb hby d_prog_1_method_2_code_7) (Nat.le_of_eq rfl) (by decide) (by decide) k15
    have k16 : To p.tables e below S0 (T16.setTop (mkF m 10 #[.val (.ref qI), .val (.ref a), .val (.ref b), .val (.int (1 : Int32)), .val (.int (1 : Int32)), .val (.int (c &&& (255 : Int32))), .val (.int (d &&& (255 : Int32)))] [(.int (1 : Int32)), (.int (1 : Int32))])) := k16a
    have N16 := N14.app Nq16
    have e16 : T16.heap = h0 := eq16
    have k17 : To p.tables e below S0 (T16.setTop (mkF m 74 #[.val (.ref qI), .val (.ref a), .val (.ref b), .val (.int (1 : Int32)), .val (.int (1 : Int32)), .val (.int (c &&& (255 : Int32))), .val (.int (d &&& (255 : Int32)))] [(.ref a)])) := fun tt hq => k16 tt (by
      show Steps _ _ _ (T16.setTop (mkF m 10 #[.val (.ref qI), .val (.ref a), .val (.ref b), .val (.int (1 : Int32)), .val (.int (1 : Int32)), .val (.int (c &&& (255 : Int32))), .val (.int (d &&& (255 : Int32)))] [(.int (1 : Int32)), (.int (1 : Int32))])) _
      refine XS.icmpYes X16.here hx rfl (pc0 := 10) (pc' := 73) rfl (hb hby d_prog_1_method_2_code_10) rfl (flt (by decide)).2.1 (by decide) (by decide) ?_
      show Steps _ _ _ (T16.setTop (mkF m 73 #[.val (.ref qI), .val (.ref a), .val (.ref b), .val (.int (1 : Int32)), .val (.int (1 : Int32)), .val (.int (c &&& (255 : Int32))), .val (.int (d &&& (255 : Int32)))] [])) _
      refine XS.aloadN X16.here hx rfl (hb hby d_prog_1_method_2_code_73) rfl rfl ?_
      show Steps _ _ _ (T16.setTop (mkF m 74 #[.val (.ref qI), .val (.ref a), .val (.ref b), .val (.int (1 : Int32)), .val (.int (1 : Int32)), .val (.int (c &&& (255 : Int32))), .val (.int (d &&& (255 : Int32)))] [(.ref a)])) _
      exact hq)
    obtain ⟨_, T18, L18, X18, ⟨rfl, Nq18, eq18⟩, k18a⟩ := callV' X16 hx hZ (y := (⟨"java/lang/String", "length", "()I"⟩ : MethodName)) (z := (⟨"java/lang/String", "length", "()I"⟩ : MethodName)) hown (hw _ (List.mem_of_getElem? (i := 85) rfl)) (hw _ (List.mem_of_getElem? (i := 86) rfl)) (notFace_of_selects (args := #[]) (mvT hZ (hw _ (List.mem_of_getElem? (i := 88) rfl)))) (hw _ (List.mem_of_getElem? (i := 88) rfl)) (hw _ (List.mem_of_getElem? (i := 87) rfl)) (by decide) P0 (backC (W := 0) (rm_len1 l Z a0 hw zc a ta ka c h0 n0 (by omega) S_c hzc O0 P0 P1 P2 P3) hZ (hw _ (List.mem_of_getElem? (i := 89) rfl)) (hw _ (List.mem_of_getElem? (i := 12) rfl)) (by decide) (by decide)) e16 (argsL := []) (rest := []) rfl rfl pd_8 rfl (by rw [hml]; rfl) (hb hby d_prog_1_method_2_code_74) (Nat.le_of_eq rfl) (by decide) (by decide) k17
    have k18 : To p.tables e below S0 (T18.setTop (mkF m 77 #[.val (.ref qI), .val (.ref a), .val (.ref b), .val (.int (1 : Int32)), .val (.int (1 : Int32)), .val (.int (c &&& (255 : Int32))), .val (.int (d &&& (255 : Int32)))] [(.int (1 : Int32))])) := k18a
    have N18 := N16.app Nq18
    have e18 : T18.heap = h0 := eq18
    have k19 : To p.tables e below S0 (T18.setTop (mkF m 80 #[.val (.ref qI), .val (.ref a), .val (.ref b), .val (.int (1 : Int32)), .val (.int (1 : Int32)), .val (.int (c &&& (255 : Int32))), .val (.int (d &&& (255 : Int32)))] [(.ref b), (.int (0 : Int32))])) := fun tt hq => k18 tt (by
      show Steps _ _ _ (T18.setTop (mkF m 77 #[.val (.ref qI), .val (.ref a), .val (.ref b), .val (.int (1 : Int32)), .val (.int (1 : Int32)), .val (.int (c &&& (255 : Int32))), .val (.int (d &&& (255 : Int32)))] [(.int (1 : Int32))])) _
      refine XS.iloadN X18.here hx rfl (hb hby d_prog_1_method_2_code_77) rfl ?_
      show Steps _ _ _ (T18.setTop (mkF m 78 #[.val (.ref qI), .val (.ref a), .val (.ref b), .val (.int (1 : Int32)), .val (.int (1 : Int32)), .val (.int (c &&& (255 : Int32))), .val (.int (d &&& (255 : Int32)))] [(.int (1 : Int32)), (.int (1 : Int32))])) _
      refine XS.isub X18.here hx rfl (hb hby d_prog_1_method_2_code_78) rfl ?_
      show Steps _ _ _ (T18.setTop (mkF m 79 #[.val (.ref qI), .val (.ref a), .val (.ref b), .val (.int (1 : Int32)), .val (.int (1 : Int32)), .val (.int (c &&& (255 : Int32))), .val (.int (d &&& (255 : Int32)))] [(.int (0 : Int32))])) _
      refine XS.aloadN X18.here hx rfl (hb hby d_prog_1_method_2_code_79) rfl rfl ?_
      show Steps _ _ _ (T18.setTop (mkF m 80 #[.val (.ref qI), .val (.ref a), .val (.ref b), .val (.int (1 : Int32)), .val (.int (1 : Int32)), .val (.int (c &&& (255 : Int32))), .val (.int (d &&& (255 : Int32)))] [(.ref b), (.int (0 : Int32))])) _
      exact hq)
    obtain ⟨_, T20, L20, X20, ⟨rfl, Nq20, eq20⟩, k20a⟩ := callV' X18 hx hZ (y := (⟨"java/lang/String", "length", "()I"⟩ : MethodName)) (z := (⟨"java/lang/String", "length", "()I"⟩ : MethodName)) hown (hw _ (List.mem_of_getElem? (i := 85) rfl)) (hw _ (List.mem_of_getElem? (i := 86) rfl)) (notFace_of_selects (args := #[]) (mvT hZ (hw _ (List.mem_of_getElem? (i := 88) rfl)))) (hw _ (List.mem_of_getElem? (i := 88) rfl)) (hw _ (List.mem_of_getElem? (i := 87) rfl)) (by decide) R0 (backC (W := 1) (rm_len1 l Z a0 hw zc b tb kb d h0 n0 (by omega) S_c hzc O0 R0 R1 R2 R3) hZ (hw _ (List.mem_of_getElem? (i := 89) rfl)) (hw _ (List.mem_of_getElem? (i := 12) rfl)) (by decide) (by decide)) e18 (argsL := []) (rest := [(.int (0 : Int32))]) rfl rfl pd_8 rfl (by rw [hml]; rfl) (hb hby d_prog_1_method_2_code_80) (Nat.le_of_eq rfl) (by decide) (by decide) k19
    have k20 : To p.tables e below S0 (T20.setTop (mkF m 83 #[.val (.ref qI), .val (.ref a), .val (.ref b), .val (.int (1 : Int32)), .val (.int (1 : Int32)), .val (.int (c &&& (255 : Int32))), .val (.int (d &&& (255 : Int32)))] [(.int (1 : Int32)), (.int (0 : Int32))])) := k20a
    have N20 := N18.app Nq20
    have e20 : T20.heap = h0 := eq20
    have k21 : To p.tables e below S0 (T20.setTop (mkF m 86 #[.val (.ref qI), .val (.ref a), .val (.ref b), .val (.int (1 : Int32)), .val (.int (1 : Int32)), .val (.int (c &&& (255 : Int32))), .val (.int (d &&& (255 : Int32)))] [(.int (0 : Int32)), (.int (0 : Int32))])) := fun tt hq => k20 tt (by
      show Steps _ _ _ (T20.setTop (mkF m 83 #[.val (.ref qI), .val (.ref a), .val (.ref b), .val (.int (1 : Int32)), .val (.int (1 : Int32)), .val (.int (c &&& (255 : Int32))), .val (.int (d &&& (255 : Int32)))] [(.int (1 : Int32)), (.int (0 : Int32))])) _
      refine XS.iload X20.here hx rfl (hb hby d_prog_1_method_2_code_83) rfl ?_
      show Steps _ _ _ (T20.setTop (mkF m 85 #[.val (.ref qI), .val (.ref a), .val (.ref b), .val (.int (1 : Int32)), .val (.int (1 : Int32)), .val (.int (c &&& (255 : Int32))), .val (.int (d &&& (255 : Int32)))] [(.int (1 : Int32)), (.int (1 : Int32)), (.int (0 : Int32))])) _
      refine XS.isub X20.here hx rfl (hb hby d_prog_1_method_2_code_85) rfl ?_
      show Steps _ _ _ (T20.setTop (mkF m 86 #[.val (.ref qI), .val (.ref a), .val (.ref b), .val (.int (1 : Int32)), .val (.int (1 : Int32)), .val (.int (c &&& (255 : Int32))), .val (.int (d &&& (255 : Int32)))] [(.int (0 : Int32)), (.int (0 : Int32))])) _
      exact hq)
    obtain ⟨_, T22, L22, X22, ⟨r22, rfl, Nq22, eq22, hr22⟩, k22a⟩ := callS' X20 hx hZ (y := (⟨"java/lang/Integer", "compare", "(II)I"⟩ : MethodName)) hown (hw _ (List.mem_of_getElem? (i := 118) rfl)) (hw _ (List.mem_of_getElem? (i := 119) rfl)) (hw _ (List.mem_of_getElem? (i := 120) rfl)) (hw _ (List.mem_of_getElem? (i := 121) rfl)) (by decide) (backC (W := 0) (rm_icmp l Z a0 hw (0 : Int32) (0 : Int32) h0 n0 (by omega)) hZ (hw _ (List.mem_of_getElem? (i := 121) rfl)) (hw _ (List.mem_of_getElem? (i := 120) rfl)) (by decide) (by decide)) e20 (argsL := [(.int (0 : Int32)), (.int (0 : Int32))]) (rest := []) rfl rfl pd_10 rfl (by rw [hml]; rfl) (hb hby d_prog_1_method_2_code_86) (Nat.le_of_eq rfl) (by decide) (by decide) k21
    have k22 : To p.tables e below S0 (T22.setTop (mkF m 89 #[.val (.ref qI), .val (.ref a), .val (.ref b), .val (.int (1 : Int32)), .val (.int (1 : Int32)), .val (.int (c &&& (255 : Int32))), .val (.int (d &&& (255 : Int32)))] [(.int r22)])) := k22a
    have N22 := N20.app Nq22
    have e22 : T22.heap = h0 := eq22
    have hE := e22
    refine retInt X22 hx hret hlk (by simp) rfl (hb hby d_prog_1_method_2_code_89) k22 ?_ (by decide) (by decide)
    try rw [hE]
    exact ⟨_, rfl, N22, rfl⟩
  · -- pc 41, holds not
    have k23 : To p.tables e below S0 (T8.setTop (mkF m 48 #[.val (.ref qI), .val (.ref a), .val (.ref b), .val (.int (0 : Int32)), .val (.int (0 : Int32)), .val (.int (c &&& (255 : Int32))), .val (.int (d &&& (255 : Int32)))] [(.int (d &&& (255 : Int32))), (.int (c &&& (255 : Int32)))])) := fun tt hq => k9 tt (by
      show Steps _ _ _ (T8.setTop (mkF m 41 #[.val (.ref qI), .val (.ref a), .val (.ref b), .val (.int (0 : Int32)), .val (.int (0 : Int32)), .val (.int (c &&& (255 : Int32))), .val (.int (d &&& (255 : Int32)))] [(.int (d &&& (255 : Int32))), (.int (c &&& (255 : Int32)))])) _
      refine XS.icmpNo X8.here hx rfl (hb hby d_prog_1_method_2_code_41) rfl (feq hc41_10).1 ?_
      show Steps _ _ _ (T8.setTop (mkF m 44 #[.val (.ref qI), .val (.ref a), .val (.ref b), .val (.int (0 : Int32)), .val (.int (0 : Int32)), .val (.int (c &&& (255 : Int32))), .val (.int (d &&& (255 : Int32)))] [])) _
      refine XS.iload X8.here hx rfl (hb hby d_prog_1_method_2_code_44) rfl ?_
      show Steps _ _ _ (T8.setTop (mkF m 46 #[.val (.ref qI), .val (.ref a), .val (.ref b), .val (.int (0 : Int32)), .val (.int (0 : Int32)), .val (.int (c &&& (255 : Int32))), .val (.int (d &&& (255 : Int32)))] [(.int (c &&& (255 : Int32)))])) _
      refine XS.iload X8.here hx rfl (hb hby d_prog_1_method_2_code_46) rfl ?_
      show Steps _ _ _ (T8.setTop (mkF m 48 #[.val (.ref qI), .val (.ref a), .val (.ref b), .val (.int (0 : Int32)), .val (.int (0 : Int32)), .val (.int (c &&& (255 : Int32))), .val (.int (d &&& (255 : Int32)))] [(.int (d &&& (255 : Int32))), (.int (c &&& (255 : Int32)))])) _
      exact hq)
    obtain ⟨_, T24, L24, X24, ⟨r24, rfl, Nq24, eq24, hr24⟩, k24a⟩ := callS' X8 hx hZ (y := (⟨"java/lang/Integer", "compare", "(II)I"⟩ : MethodName)) hown (hw _ (List.mem_of_getElem? (i := 118) rfl)) (hw _ (List.mem_of_getElem? (i := 119) rfl)) (hw _ (List.mem_of_getElem? (i := 120) rfl)) (hw _ (List.mem_of_getElem? (i := 121) rfl)) (by decide) (backC (W := 0) (rm_icmp l Z a0 hw (c &&& (255 : Int32)) (d &&& (255 : Int32)) h0 n0 (by omega)) hZ (hw _ (List.mem_of_getElem? (i := 121) rfl)) (hw _ (List.mem_of_getElem? (i := 120) rfl)) (by decide) (by decide)) e8 (argsL := [(.int (c &&& (255 : Int32))), (.int (d &&& (255 : Int32)))]) (rest := []) rfl rfl pd_10 rfl (by rw [hml]; rfl) (hb hby d_prog_1_method_2_code_48) (Nat.le_of_eq rfl) (by decide) (by decide) k23
    have k24 : To p.tables e below S0 (T24.setTop (mkF m 51 #[.val (.ref qI), .val (.ref a), .val (.ref b), .val (.int (0 : Int32)), .val (.int (0 : Int32)), .val (.int (c &&& (255 : Int32))), .val (.int (d &&& (255 : Int32)))] [(.int r24)])) := k24a
    have N24 := N8.app Nq24
    have e24 : T24.heap = h0 := eq24
    have hE := e24
    refine retInt X24 hx hret hlk (by simp) rfl (hb hby d_prog_1_method_2_code_51) k24 ?_ (by decide) (by decide)
    try rw [hE]
    exact ⟨_, rfl, N24, rfl⟩
set_option maxRecDepth 65536 in
set_option maxHeartbeats 40000000 in
theorem rm_cmp00 (l : Launch) (Z : State) (a0 : Array Value) (hw : ∀ d ∈ tables_1, d.before a0 Z = true) (zc : Int32) (fm : Value) (qF : Addr) (qP : Addr) (qI : Addr) (a : Addr) (ta : Addr) (ka : ClassId) (b : Addr) (tb : Addr) (kb : ClassId) (h0 : Heap) (n0 : Nat) (hn0 : n0 ≤ h0.size) (S_c : Sta Z Z.heap "java/lang/String" "COMPACT_STRINGS" "Z" (.int zc)) (hzc : ¬ zc = (0 : Int32)) (S_f : Sta Z Z.heap "jdk/internal/util/Preconditions" "SIOOBE_FORMATTER" "Ljava/util/function/BiFunction;" fm) (hfm : fm.isRef = true) (S_F : Sta Z Z.heap "com/example/huntaway/huntaway/Effect" "FORBID" "Lcom/example/huntaway/huntaway/Effect;" (.ref qF)) (S_P : Sta Z Z.heap "com/example/huntaway/huntaway/Effect" "PERMIT" "Lcom/example/huntaway/huntaway/Effect;" (.ref qP)) (S_I : Sta Z Z.heap "com/example/huntaway/huntaway/CodePointOrder" "INSTANCE" "Lcom/example/huntaway/huntaway/CodePointOrder;" (.ref qI)) (A_I : Exa Z Z.heap qI "com/example/huntaway/huntaway/CodePointOrder") (O0 : Old Z n0 h0) (P0 : Exa Z h0 a "java/lang/String") (P1 : Fld Z h0 a "java/lang/String" "value" "[B" (.ref ta)) (P2 : Fld Z h0 a "java/lang/String" "coder" "B" (.int (0 : Int32))) (P3 : Arv Z h0 ta ka .byte (0 : Int32) [] (.int 0)) (R0 : Exa Z h0 b "java/lang/String") (R1 : Fld Z h0 b "java/lang/String" "value" "[B" (.ref tb)) (R2 : Fld Z h0 b "java/lang/String" "coder" "B" (.int (0 : Int32))) (R3 : Arv Z h0 tb kb .byte (0 : Int32) [] (.int 0)) :
    Con l Z (⟨"com/example/huntaway/huntaway/CodePointOrder", "compare", "(Ljava/lang/String;Ljava/lang/String;)I"⟩ : MethodName) prog_1_method_2_code 7 (some .int) [] ({ frames := 3, cells := 0, slots := 0, locals := 41 } : Room) #[(.ref qI), (.ref a), (.ref b)] h0 (fun v h L => ∃ r : Int32, v = some (.int r) ∧ Fr n0 L ∧ h = h0) := by
  refine enter (Ls := #[.val (.ref qI), .val (.ref a), .val (.ref b), .unset, .unset, .unset, .unset]) (plainFor_of_name pn_5) (fun m => by exact entry_eq rfl) ?_
  intro p e s m below meth cd_ s₁ S0 hx hby hml hret hlk hnm hown hZ X0 e0 k0
  have N0 := Fr.nil n0
  have k1 : To p.tables e below S0 (s₁.setTop (mkF m 7 #[.val (.ref qI), .val (.ref a), .val (.ref b), .val (.int (0 : Int32)), .val (.int (0 : Int32)), .unset, .unset] [(.ref a), (.int (0 : Int32))])) := fun tt hq => k0 tt (by
    show Steps _ _ _ (s₁.setTop (mkF m 0 #[.val (.ref qI), .val (.ref a), .val (.ref b), .unset, .unset, .unset, .unset] [])) _
    refine XS.iconst X0.here hx rfl (hb hby d_prog_1_method_2_code_0) ?_
    show Steps _ _ _ (s₁.setTop (mkF m 1 #[.val (.ref qI), .val (.ref a), .val (.ref b), .unset, .unset, .unset, .unset] [(.int (0 : Int32))])) _
    refine XS.istoreN X0.here hx rfl (hb hby d_prog_1_method_2_code_1) rfl (l' := #[.val (.ref qI), .val (.ref a), .val (.ref b), .val (.int (0 : Int32)), .unset, .unset, .unset]) rfl ?_
    show Steps _ _ _ (s₁.setTop (mkF m 2 #[.val (.ref qI), .val (.ref a), .val (.ref b), .val (.int (0 : Int32)), .unset, .unset, .unset] [])) _
    refine XS.iconst X0.here hx rfl (hb hby d_prog_1_method_2_code_2) ?_
    show Steps _ _ _ (s₁.setTop (mkF m 3 #[.val (.ref qI), .val (.ref a), .val (.ref b), .val (.int (0 : Int32)), .unset, .unset, .unset] [(.int (0 : Int32))])) _
    refine XS.istore X0.here hx rfl (hb hby d_prog_1_method_2_code_3) rfl (l' := #[.val (.ref qI), .val (.ref a), .val (.ref b), .val (.int (0 : Int32)), .val (.int (0 : Int32)), .unset, .unset]) rfl ?_
    show Steps _ _ _ (s₁.setTop (mkF m 5 #[.val (.ref qI), .val (.ref a), .val (.ref b), .val (.int (0 : Int32)), .val (.int (0 : Int32)), .unset, .unset] [])) _
    refine XS.iloadN X0.here hx rfl (hb hby d_prog_1_method_2_code_5) rfl ?_
    show Steps _ _ _ (s₁.setTop (mkF m 6 #[.val (.ref qI), .val (.ref a), .val (.ref b), .val (.int (0 : Int32)), .val (.int (0 : Int32)), .unset, .unset] [(.int (0 : Int32))])) _
    refine XS.aloadN X0.here hx rfl (hb hby d_prog_1_method_2_code_6) rfl rfl ?_
    show Steps _ _ _ (s₁.setTop (mkF m 7 #[.val (.ref qI), .val (.ref a), .val (.ref b), .val (.int (0 : Int32)), .val (.int (0 : Int32)), .unset, .unset] [(.ref a), (.int (0 : Int32))])) _
    exact hq)
  obtain ⟨_, T2, L2, X2, ⟨rfl, Nq2, eq2⟩, k2a⟩ := callV' X0 hx hZ (y := (⟨"java/lang/String", "length", "()I"⟩ : MethodName)) (z := (⟨"java/lang/String", "length", "()I"⟩ : MethodName)) hown (hw _ (List.mem_of_getElem? (i := 85) rfl)) (hw _ (List.mem_of_getElem? (i := 86) rfl)) (notFace_of_selects (args := #[]) (mvT hZ (hw _ (List.mem_of_getElem? (i := 88) rfl)))) (hw _ (List.mem_of_getElem? (i := 88) rfl)) (hw _ (List.mem_of_getElem? (i := 87) rfl)) (by decide) P0 (backC (W := 1) (rm_len0 l Z a0 hw zc a ta ka  h0 n0 (by omega) S_c hzc O0 P0 P1 P2 P3) hZ (hw _ (List.mem_of_getElem? (i := 89) rfl)) (hw _ (List.mem_of_getElem? (i := 12) rfl)) (by decide) (by decide)) e0 (argsL := []) (rest := [(.int (0 : Int32))]) rfl rfl pd_8 rfl (by rw [hml]; rfl) (hb hby d_prog_1_method_2_code_7) (Nat.le_of_eq rfl) (by decide) (by decide) k1
  have k2 : To p.tables e below S0 (T2.setTop (mkF m 10 #[.val (.ref qI), .val (.ref a), .val (.ref b), .val (.int (0 : Int32)), .val (.int (0 : Int32)), .unset, .unset] [(.int (0 : Int32)), (.int (0 : Int32))])) := k2a
  have N2 := N0.app Nq2
  have e2 : T2.heap = h0 := eq2
  have k3 : To p.tables e below S0 (T2.setTop (mkF m 74 #[.val (.ref qI), .val (.ref a), .val (.ref b), .val (.int (0 : Int32)), .val (.int (0 : Int32)), .unset, .unset] [(.ref a)])) := fun tt hq => k2 tt (by
    show Steps _ _ _ (T2.setTop (mkF m 10 #[.val (.ref qI), .val (.ref a), .val (.ref b), .val (.int (0 : Int32)), .val (.int (0 : Int32)), .unset, .unset] [(.int (0 : Int32)), (.int (0 : Int32))])) _
    refine XS.icmpYes X2.here hx rfl (pc0 := 10) (pc' := 73) rfl (hb hby d_prog_1_method_2_code_10) rfl (flt (by decide)).2.1 (by decide) (by decide) ?_
    show Steps _ _ _ (T2.setTop (mkF m 73 #[.val (.ref qI), .val (.ref a), .val (.ref b), .val (.int (0 : Int32)), .val (.int (0 : Int32)), .unset, .unset] [])) _
    refine XS.aloadN X2.here hx rfl (hb hby d_prog_1_method_2_code_73) rfl rfl ?_
    show Steps _ _ _ (T2.setTop (mkF m 74 #[.val (.ref qI), .val (.ref a), .val (.ref b), .val (.int (0 : Int32)), .val (.int (0 : Int32)), .unset, .unset] [(.ref a)])) _
    exact hq)
  obtain ⟨_, T4, L4, X4, ⟨rfl, Nq4, eq4⟩, k4a⟩ := callV' X2 hx hZ (y := (⟨"java/lang/String", "length", "()I"⟩ : MethodName)) (z := (⟨"java/lang/String", "length", "()I"⟩ : MethodName)) hown (hw _ (List.mem_of_getElem? (i := 85) rfl)) (hw _ (List.mem_of_getElem? (i := 86) rfl)) (notFace_of_selects (args := #[]) (mvT hZ (hw _ (List.mem_of_getElem? (i := 88) rfl)))) (hw _ (List.mem_of_getElem? (i := 88) rfl)) (hw _ (List.mem_of_getElem? (i := 87) rfl)) (by decide) P0 (backC (W := 0) (rm_len0 l Z a0 hw zc a ta ka  h0 n0 (by omega) S_c hzc O0 P0 P1 P2 P3) hZ (hw _ (List.mem_of_getElem? (i := 89) rfl)) (hw _ (List.mem_of_getElem? (i := 12) rfl)) (by decide) (by decide)) e2 (argsL := []) (rest := []) rfl rfl pd_8 rfl (by rw [hml]; rfl) (hb hby d_prog_1_method_2_code_74) (Nat.le_of_eq rfl) (by decide) (by decide) k3
  have k4 : To p.tables e below S0 (T4.setTop (mkF m 77 #[.val (.ref qI), .val (.ref a), .val (.ref b), .val (.int (0 : Int32)), .val (.int (0 : Int32)), .unset, .unset] [(.int (0 : Int32))])) := k4a
  have N4 := N2.app Nq4
  have e4 : T4.heap = h0 := eq4
  have k5 : To p.tables e below S0 (T4.setTop (mkF m 80 #[.val (.ref qI), .val (.ref a), .val (.ref b), .val (.int (0 : Int32)), .val (.int (0 : Int32)), .unset, .unset] [(.ref b), (.int (0 : Int32))])) := fun tt hq => k4 tt (by
    show Steps _ _ _ (T4.setTop (mkF m 77 #[.val (.ref qI), .val (.ref a), .val (.ref b), .val (.int (0 : Int32)), .val (.int (0 : Int32)), .unset, .unset] [(.int (0 : Int32))])) _
    refine XS.iloadN X4.here hx rfl (hb hby d_prog_1_method_2_code_77) rfl ?_
    show Steps _ _ _ (T4.setTop (mkF m 78 #[.val (.ref qI), .val (.ref a), .val (.ref b), .val (.int (0 : Int32)), .val (.int (0 : Int32)), .unset, .unset] [(.int (0 : Int32)), (.int (0 : Int32))])) _
    refine XS.isub X4.here hx rfl (hb hby d_prog_1_method_2_code_78) rfl ?_
    show Steps _ _ _ (T4.setTop (mkF m 79 #[.val (.ref qI), .val (.ref a), .val (.ref b), .val (.int (0 : Int32)), .val (.int (0 : Int32)), .unset, .unset] [(.int (0 : Int32))])) _
    refine XS.aloadN X4.here hx rfl (hb hby d_prog_1_method_2_code_79) rfl rfl ?_
    show Steps _ _ _ (T4.setTop (mkF m 80 #[.val (.ref qI), .val (.ref a), .val (.ref b), .val (.int (0 : Int32)), .val (.int (0 : Int32)), .unset, .unset] [(.ref b), (.int (0 : Int32))])) _
    exact hq)
  obtain ⟨_, T6, L6, X6, ⟨rfl, Nq6, eq6⟩, k6a⟩ := callV' X4 hx hZ (y := (⟨"java/lang/String", "length", "()I"⟩ : MethodName)) (z := (⟨"java/lang/String", "length", "()I"⟩ : MethodName)) hown (hw _ (List.mem_of_getElem? (i := 85) rfl)) (hw _ (List.mem_of_getElem? (i := 86) rfl)) (notFace_of_selects (args := #[]) (mvT hZ (hw _ (List.mem_of_getElem? (i := 88) rfl)))) (hw _ (List.mem_of_getElem? (i := 88) rfl)) (hw _ (List.mem_of_getElem? (i := 87) rfl)) (by decide) R0 (backC (W := 1) (rm_len0 l Z a0 hw zc b tb kb  h0 n0 (by omega) S_c hzc O0 R0 R1 R2 R3) hZ (hw _ (List.mem_of_getElem? (i := 89) rfl)) (hw _ (List.mem_of_getElem? (i := 12) rfl)) (by decide) (by decide)) e4 (argsL := []) (rest := [(.int (0 : Int32))]) rfl rfl pd_8 rfl (by rw [hml]; rfl) (hb hby d_prog_1_method_2_code_80) (Nat.le_of_eq rfl) (by decide) (by decide) k5
  have k6 : To p.tables e below S0 (T6.setTop (mkF m 83 #[.val (.ref qI), .val (.ref a), .val (.ref b), .val (.int (0 : Int32)), .val (.int (0 : Int32)), .unset, .unset] [(.int (0 : Int32)), (.int (0 : Int32))])) := k6a
  have N6 := N4.app Nq6
  have e6 : T6.heap = h0 := eq6
  have k7 : To p.tables e below S0 (T6.setTop (mkF m 86 #[.val (.ref qI), .val (.ref a), .val (.ref b), .val (.int (0 : Int32)), .val (.int (0 : Int32)), .unset, .unset] [(.int (0 : Int32)), (.int (0 : Int32))])) := fun tt hq => k6 tt (by
    show Steps _ _ _ (T6.setTop (mkF m 83 #[.val (.ref qI), .val (.ref a), .val (.ref b), .val (.int (0 : Int32)), .val (.int (0 : Int32)), .unset, .unset] [(.int (0 : Int32)), (.int (0 : Int32))])) _
    refine XS.iload X6.here hx rfl (hb hby d_prog_1_method_2_code_83) rfl ?_
    show Steps _ _ _ (T6.setTop (mkF m 85 #[.val (.ref qI), .val (.ref a), .val (.ref b), .val (.int (0 : Int32)), .val (.int (0 : Int32)), .unset, .unset] [(.int (0 : Int32)), (.int (0 : Int32)), (.int (0 : Int32))])) _
    refine XS.isub X6.here hx rfl (hb hby d_prog_1_method_2_code_85) rfl ?_
    show Steps _ _ _ (T6.setTop (mkF m 86 #[.val (.ref qI), .val (.ref a), .val (.ref b), .val (.int (0 : Int32)), .val (.int (0 : Int32)), .unset, .unset] [(.int (0 : Int32)), (.int (0 : Int32))])) _
    exact hq)
  obtain ⟨_, T8, L8, X8, ⟨r8, rfl, Nq8, eq8, hr8⟩, k8a⟩ := callS' X6 hx hZ (y := (⟨"java/lang/Integer", "compare", "(II)I"⟩ : MethodName)) hown (hw _ (List.mem_of_getElem? (i := 118) rfl)) (hw _ (List.mem_of_getElem? (i := 119) rfl)) (hw _ (List.mem_of_getElem? (i := 120) rfl)) (hw _ (List.mem_of_getElem? (i := 121) rfl)) (by decide) (backC (W := 0) (rm_icmp l Z a0 hw (0 : Int32) (0 : Int32) h0 n0 (by omega)) hZ (hw _ (List.mem_of_getElem? (i := 121) rfl)) (hw _ (List.mem_of_getElem? (i := 120) rfl)) (by decide) (by decide)) e6 (argsL := [(.int (0 : Int32)), (.int (0 : Int32))]) (rest := []) rfl rfl pd_10 rfl (by rw [hml]; rfl) (hb hby d_prog_1_method_2_code_86) (Nat.le_of_eq rfl) (by decide) (by decide) k7
  have k8 : To p.tables e below S0 (T8.setTop (mkF m 89 #[.val (.ref qI), .val (.ref a), .val (.ref b), .val (.int (0 : Int32)), .val (.int (0 : Int32)), .unset, .unset] [(.int r8)])) := k8a
  have N8 := N6.app Nq8
  have e8 : T8.heap = h0 := eq8
  have hE := e8
  refine retInt X8 hx hret hlk (by simp) rfl (hb hby d_prog_1_method_2_code_89) k8 ?_ (by decide) (by decide)
  try rw [hE]
  exact ⟨_, rfl, N8, rfl⟩
set_option maxRecDepth 65536 in
set_option maxHeartbeats 40000000 in
theorem rm_cmp01 (l : Launch) (Z : State) (a0 : Array Value) (hw : ∀ d ∈ tables_1, d.before a0 Z = true) (zc : Int32) (fm : Value) (qF : Addr) (qP : Addr) (qI : Addr) (a : Addr) (ta : Addr) (ka : ClassId) (b : Addr) (tb : Addr) (kb : ClassId) (d : Int32) (h0 : Heap) (n0 : Nat) (hn0 : n0 ≤ h0.size) (S_c : Sta Z Z.heap "java/lang/String" "COMPACT_STRINGS" "Z" (.int zc)) (hzc : ¬ zc = (0 : Int32)) (S_f : Sta Z Z.heap "jdk/internal/util/Preconditions" "SIOOBE_FORMATTER" "Ljava/util/function/BiFunction;" fm) (hfm : fm.isRef = true) (S_F : Sta Z Z.heap "com/example/huntaway/huntaway/Effect" "FORBID" "Lcom/example/huntaway/huntaway/Effect;" (.ref qF)) (S_P : Sta Z Z.heap "com/example/huntaway/huntaway/Effect" "PERMIT" "Lcom/example/huntaway/huntaway/Effect;" (.ref qP)) (S_I : Sta Z Z.heap "com/example/huntaway/huntaway/CodePointOrder" "INSTANCE" "Lcom/example/huntaway/huntaway/CodePointOrder;" (.ref qI)) (A_I : Exa Z Z.heap qI "com/example/huntaway/huntaway/CodePointOrder") (O0 : Old Z n0 h0) (P0 : Exa Z h0 a "java/lang/String") (P1 : Fld Z h0 a "java/lang/String" "value" "[B" (.ref ta)) (P2 : Fld Z h0 a "java/lang/String" "coder" "B" (.int (0 : Int32))) (P3 : Arv Z h0 ta ka .byte (0 : Int32) [] (.int 0)) (R0 : Exa Z h0 b "java/lang/String") (R1 : Fld Z h0 b "java/lang/String" "value" "[B" (.ref tb)) (R2 : Fld Z h0 b "java/lang/String" "coder" "B" (.int (0 : Int32))) (R3 : Arv Z h0 tb kb .byte (1 : Int32) [(.int d)] (.int 0)) :
    Con l Z (⟨"com/example/huntaway/huntaway/CodePointOrder", "compare", "(Ljava/lang/String;Ljava/lang/String;)I"⟩ : MethodName) prog_1_method_2_code 7 (some .int) [] ({ frames := 3, cells := 0, slots := 0, locals := 41 } : Room) #[(.ref qI), (.ref a), (.ref b)] h0 (fun v h L => ∃ r : Int32, v = some (.int r) ∧ Fr n0 L ∧ h = h0) := by
  refine enter (Ls := #[.val (.ref qI), .val (.ref a), .val (.ref b), .unset, .unset, .unset, .unset]) (plainFor_of_name pn_5) (fun m => by exact entry_eq rfl) ?_
  intro p e s m below meth cd_ s₁ S0 hx hby hml hret hlk hnm hown hZ X0 e0 k0
  have N0 := Fr.nil n0
  have k1 : To p.tables e below S0 (s₁.setTop (mkF m 7 #[.val (.ref qI), .val (.ref a), .val (.ref b), .val (.int (0 : Int32)), .val (.int (0 : Int32)), .unset, .unset] [(.ref a), (.int (0 : Int32))])) := fun tt hq => k0 tt (by
    show Steps _ _ _ (s₁.setTop (mkF m 0 #[.val (.ref qI), .val (.ref a), .val (.ref b), .unset, .unset, .unset, .unset] [])) _
    refine XS.iconst X0.here hx rfl (hb hby d_prog_1_method_2_code_0) ?_
    show Steps _ _ _ (s₁.setTop (mkF m 1 #[.val (.ref qI), .val (.ref a), .val (.ref b), .unset, .unset, .unset, .unset] [(.int (0 : Int32))])) _
    refine XS.istoreN X0.here hx rfl (hb hby d_prog_1_method_2_code_1) rfl (l' := #[.val (.ref qI), .val (.ref a), .val (.ref b), .val (.int (0 : Int32)), .unset, .unset, .unset]) rfl ?_
    show Steps _ _ _ (s₁.setTop (mkF m 2 #[.val (.ref qI), .val (.ref a), .val (.ref b), .val (.int (0 : Int32)), .unset, .unset, .unset] [])) _
    refine XS.iconst X0.here hx rfl (hb hby d_prog_1_method_2_code_2) ?_
    show Steps _ _ _ (s₁.setTop (mkF m 3 #[.val (.ref qI), .val (.ref a), .val (.ref b), .val (.int (0 : Int32)), .unset, .unset, .unset] [(.int (0 : Int32))])) _
    refine XS.istore X0.here hx rfl (hb hby d_prog_1_method_2_code_3) rfl (l' := #[.val (.ref qI), .val (.ref a), .val (.ref b), .val (.int (0 : Int32)), .val (.int (0 : Int32)), .unset, .unset]) rfl ?_
    show Steps _ _ _ (s₁.setTop (mkF m 5 #[.val (.ref qI), .val (.ref a), .val (.ref b), .val (.int (0 : Int32)), .val (.int (0 : Int32)), .unset, .unset] [])) _
    refine XS.iloadN X0.here hx rfl (hb hby d_prog_1_method_2_code_5) rfl ?_
    show Steps _ _ _ (s₁.setTop (mkF m 6 #[.val (.ref qI), .val (.ref a), .val (.ref b), .val (.int (0 : Int32)), .val (.int (0 : Int32)), .unset, .unset] [(.int (0 : Int32))])) _
    refine XS.aloadN X0.here hx rfl (hb hby d_prog_1_method_2_code_6) rfl rfl ?_
    show Steps _ _ _ (s₁.setTop (mkF m 7 #[.val (.ref qI), .val (.ref a), .val (.ref b), .val (.int (0 : Int32)), .val (.int (0 : Int32)), .unset, .unset] [(.ref a), (.int (0 : Int32))])) _
    exact hq)
  obtain ⟨_, T2, L2, X2, ⟨rfl, Nq2, eq2⟩, k2a⟩ := callV' X0 hx hZ (y := (⟨"java/lang/String", "length", "()I"⟩ : MethodName)) (z := (⟨"java/lang/String", "length", "()I"⟩ : MethodName)) hown (hw _ (List.mem_of_getElem? (i := 85) rfl)) (hw _ (List.mem_of_getElem? (i := 86) rfl)) (notFace_of_selects (args := #[]) (mvT hZ (hw _ (List.mem_of_getElem? (i := 88) rfl)))) (hw _ (List.mem_of_getElem? (i := 88) rfl)) (hw _ (List.mem_of_getElem? (i := 87) rfl)) (by decide) P0 (backC (W := 1) (rm_len0 l Z a0 hw zc a ta ka  h0 n0 (by omega) S_c hzc O0 P0 P1 P2 P3) hZ (hw _ (List.mem_of_getElem? (i := 89) rfl)) (hw _ (List.mem_of_getElem? (i := 12) rfl)) (by decide) (by decide)) e0 (argsL := []) (rest := [(.int (0 : Int32))]) rfl rfl pd_8 rfl (by rw [hml]; rfl) (hb hby d_prog_1_method_2_code_7) (Nat.le_of_eq rfl) (by decide) (by decide) k1
  have k2 : To p.tables e below S0 (T2.setTop (mkF m 10 #[.val (.ref qI), .val (.ref a), .val (.ref b), .val (.int (0 : Int32)), .val (.int (0 : Int32)), .unset, .unset] [(.int (0 : Int32)), (.int (0 : Int32))])) := k2a
  have N2 := N0.app Nq2
  have e2 : T2.heap = h0 := eq2
  have k3 : To p.tables e below S0 (T2.setTop (mkF m 74 #[.val (.ref qI), .val (.ref a), .val (.ref b), .val (.int (0 : Int32)), .val (.int (0 : Int32)), .unset, .unset] [(.ref a)])) := fun tt hq => k2 tt (by
    show Steps _ _ _ (T2.setTop (mkF m 10 #[.val (.ref qI), .val (.ref a), .val (.ref b), .val (.int (0 : Int32)), .val (.int (0 : Int32)), .unset, .unset] [(.int (0 : Int32)), (.int (0 : Int32))])) _
    refine XS.icmpYes X2.here hx rfl (pc0 := 10) (pc' := 73) rfl (hb hby d_prog_1_method_2_code_10) rfl (flt (by decide)).2.1 (by decide) (by decide) ?_
    show Steps _ _ _ (T2.setTop (mkF m 73 #[.val (.ref qI), .val (.ref a), .val (.ref b), .val (.int (0 : Int32)), .val (.int (0 : Int32)), .unset, .unset] [])) _
    refine XS.aloadN X2.here hx rfl (hb hby d_prog_1_method_2_code_73) rfl rfl ?_
    show Steps _ _ _ (T2.setTop (mkF m 74 #[.val (.ref qI), .val (.ref a), .val (.ref b), .val (.int (0 : Int32)), .val (.int (0 : Int32)), .unset, .unset] [(.ref a)])) _
    exact hq)
  obtain ⟨_, T4, L4, X4, ⟨rfl, Nq4, eq4⟩, k4a⟩ := callV' X2 hx hZ (y := (⟨"java/lang/String", "length", "()I"⟩ : MethodName)) (z := (⟨"java/lang/String", "length", "()I"⟩ : MethodName)) hown (hw _ (List.mem_of_getElem? (i := 85) rfl)) (hw _ (List.mem_of_getElem? (i := 86) rfl)) (notFace_of_selects (args := #[]) (mvT hZ (hw _ (List.mem_of_getElem? (i := 88) rfl)))) (hw _ (List.mem_of_getElem? (i := 88) rfl)) (hw _ (List.mem_of_getElem? (i := 87) rfl)) (by decide) P0 (backC (W := 0) (rm_len0 l Z a0 hw zc a ta ka  h0 n0 (by omega) S_c hzc O0 P0 P1 P2 P3) hZ (hw _ (List.mem_of_getElem? (i := 89) rfl)) (hw _ (List.mem_of_getElem? (i := 12) rfl)) (by decide) (by decide)) e2 (argsL := []) (rest := []) rfl rfl pd_8 rfl (by rw [hml]; rfl) (hb hby d_prog_1_method_2_code_74) (Nat.le_of_eq rfl) (by decide) (by decide) k3
  have k4 : To p.tables e below S0 (T4.setTop (mkF m 77 #[.val (.ref qI), .val (.ref a), .val (.ref b), .val (.int (0 : Int32)), .val (.int (0 : Int32)), .unset, .unset] [(.int (0 : Int32))])) := k4a
  have N4 := N2.app Nq4
  have e4 : T4.heap = h0 := eq4
  have k5 : To p.tables e below S0 (T4.setTop (mkF m 80 #[.val (.ref qI), .val (.ref a), .val (.ref b), .val (.int (0 : Int32)), .val (.int (0 : Int32)), .unset, .unset] [(.ref b), (.int (0 : Int32))])) := fun tt hq => k4 tt (by
    show Steps _ _ _ (T4.setTop (mkF m 77 #[.val (.ref qI), .val (.ref a), .val (.ref b), .val (.int (0 : Int32)), .val (.int (0 : Int32)), .unset, .unset] [(.int (0 : Int32))])) _
    refine XS.iloadN X4.here hx rfl (hb hby d_prog_1_method_2_code_77) rfl ?_
    show Steps _ _ _ (T4.setTop (mkF m 78 #[.val (.ref qI), .val (.ref a), .val (.ref b), .val (.int (0 : Int32)), .val (.int (0 : Int32)), .unset, .unset] [(.int (0 : Int32)), (.int (0 : Int32))])) _
    refine XS.isub X4.here hx rfl (hb hby d_prog_1_method_2_code_78) rfl ?_
    show Steps _ _ _ (T4.setTop (mkF m 79 #[.val (.ref qI), .val (.ref a), .val (.ref b), .val (.int (0 : Int32)), .val (.int (0 : Int32)), .unset, .unset] [(.int (0 : Int32))])) _
    refine XS.aloadN X4.here hx rfl (hb hby d_prog_1_method_2_code_79) rfl rfl ?_
    show Steps _ _ _ (T4.setTop (mkF m 80 #[.val (.ref qI), .val (.ref a), .val (.ref b), .val (.int (0 : Int32)), .val (.int (0 : Int32)), .unset, .unset] [(.ref b), (.int (0 : Int32))])) _
    exact hq)
  obtain ⟨_, T6, L6, X6, ⟨rfl, Nq6, eq6⟩, k6a⟩ := callV' X4 hx hZ (y := (⟨"java/lang/String", "length", "()I"⟩ : MethodName)) (z := (⟨"java/lang/String", "length", "()I"⟩ : MethodName)) hown (hw _ (List.mem_of_getElem? (i := 85) rfl)) (hw _ (List.mem_of_getElem? (i := 86) rfl)) (notFace_of_selects (args := #[]) (mvT hZ (hw _ (List.mem_of_getElem? (i := 88) rfl)))) (hw _ (List.mem_of_getElem? (i := 88) rfl)) (hw _ (List.mem_of_getElem? (i := 87) rfl)) (by decide) R0 (backC (W := 1) (rm_len1 l Z a0 hw zc b tb kb d h0 n0 (by omega) S_c hzc O0 R0 R1 R2 R3) hZ (hw _ (List.mem_of_getElem? (i := 89) rfl)) (hw _ (List.mem_of_getElem? (i := 12) rfl)) (by decide) (by decide)) e4 (argsL := []) (rest := [(.int (0 : Int32))]) rfl rfl pd_8 rfl (by rw [hml]; rfl) (hb hby d_prog_1_method_2_code_80) (Nat.le_of_eq rfl) (by decide) (by decide) k5
  have k6 : To p.tables e below S0 (T6.setTop (mkF m 83 #[.val (.ref qI), .val (.ref a), .val (.ref b), .val (.int (0 : Int32)), .val (.int (0 : Int32)), .unset, .unset] [(.int (1 : Int32)), (.int (0 : Int32))])) := k6a
  have N6 := N4.app Nq6
  have e6 : T6.heap = h0 := eq6
  have k7 : To p.tables e below S0 (T6.setTop (mkF m 86 #[.val (.ref qI), .val (.ref a), .val (.ref b), .val (.int (0 : Int32)), .val (.int (0 : Int32)), .unset, .unset] [(.int (1 : Int32)), (.int (0 : Int32))])) := fun tt hq => k6 tt (by
    show Steps _ _ _ (T6.setTop (mkF m 83 #[.val (.ref qI), .val (.ref a), .val (.ref b), .val (.int (0 : Int32)), .val (.int (0 : Int32)), .unset, .unset] [(.int (1 : Int32)), (.int (0 : Int32))])) _
    refine XS.iload X6.here hx rfl (hb hby d_prog_1_method_2_code_83) rfl ?_
    show Steps _ _ _ (T6.setTop (mkF m 85 #[.val (.ref qI), .val (.ref a), .val (.ref b), .val (.int (0 : Int32)), .val (.int (0 : Int32)), .unset, .unset] [(.int (0 : Int32)), (.int (1 : Int32)), (.int (0 : Int32))])) _
    refine XS.isub X6.here hx rfl (hb hby d_prog_1_method_2_code_85) rfl ?_
    show Steps _ _ _ (T6.setTop (mkF m 86 #[.val (.ref qI), .val (.ref a), .val (.ref b), .val (.int (0 : Int32)), .val (.int (0 : Int32)), .unset, .unset] [(.int (1 : Int32)), (.int (0 : Int32))])) _
    exact hq)
  obtain ⟨_, T8, L8, X8, ⟨r8, rfl, Nq8, eq8, hr8⟩, k8a⟩ := callS' X6 hx hZ (y := (⟨"java/lang/Integer", "compare", "(II)I"⟩ : MethodName)) hown (hw _ (List.mem_of_getElem? (i := 118) rfl)) (hw _ (List.mem_of_getElem? (i := 119) rfl)) (hw _ (List.mem_of_getElem? (i := 120) rfl)) (hw _ (List.mem_of_getElem? (i := 121) rfl)) (by decide) (backC (W := 0) (rm_icmp l Z a0 hw (0 : Int32) (1 : Int32) h0 n0 (by omega)) hZ (hw _ (List.mem_of_getElem? (i := 121) rfl)) (hw _ (List.mem_of_getElem? (i := 120) rfl)) (by decide) (by decide)) e6 (argsL := [(.int (0 : Int32)), (.int (1 : Int32))]) (rest := []) rfl rfl pd_10 rfl (by rw [hml]; rfl) (hb hby d_prog_1_method_2_code_86) (Nat.le_of_eq rfl) (by decide) (by decide) k7
  have k8 : To p.tables e below S0 (T8.setTop (mkF m 89 #[.val (.ref qI), .val (.ref a), .val (.ref b), .val (.int (0 : Int32)), .val (.int (0 : Int32)), .unset, .unset] [(.int r8)])) := k8a
  have N8 := N6.app Nq8
  have e8 : T8.heap = h0 := eq8
  have hE := e8
  refine retInt X8 hx hret hlk (by simp) rfl (hb hby d_prog_1_method_2_code_89) k8 ?_ (by decide) (by decide)
  try rw [hE]
  exact ⟨_, rfl, N8, rfl⟩
set_option maxRecDepth 65536 in
set_option maxHeartbeats 40000000 in
theorem rm_cmp10 (l : Launch) (Z : State) (a0 : Array Value) (hw : ∀ d ∈ tables_1, d.before a0 Z = true) (zc : Int32) (fm : Value) (qF : Addr) (qP : Addr) (qI : Addr) (a : Addr) (ta : Addr) (ka : ClassId) (c : Int32) (b : Addr) (tb : Addr) (kb : ClassId) (h0 : Heap) (n0 : Nat) (hn0 : n0 ≤ h0.size) (S_c : Sta Z Z.heap "java/lang/String" "COMPACT_STRINGS" "Z" (.int zc)) (hzc : ¬ zc = (0 : Int32)) (S_f : Sta Z Z.heap "jdk/internal/util/Preconditions" "SIOOBE_FORMATTER" "Ljava/util/function/BiFunction;" fm) (hfm : fm.isRef = true) (S_F : Sta Z Z.heap "com/example/huntaway/huntaway/Effect" "FORBID" "Lcom/example/huntaway/huntaway/Effect;" (.ref qF)) (S_P : Sta Z Z.heap "com/example/huntaway/huntaway/Effect" "PERMIT" "Lcom/example/huntaway/huntaway/Effect;" (.ref qP)) (S_I : Sta Z Z.heap "com/example/huntaway/huntaway/CodePointOrder" "INSTANCE" "Lcom/example/huntaway/huntaway/CodePointOrder;" (.ref qI)) (A_I : Exa Z Z.heap qI "com/example/huntaway/huntaway/CodePointOrder") (O0 : Old Z n0 h0) (P0 : Exa Z h0 a "java/lang/String") (P1 : Fld Z h0 a "java/lang/String" "value" "[B" (.ref ta)) (P2 : Fld Z h0 a "java/lang/String" "coder" "B" (.int (0 : Int32))) (P3 : Arv Z h0 ta ka .byte (1 : Int32) [(.int c)] (.int 0)) (R0 : Exa Z h0 b "java/lang/String") (R1 : Fld Z h0 b "java/lang/String" "value" "[B" (.ref tb)) (R2 : Fld Z h0 b "java/lang/String" "coder" "B" (.int (0 : Int32))) (R3 : Arv Z h0 tb kb .byte (0 : Int32) [] (.int 0)) :
    Con l Z (⟨"com/example/huntaway/huntaway/CodePointOrder", "compare", "(Ljava/lang/String;Ljava/lang/String;)I"⟩ : MethodName) prog_1_method_2_code 7 (some .int) [] ({ frames := 3, cells := 0, slots := 0, locals := 41 } : Room) #[(.ref qI), (.ref a), (.ref b)] h0 (fun v h L => ∃ r : Int32, v = some (.int r) ∧ Fr n0 L ∧ h = h0) := by
  refine enter (Ls := #[.val (.ref qI), .val (.ref a), .val (.ref b), .unset, .unset, .unset, .unset]) (plainFor_of_name pn_5) (fun m => by exact entry_eq rfl) ?_
  intro p e s m below meth cd_ s₁ S0 hx hby hml hret hlk hnm hown hZ X0 e0 k0
  have N0 := Fr.nil n0
  have k1 : To p.tables e below S0 (s₁.setTop (mkF m 7 #[.val (.ref qI), .val (.ref a), .val (.ref b), .val (.int (0 : Int32)), .val (.int (0 : Int32)), .unset, .unset] [(.ref a), (.int (0 : Int32))])) := fun tt hq => k0 tt (by
    show Steps _ _ _ (s₁.setTop (mkF m 0 #[.val (.ref qI), .val (.ref a), .val (.ref b), .unset, .unset, .unset, .unset] [])) _
    refine XS.iconst X0.here hx rfl (hb hby d_prog_1_method_2_code_0) ?_
    show Steps _ _ _ (s₁.setTop (mkF m 1 #[.val (.ref qI), .val (.ref a), .val (.ref b), .unset, .unset, .unset, .unset] [(.int (0 : Int32))])) _
    refine XS.istoreN X0.here hx rfl (hb hby d_prog_1_method_2_code_1) rfl (l' := #[.val (.ref qI), .val (.ref a), .val (.ref b), .val (.int (0 : Int32)), .unset, .unset, .unset]) rfl ?_
    show Steps _ _ _ (s₁.setTop (mkF m 2 #[.val (.ref qI), .val (.ref a), .val (.ref b), .val (.int (0 : Int32)), .unset, .unset, .unset] [])) _
    refine XS.iconst X0.here hx rfl (hb hby d_prog_1_method_2_code_2) ?_
    show Steps _ _ _ (s₁.setTop (mkF m 3 #[.val (.ref qI), .val (.ref a), .val (.ref b), .val (.int (0 : Int32)), .unset, .unset, .unset] [(.int (0 : Int32))])) _
    refine XS.istore X0.here hx rfl (hb hby d_prog_1_method_2_code_3) rfl (l' := #[.val (.ref qI), .val (.ref a), .val (.ref b), .val (.int (0 : Int32)), .val (.int (0 : Int32)), .unset, .unset]) rfl ?_
    show Steps _ _ _ (s₁.setTop (mkF m 5 #[.val (.ref qI), .val (.ref a), .val (.ref b), .val (.int (0 : Int32)), .val (.int (0 : Int32)), .unset, .unset] [])) _
    refine XS.iloadN X0.here hx rfl (hb hby d_prog_1_method_2_code_5) rfl ?_
    show Steps _ _ _ (s₁.setTop (mkF m 6 #[.val (.ref qI), .val (.ref a), .val (.ref b), .val (.int (0 : Int32)), .val (.int (0 : Int32)), .unset, .unset] [(.int (0 : Int32))])) _
    refine XS.aloadN X0.here hx rfl (hb hby d_prog_1_method_2_code_6) rfl rfl ?_
    show Steps _ _ _ (s₁.setTop (mkF m 7 #[.val (.ref qI), .val (.ref a), .val (.ref b), .val (.int (0 : Int32)), .val (.int (0 : Int32)), .unset, .unset] [(.ref a), (.int (0 : Int32))])) _
    exact hq)
  obtain ⟨_, T2, L2, X2, ⟨rfl, Nq2, eq2⟩, k2a⟩ := callV' X0 hx hZ (y := (⟨"java/lang/String", "length", "()I"⟩ : MethodName)) (z := (⟨"java/lang/String", "length", "()I"⟩ : MethodName)) hown (hw _ (List.mem_of_getElem? (i := 85) rfl)) (hw _ (List.mem_of_getElem? (i := 86) rfl)) (notFace_of_selects (args := #[]) (mvT hZ (hw _ (List.mem_of_getElem? (i := 88) rfl)))) (hw _ (List.mem_of_getElem? (i := 88) rfl)) (hw _ (List.mem_of_getElem? (i := 87) rfl)) (by decide) P0 (backC (W := 1) (rm_len1 l Z a0 hw zc a ta ka c h0 n0 (by omega) S_c hzc O0 P0 P1 P2 P3) hZ (hw _ (List.mem_of_getElem? (i := 89) rfl)) (hw _ (List.mem_of_getElem? (i := 12) rfl)) (by decide) (by decide)) e0 (argsL := []) (rest := [(.int (0 : Int32))]) rfl rfl pd_8 rfl (by rw [hml]; rfl) (hb hby d_prog_1_method_2_code_7) (Nat.le_of_eq rfl) (by decide) (by decide) k1
  have k2 : To p.tables e below S0 (T2.setTop (mkF m 10 #[.val (.ref qI), .val (.ref a), .val (.ref b), .val (.int (0 : Int32)), .val (.int (0 : Int32)), .unset, .unset] [(.int (1 : Int32)), (.int (0 : Int32))])) := k2a
  have N2 := N0.app Nq2
  have e2 : T2.heap = h0 := eq2
  have k3 : To p.tables e below S0 (T2.setTop (mkF m 16 #[.val (.ref qI), .val (.ref a), .val (.ref b), .val (.int (0 : Int32)), .val (.int (0 : Int32)), .unset, .unset] [(.ref b), (.int (0 : Int32))])) := fun tt hq => k2 tt (by
    show Steps _ _ _ (T2.setTop (mkF m 10 #[.val (.ref qI), .val (.ref a), .val (.ref b), .val (.int (0 : Int32)), .val (.int (0 : Int32)), .unset, .unset] [(.int (1 : Int32)), (.int (0 : Int32))])) _
    refine XS.icmpNo X2.here hx rfl (hb hby d_prog_1_method_2_code_10) rfl (tlt (by decide)).2.1 ?_
    show Steps _ _ _ (T2.setTop (mkF m 13 #[.val (.ref qI), .val (.ref a), .val (.ref b), .val (.int (0 : Int32)), .val (.int (0 : Int32)), .unset, .unset] [])) _
    refine XS.iload X2.here hx rfl (hb hby d_prog_1_method_2_code_13) rfl ?_
    show Steps _ _ _ (T2.setTop (mkF m 15 #[.val (.ref qI), .val (.ref a), .val (.ref b), .val (.int (0 : Int32)), .val (.int (0 : Int32)), .unset, .unset] [(.int (0 : Int32))])) _
    refine XS.aloadN X2.here hx rfl (hb hby d_prog_1_method_2_code_15) rfl rfl ?_
    show Steps _ _ _ (T2.setTop (mkF m 16 #[.val (.ref qI), .val (.ref a), .val (.ref b), .val (.int (0 : Int32)), .val (.int (0 : Int32)), .unset, .unset] [(.ref b), (.int (0 : Int32))])) _
    exact hq)
  obtain ⟨_, T4, L4, X4, ⟨rfl, Nq4, eq4⟩, k4a⟩ := callV' X2 hx hZ (y := (⟨"java/lang/String", "length", "()I"⟩ : MethodName)) (z := (⟨"java/lang/String", "length", "()I"⟩ : MethodName)) hown (hw _ (List.mem_of_getElem? (i := 85) rfl)) (hw _ (List.mem_of_getElem? (i := 86) rfl)) (notFace_of_selects (args := #[]) (mvT hZ (hw _ (List.mem_of_getElem? (i := 88) rfl)))) (hw _ (List.mem_of_getElem? (i := 88) rfl)) (hw _ (List.mem_of_getElem? (i := 87) rfl)) (by decide) R0 (backC (W := 1) (rm_len0 l Z a0 hw zc b tb kb  h0 n0 (by omega) S_c hzc O0 R0 R1 R2 R3) hZ (hw _ (List.mem_of_getElem? (i := 89) rfl)) (hw _ (List.mem_of_getElem? (i := 12) rfl)) (by decide) (by decide)) e2 (argsL := []) (rest := [(.int (0 : Int32))]) rfl rfl pd_8 rfl (by rw [hml]; rfl) (hb hby d_prog_1_method_2_code_16) (Nat.le_of_eq rfl) (by decide) (by decide) k3
  have k4 : To p.tables e below S0 (T4.setTop (mkF m 19 #[.val (.ref qI), .val (.ref a), .val (.ref b), .val (.int (0 : Int32)), .val (.int (0 : Int32)), .unset, .unset] [(.int (0 : Int32)), (.int (0 : Int32))])) := k4a
  have N4 := N2.app Nq4
  have e4 : T4.heap = h0 := eq4
  have k5 : To p.tables e below S0 (T4.setTop (mkF m 74 #[.val (.ref qI), .val (.ref a), .val (.ref b), .val (.int (0 : Int32)), .val (.int (0 : Int32)), .unset, .unset] [(.ref a)])) := fun tt hq => k4 tt (by
    show Steps _ _ _ (T4.setTop (mkF m 19 #[.val (.ref qI), .val (.ref a), .val (.ref b), .val (.int (0 : Int32)), .val (.int (0 : Int32)), .unset, .unset] [(.int (0 : Int32)), (.int (0 : Int32))])) _
    refine XS.icmpYes X4.here hx rfl (pc0 := 19) (pc' := 73) rfl (hb hby d_prog_1_method_2_code_19) rfl (flt (by decide)).2.1 (by decide) (by decide) ?_
    show Steps _ _ _ (T4.setTop (mkF m 73 #[.val (.ref qI), .val (.ref a), .val (.ref b), .val (.int (0 : Int32)), .val (.int (0 : Int32)), .unset, .unset] [])) _
    refine XS.aloadN X4.here hx rfl (hb hby d_prog_1_method_2_code_73) rfl rfl ?_
    show Steps _ _ _ (T4.setTop (mkF m 74 #[.val (.ref qI), .val (.ref a), .val (.ref b), .val (.int (0 : Int32)), .val (.int (0 : Int32)), .unset, .unset] [(.ref a)])) _
    exact hq)
  obtain ⟨_, T6, L6, X6, ⟨rfl, Nq6, eq6⟩, k6a⟩ := callV' X4 hx hZ (y := (⟨"java/lang/String", "length", "()I"⟩ : MethodName)) (z := (⟨"java/lang/String", "length", "()I"⟩ : MethodName)) hown (hw _ (List.mem_of_getElem? (i := 85) rfl)) (hw _ (List.mem_of_getElem? (i := 86) rfl)) (notFace_of_selects (args := #[]) (mvT hZ (hw _ (List.mem_of_getElem? (i := 88) rfl)))) (hw _ (List.mem_of_getElem? (i := 88) rfl)) (hw _ (List.mem_of_getElem? (i := 87) rfl)) (by decide) P0 (backC (W := 0) (rm_len1 l Z a0 hw zc a ta ka c h0 n0 (by omega) S_c hzc O0 P0 P1 P2 P3) hZ (hw _ (List.mem_of_getElem? (i := 89) rfl)) (hw _ (List.mem_of_getElem? (i := 12) rfl)) (by decide) (by decide)) e4 (argsL := []) (rest := []) rfl rfl pd_8 rfl (by rw [hml]; rfl) (hb hby d_prog_1_method_2_code_74) (Nat.le_of_eq rfl) (by decide) (by decide) k5
  have k6 : To p.tables e below S0 (T6.setTop (mkF m 77 #[.val (.ref qI), .val (.ref a), .val (.ref b), .val (.int (0 : Int32)), .val (.int (0 : Int32)), .unset, .unset] [(.int (1 : Int32))])) := k6a
  have N6 := N4.app Nq6
  have e6 : T6.heap = h0 := eq6
  have k7 : To p.tables e below S0 (T6.setTop (mkF m 80 #[.val (.ref qI), .val (.ref a), .val (.ref b), .val (.int (0 : Int32)), .val (.int (0 : Int32)), .unset, .unset] [(.ref b), (.int (1 : Int32))])) := fun tt hq => k6 tt (by
    show Steps _ _ _ (T6.setTop (mkF m 77 #[.val (.ref qI), .val (.ref a), .val (.ref b), .val (.int (0 : Int32)), .val (.int (0 : Int32)), .unset, .unset] [(.int (1 : Int32))])) _
    refine XS.iloadN X6.here hx rfl (hb hby d_prog_1_method_2_code_77) rfl ?_
    show Steps _ _ _ (T6.setTop (mkF m 78 #[.val (.ref qI), .val (.ref a), .val (.ref b), .val (.int (0 : Int32)), .val (.int (0 : Int32)), .unset, .unset] [(.int (0 : Int32)), (.int (1 : Int32))])) _
    refine XS.isub X6.here hx rfl (hb hby d_prog_1_method_2_code_78) rfl ?_
    show Steps _ _ _ (T6.setTop (mkF m 79 #[.val (.ref qI), .val (.ref a), .val (.ref b), .val (.int (0 : Int32)), .val (.int (0 : Int32)), .unset, .unset] [(.int (1 : Int32))])) _
    refine XS.aloadN X6.here hx rfl (hb hby d_prog_1_method_2_code_79) rfl rfl ?_
    show Steps _ _ _ (T6.setTop (mkF m 80 #[.val (.ref qI), .val (.ref a), .val (.ref b), .val (.int (0 : Int32)), .val (.int (0 : Int32)), .unset, .unset] [(.ref b), (.int (1 : Int32))])) _
    exact hq)
  obtain ⟨_, T8, L8, X8, ⟨rfl, Nq8, eq8⟩, k8a⟩ := callV' X6 hx hZ (y := (⟨"java/lang/String", "length", "()I"⟩ : MethodName)) (z := (⟨"java/lang/String", "length", "()I"⟩ : MethodName)) hown (hw _ (List.mem_of_getElem? (i := 85) rfl)) (hw _ (List.mem_of_getElem? (i := 86) rfl)) (notFace_of_selects (args := #[]) (mvT hZ (hw _ (List.mem_of_getElem? (i := 88) rfl)))) (hw _ (List.mem_of_getElem? (i := 88) rfl)) (hw _ (List.mem_of_getElem? (i := 87) rfl)) (by decide) R0 (backC (W := 1) (rm_len0 l Z a0 hw zc b tb kb  h0 n0 (by omega) S_c hzc O0 R0 R1 R2 R3) hZ (hw _ (List.mem_of_getElem? (i := 89) rfl)) (hw _ (List.mem_of_getElem? (i := 12) rfl)) (by decide) (by decide)) e6 (argsL := []) (rest := [(.int (1 : Int32))]) rfl rfl pd_8 rfl (by rw [hml]; rfl) (hb hby d_prog_1_method_2_code_80) (Nat.le_of_eq rfl) (by decide) (by decide) k7
  have k8 : To p.tables e below S0 (T8.setTop (mkF m 83 #[.val (.ref qI), .val (.ref a), .val (.ref b), .val (.int (0 : Int32)), .val (.int (0 : Int32)), .unset, .unset] [(.int (0 : Int32)), (.int (1 : Int32))])) := k8a
  have N8 := N6.app Nq8
  have e8 : T8.heap = h0 := eq8
  have k9 : To p.tables e below S0 (T8.setTop (mkF m 86 #[.val (.ref qI), .val (.ref a), .val (.ref b), .val (.int (0 : Int32)), .val (.int (0 : Int32)), .unset, .unset] [(.int (0 : Int32)), (.int (1 : Int32))])) := fun tt hq => k8 tt (by
    show Steps _ _ _ (T8.setTop (mkF m 83 #[.val (.ref qI), .val (.ref a), .val (.ref b), .val (.int (0 : Int32)), .val (.int (0 : Int32)), .unset, .unset] [(.int (0 : Int32)), (.int (1 : Int32))])) _
    refine XS.iload X8.here hx rfl (hb hby d_prog_1_method_2_code_83) rfl ?_
    show Steps _ _ _ (T8.setTop (mkF m 85 #[.val (.ref qI), .val (.ref a), .val (.ref b), .val (.int (0 : Int32)), .val (.int (0 : Int32)), .unset, .unset] [(.int (0 : Int32)), (.int (0 : Int32)), (.int (1 : Int32))])) _
    refine XS.isub X8.here hx rfl (hb hby d_prog_1_method_2_code_85) rfl ?_
    show Steps _ _ _ (T8.setTop (mkF m 86 #[.val (.ref qI), .val (.ref a), .val (.ref b), .val (.int (0 : Int32)), .val (.int (0 : Int32)), .unset, .unset] [(.int (0 : Int32)), (.int (1 : Int32))])) _
    exact hq)
  obtain ⟨_, T10, L10, X10, ⟨r10, rfl, Nq10, eq10, hr10⟩, k10a⟩ := callS' X8 hx hZ (y := (⟨"java/lang/Integer", "compare", "(II)I"⟩ : MethodName)) hown (hw _ (List.mem_of_getElem? (i := 118) rfl)) (hw _ (List.mem_of_getElem? (i := 119) rfl)) (hw _ (List.mem_of_getElem? (i := 120) rfl)) (hw _ (List.mem_of_getElem? (i := 121) rfl)) (by decide) (backC (W := 0) (rm_icmp l Z a0 hw (1 : Int32) (0 : Int32) h0 n0 (by omega)) hZ (hw _ (List.mem_of_getElem? (i := 121) rfl)) (hw _ (List.mem_of_getElem? (i := 120) rfl)) (by decide) (by decide)) e8 (argsL := [(.int (1 : Int32)), (.int (0 : Int32))]) (rest := []) rfl rfl pd_10 rfl (by rw [hml]; rfl) (hb hby d_prog_1_method_2_code_86) (Nat.le_of_eq rfl) (by decide) (by decide) k9
  have k10 : To p.tables e below S0 (T10.setTop (mkF m 89 #[.val (.ref qI), .val (.ref a), .val (.ref b), .val (.int (0 : Int32)), .val (.int (0 : Int32)), .unset, .unset] [(.int r10)])) := k10a
  have N10 := N8.app Nq10
  have e10 : T10.heap = h0 := eq10
  have hE := e10
  refine retInt X10 hx hret hlk (by simp) rfl (hb hby d_prog_1_method_2_code_89) k10 ?_ (by decide) (by decide)
  try rw [hE]
  exact ⟨_, rfl, N10, rfl⟩
theorem rm_cmpS (l : Launch) (Z : State) (a0 : Array Value) (hw : ∀ d ∈ tables_1, d.before a0 Z = true) (zc : Int32) (fm : Value) (qF : Addr) (qP : Addr) (qI : Addr) (a : Addr) (b : Addr) (h0 : Heap) (n0 : Nat) (hn0 : n0 ≤ h0.size) (S_c : Sta Z Z.heap "java/lang/String" "COMPACT_STRINGS" "Z" (.int zc)) (hzc : ¬ zc = (0 : Int32)) (S_f : Sta Z Z.heap "jdk/internal/util/Preconditions" "SIOOBE_FORMATTER" "Ljava/util/function/BiFunction;" fm) (hfm : fm.isRef = true) (S_F : Sta Z Z.heap "com/example/huntaway/huntaway/Effect" "FORBID" "Lcom/example/huntaway/huntaway/Effect;" (.ref qF)) (S_P : Sta Z Z.heap "com/example/huntaway/huntaway/Effect" "PERMIT" "Lcom/example/huntaway/huntaway/Effect;" (.ref qP)) (S_I : Sta Z Z.heap "com/example/huntaway/huntaway/CodePointOrder" "INSTANCE" "Lcom/example/huntaway/huntaway/CodePointOrder;" (.ref qI)) (A_I : Exa Z Z.heap qI "com/example/huntaway/huntaway/CodePointOrder") (O0 : Old Z n0 h0) (S1 : Sm Z h0 a) (S2 : Sm Z h0 b) :
    Con l Z (⟨"com/example/huntaway/huntaway/CodePointOrder", "compare", "(Ljava/lang/String;Ljava/lang/String;)I"⟩ : MethodName) prog_1_method_2_code 7 (some .int) [] ({ frames := 3, cells := 0, slots := 0, locals := 41 } : Room) #[(.ref qI), (.ref a), (.ref b)] h0 (fun v h L => ∃ r : Int32, v = some (.int r) ∧ Fr n0 L ∧ h = h0) := by
  obtain ⟨A1, t1, k1, V1, K1, R1⟩ := S1
  obtain ⟨A2, t2, k2, V2, K2, R2⟩ := S2
  rcases R1 with R1 | ⟨c1, R1⟩ <;> rcases R2 with R2 | ⟨c2, R2⟩
  · exact rm_cmp00 l Z a0 hw zc fm qF qP qI a t1 k1 b t2 k2 h0 n0 hn0 S_c hzc S_f hfm S_F S_P S_I A_I O0 A1 V1 K1 R1 A2 V2 K2 R2
  · exact rm_cmp01 l Z a0 hw zc fm qF qP qI a t1 k1 b t2 k2 c2 h0 n0 hn0 S_c hzc S_f hfm S_F S_P S_I A_I O0 A1 V1 K1 R1 A2 V2 K2 R2
  · exact rm_cmp10 l Z a0 hw zc fm qF qP qI a t1 k1 c1 b t2 k2 h0 n0 hn0 S_c hzc S_f hfm S_F S_P S_I A_I O0 A1 V1 K1 R1 A2 V2 K2 R2
  · exact rm_cmp11 l Z a0 hw zc fm qF qP qI a t1 k1 c1 b t2 k2 c2 h0 n0 hn0 S_c hzc S_f hfm S_F S_P S_I A_I O0 A1 V1 K1 R1 A2 V2 K2 R2
theorem d_prog_1_method_3_code_0 : decode prog_1_method_3_code 0 = .ok (.aload_n 0, 1) := by decide +kernel
theorem d_prog_1_method_3_code_1 : decode prog_1_method_3_code 1 = .ok (.ifnull 14, 3) := by decide +kernel
theorem d_prog_1_method_3_code_4 : decode prog_1_method_3_code 4 = .ok (.getstatic 28, 3) := by decide +kernel
theorem d_prog_1_method_3_code_7 : decode prog_1_method_3_code 7 = .ok (.aload_n 1, 1) := by decide +kernel
theorem d_prog_1_method_3_code_8 : decode prog_1_method_3_code 8 = .ok (.aload_n 0, 1) := by decide +kernel
theorem d_prog_1_method_3_code_9 : decode prog_1_method_3_code 9 = .ok (.invokevirtual 34, 3) := by decide +kernel
theorem d_prog_1_method_3_code_12 : decode prog_1_method_3_code 12 = .ok (.ifCond .ge 7, 3) := by decide +kernel
theorem d_prog_1_method_3_code_15 : decode prog_1_method_3_code 15 = .ok (.aload_n 1, 1) := by decide +kernel
theorem d_prog_1_method_3_code_16 : decode prog_1_method_3_code 16 = .ok (.goto 4, 3) := by decide +kernel
theorem d_prog_1_method_3_code_19 : decode prog_1_method_3_code 19 = .ok (.aload_n 0, 1) := by decide +kernel
theorem d_prog_1_method_3_code_20 : decode prog_1_method_3_code 20 = .ok (.areturn, 1) := by decide +kernel
theorem pd_11 : parseMethodDescriptor "(Ljava/lang/String;Ljava/lang/String;)I" = some ⟨[(.object "java/lang/String"), (.object "java/lang/String")], some .int⟩ := by decide +kernel
set_option maxRecDepth 65536 in
set_option maxHeartbeats 40000000 in
theorem rm_minR (l : Launch) (Z : State) (a0 : Array Value) (hw : ∀ d ∈ tables_1, d.before a0 Z = true) (zc : Int32) (fm : Value) (qF : Addr) (qP : Addr) (qI : Addr) (a : Addr) (b : Addr) (h0 : Heap) (n0 : Nat) (hn0 : n0 ≤ h0.size) (S_c : Sta Z Z.heap "java/lang/String" "COMPACT_STRINGS" "Z" (.int zc)) (hzc : ¬ zc = (0 : Int32)) (S_f : Sta Z Z.heap "jdk/internal/util/Preconditions" "SIOOBE_FORMATTER" "Ljava/util/function/BiFunction;" fm) (hfm : fm.isRef = true) (S_F : Sta Z Z.heap "com/example/huntaway/huntaway/Effect" "FORBID" "Lcom/example/huntaway/huntaway/Effect;" (.ref qF)) (S_P : Sta Z Z.heap "com/example/huntaway/huntaway/Effect" "PERMIT" "Lcom/example/huntaway/huntaway/Effect;" (.ref qP)) (S_I : Sta Z Z.heap "com/example/huntaway/huntaway/CodePointOrder" "INSTANCE" "Lcom/example/huntaway/huntaway/CodePointOrder;" (.ref qI)) (A_I : Exa Z Z.heap qI "com/example/huntaway/huntaway/CodePointOrder") (O0 : Old Z n0 h0) (S1 : Sm Z h0 a) (S2 : Sm Z h0 b) :
    Con l Z (⟨"com/example/huntaway/huntaway/CodePointOrder", "min", "(Ljava/lang/String;Ljava/lang/String;)Ljava/lang/String;"⟩ : MethodName) prog_1_method_3_code 2 (some (.object "java/lang/String")) [] ({ frames := 4, cells := 0, slots := 0, locals := 59 } : Room) #[(.ref a), (.ref b)] h0 (fun v h L => ∃ x : Addr, v = some (.ref x) ∧ Fr n0 L ∧ h = h0 ∧ Sm Z h0 x) := by
  refine enter (Ls := #[.val (.ref a), .val (.ref b)]) (plainFor_of_name pn_5) (fun m => by exact entry_eq rfl) ?_
  intro p e s m below meth cd_ s₁ S0 hx hby hml hret hlk hnm hown hZ X0 e0 k0
  have N0 := Fr.nil n0
  have k1 : To p.tables e below S0 (s₁.setTop (mkF m 4 #[.val (.ref a), .val (.ref b)] [])) := fun tt hq => k0 tt (by
    show Steps _ _ _ (s₁.setTop (mkF m 0 #[.val (.ref a), .val (.ref b)] [])) _
    refine XS.aloadN X0.here hx rfl (hb hby d_prog_1_method_3_code_0) rfl rfl ?_
    show Steps _ _ _ (s₁.setTop (mkF m 1 #[.val (.ref a), .val (.ref b)] [(.ref a)])) _
    refine XS.ifnullNo X0.here hx rfl (hb hby d_prog_1_method_3_code_1) rfl ?_
    show Steps _ _ _ (s₁.setTop (mkF m 4 #[.val (.ref a), .val (.ref b)] [])) _
    exact hq)
  obtain ⟨T2, X2, e2, st2⟩ := getS2 X0 hx hZ hown (host := "") (Or.inl (hw _ (List.mem_of_getElem? (i := 78) rfl))) Via.refl e0 (staOld S_I O0) (g := (mkF m 4 #[.val (.ref a), .val (.ref b)] [])) rfl (hb hby d_prog_1_method_3_code_4)
  have k2 : To p.tables e below S0 (T2.setTop (mkF m 7 #[.val (.ref a), .val (.ref b)] [(.ref qI)])) := fun tt hq => k1 tt (st2 tt hq)
  have k3 : To p.tables e below S0 (T2.setTop (mkF m 9 #[.val (.ref a), .val (.ref b)] [(.ref a), (.ref b), (.ref qI)])) := fun tt hq => k2 tt (by
    show Steps _ _ _ (T2.setTop (mkF m 7 #[.val (.ref a), .val (.ref b)] [(.ref qI)])) _
    refine XS.aloadN X2.here hx rfl (hb hby d_prog_1_method_3_code_7) rfl rfl ?_
    show Steps _ _ _ (T2.setTop (mkF m 8 #[.val (.ref a), .val (.ref b)] [(.ref b), (.ref qI)])) _
    refine XS.aloadN X2.here hx rfl (hb hby d_prog_1_method_3_code_8) rfl rfl ?_
    show Steps _ _ _ (T2.setTop (mkF m 9 #[.val (.ref a), .val (.ref b)] [(.ref a), (.ref b), (.ref qI)])) _
    exact hq)
  obtain ⟨_, T4, L4, X4, ⟨r4, rfl, Nq4, eq4⟩, k4a⟩ := callV' X2 hx hZ (y := (⟨"com/example/huntaway/huntaway/CodePointOrder", "compare", "(Ljava/lang/String;Ljava/lang/String;)I"⟩ : MethodName)) (z := (⟨"com/example/huntaway/huntaway/CodePointOrder", "compare", "(Ljava/lang/String;Ljava/lang/String;)I"⟩ : MethodName)) hown (hw _ (List.mem_of_getElem? (i := 80) rfl)) (hw _ (List.mem_of_getElem? (i := 81) rfl)) (notFace_of_selects (args := #[]) (mvT hZ (hw _ (List.mem_of_getElem? (i := 83) rfl)))) (hw _ (List.mem_of_getElem? (i := 83) rfl)) (hw _ (List.mem_of_getElem? (i := 82) rfl)) (by decide) (exaOld A_I O0) (backC (W := 0) (rm_cmpS l Z a0 hw zc fm qF qP qI b a h0 n0 (by omega) S_c hzc S_f hfm S_F S_P S_I A_I O0 S2 S1) hZ (hw _ (List.mem_of_getElem? (i := 84) rfl)) (hw _ (List.mem_of_getElem? (i := 65) rfl)) (by decide) (by decide)) e2 (argsL := [(.ref b), (.ref a)]) (rest := []) rfl rfl pd_11 rfl (by rw [hml]; rfl) (hb hby d_prog_1_method_3_code_9) (Nat.le_of_eq rfl) (by decide) (by decide) k3
  have k4 : To p.tables e below S0 (T4.setTop (mkF m 12 #[.val (.ref a), .val (.ref b)] [(.int r4)])) := k4a
  have N4 := N0.app Nq4
  have e4 : T4.heap = h0 := eq4
  by_cases hc12_5 : r4 < (0 : Int32)
  · -- pc 12, holds
    have k6 : To p.tables e below S0 (T4.setTop (mkF m 20 #[.val (.ref a), .val (.ref b)] [(.ref b)])) := fun tt hq => k4 tt (by
      show Steps _ _ _ (T4.setTop (mkF m 12 #[.val (.ref a), .val (.ref b)] [(.int r4)])) _
      refine XS.ifNo X4.here hx rfl (hb hby d_prog_1_method_3_code_12) rfl ((if0 _ _).trans (tlt hc12_5).2.1) ?_
      show Steps _ _ _ (T4.setTop (mkF m 15 #[.val (.ref a), .val (.ref b)] [])) _
      refine XS.aloadN X4.here hx rfl (hb hby d_prog_1_method_3_code_15) rfl rfl ?_
      show Steps _ _ _ (T4.setTop (mkF m 16 #[.val (.ref a), .val (.ref b)] [(.ref b)])) _
      refine XS.goto X4.here hx rfl (pc0 := 16) (pc' := 20) rfl (hb hby d_prog_1_method_3_code_16) (by decide) (by decide) ?_
      show Steps _ _ _ (T4.setTop (mkF m 20 #[.val (.ref a), .val (.ref b)] [(.ref b)])) _
      exact hq)
    have hE := e4
    refine retRef X4 hx hret hlk rfl rfl (hb hby d_prog_1_method_3_code_20) k6 ?_ (by decide) (by decide)
    try rw [hE]
    exact ⟨_, rfl, N4, rfl, S2⟩
  · -- pc 12, holds not
    have k7 : To p.tables e below S0 (T4.setTop (mkF m 20 #[.val (.ref a), .val (.ref b)] [(.ref a)])) := fun tt hq => k4 tt (by
      show Steps _ _ _ (T4.setTop (mkF m 12 #[.val (.ref a), .val (.ref b)] [(.int r4)])) _
      refine XS.ifYes X4.here hx rfl (pc0 := 12) (pc' := 19) rfl (hb hby d_prog_1_method_3_code_12) rfl ((if0 _ _).trans (flt hc12_5).2.1) (by decide) (by decide) ?_
      show Steps _ _ _ (T4.setTop (mkF m 19 #[.val (.ref a), .val (.ref b)] [])) _
      refine XS.aloadN X4.here hx rfl (hb hby d_prog_1_method_3_code_19) rfl rfl ?_
      show Steps _ _ _ (T4.setTop (mkF m 20 #[.val (.ref a), .val (.ref b)] [(.ref a)])) _
      exact hq)
    have hE := e4
    refine retRef X4 hx hret hlk rfl rfl (hb hby d_prog_1_method_3_code_20) k7 ?_ (by decide) (by decide)
    try rw [hE]
    exact ⟨_, rfl, N4, rfl, S1⟩
set_option maxRecDepth 65536 in
set_option maxHeartbeats 40000000 in
theorem rm_minN (l : Launch) (Z : State) (a0 : Array Value) (hw : ∀ d ∈ tables_1, d.before a0 Z = true) (zc : Int32) (fm : Value) (qF : Addr) (qP : Addr) (qI : Addr) (b : Addr) (h0 : Heap) (n0 : Nat) (hn0 : n0 ≤ h0.size) (S_c : Sta Z Z.heap "java/lang/String" "COMPACT_STRINGS" "Z" (.int zc)) (hzc : ¬ zc = (0 : Int32)) (S_f : Sta Z Z.heap "jdk/internal/util/Preconditions" "SIOOBE_FORMATTER" "Ljava/util/function/BiFunction;" fm) (hfm : fm.isRef = true) (S_F : Sta Z Z.heap "com/example/huntaway/huntaway/Effect" "FORBID" "Lcom/example/huntaway/huntaway/Effect;" (.ref qF)) (S_P : Sta Z Z.heap "com/example/huntaway/huntaway/Effect" "PERMIT" "Lcom/example/huntaway/huntaway/Effect;" (.ref qP)) (S_I : Sta Z Z.heap "com/example/huntaway/huntaway/CodePointOrder" "INSTANCE" "Lcom/example/huntaway/huntaway/CodePointOrder;" (.ref qI)) (A_I : Exa Z Z.heap qI "com/example/huntaway/huntaway/CodePointOrder") (O0 : Old Z n0 h0) (S2 : Sm Z h0 b) :
    Con l Z (⟨"com/example/huntaway/huntaway/CodePointOrder", "min", "(Ljava/lang/String;Ljava/lang/String;)Ljava/lang/String;"⟩ : MethodName) prog_1_method_3_code 2 (some (.object "java/lang/String")) [] ({ frames := 0, cells := 0, slots := 0, locals := 0 } : Room) #[.null, (.ref b)] h0 (fun v h L => ∃ x : Addr, v = some (.ref x) ∧ Fr n0 L ∧ h = h0 ∧ Sm Z h0 x) := by
  refine enter (Ls := #[.val .null, .val (.ref b)]) (plainFor_of_name pn_5) (fun m => by exact entry_eq rfl) ?_
  intro p e s m below meth cd_ s₁ S0 hx hby hml hret hlk hnm hown hZ X0 e0 k0
  have N0 := Fr.nil n0
  have k1 : To p.tables e below S0 (s₁.setTop (mkF m 20 #[.val .null, .val (.ref b)] [(.ref b)])) := fun tt hq => k0 tt (by
    show Steps _ _ _ (s₁.setTop (mkF m 0 #[.val .null, .val (.ref b)] [])) _
    refine XS.aloadN X0.here hx rfl (hb hby d_prog_1_method_3_code_0) rfl rfl ?_
    show Steps _ _ _ (s₁.setTop (mkF m 1 #[.val .null, .val (.ref b)] [.null])) _
    refine XS.ifnullYes X0.here hx rfl (pc0 := 1) (pc' := 15) rfl (hb hby d_prog_1_method_3_code_1) rfl (by decide) (by decide) ?_
    show Steps _ _ _ (s₁.setTop (mkF m 15 #[.val .null, .val (.ref b)] [])) _
    refine XS.aloadN X0.here hx rfl (hb hby d_prog_1_method_3_code_15) rfl rfl ?_
    show Steps _ _ _ (s₁.setTop (mkF m 16 #[.val .null, .val (.ref b)] [(.ref b)])) _
    refine XS.goto X0.here hx rfl (pc0 := 16) (pc' := 20) rfl (hb hby d_prog_1_method_3_code_16) (by decide) (by decide) ?_
    show Steps _ _ _ (s₁.setTop (mkF m 20 #[.val .null, .val (.ref b)] [(.ref b)])) _
    exact hq)
  have hE := e0
  refine retRef X0 hx hret hlk rfl rfl (hb hby d_prog_1_method_3_code_20) k1 ?_ (by decide) (by decide)
  try rw [hE]
  exact ⟨_, rfl, N0, rfl, S2⟩
theorem d_prog_9_method_1_code_0 : decode prog_9_method_1_code 0 = .ok (.aload_n 0, 1) := by decide +kernel
theorem d_prog_9_method_1_code_1 : decode prog_9_method_1_code 1 = .ok (.invokespecial 1, 3) := by decide +kernel
theorem d_prog_9_method_1_code_4 : decode prog_9_method_1_code 4 = .ok (.aload_n 0, 1) := by decide +kernel
theorem d_prog_9_method_1_code_5 : decode prog_9_method_1_code 5 = .ok (.ldc2_w 9, 3) := by decide +kernel
theorem d_prog_9_method_1_code_8 : decode prog_9_method_1_code 8 = .ok (.putfield 11, 3) := by decide +kernel
theorem d_prog_9_method_1_code_11 : decode prog_9_method_1_code 11 = .ok (.return_, 1) := by decide +kernel
theorem pn_6 : plainName "com/example/huntaway/huntaway/Precedence" = true := by first | (simp [plainName, overriddenIn]; done) | decide +kernel
set_option maxRecDepth 65536 in
set_option maxHeartbeats 40000000 in
theorem rm_pinit (l : Launch) (Z : State) (a0 : Array Value) (hw : ∀ d ∈ tables_1, d.before a0 Z = true) (a : Addr) (h0 : Heap) (n0 : Nat) (hn0 : n0 ≤ h0.size) (P0 : Exa Z h0 a "com/example/huntaway/huntaway/Precedence") (P1 : Fld Z h0 a "com/example/huntaway/huntaway/Precedence" "highest" "J" (.long (0 : Int64))) (P2 : Fld Z h0 a "com/example/huntaway/huntaway/Precedence" "permitting" "Ljava/lang/String;" .null) (P3 : Fld Z h0 a "com/example/huntaway/huntaway/Precedence" "forbidding" "Ljava/lang/String;" .null) (ga : n0 ≤ a) :
    Con l Z (⟨"com/example/huntaway/huntaway/Precedence", "<init>", "()V"⟩ : MethodName) prog_9_method_1_code 1 none [] ({ frames := 1, cells := 0, slots := 0, locals := 12 } : Room) #[(.ref a)] h0 (fun v h L => v = none ∧ Fr n0 L ∧ Keep h0 h [a] ∧ Exa Z h a "com/example/huntaway/huntaway/Precedence" ∧ Fld Z h a "com/example/huntaway/huntaway/Precedence" "highest" "J" (.long (-9223372036854775808 : Int64)) ∧ Fld Z h a "com/example/huntaway/huntaway/Precedence" "permitting" "Ljava/lang/String;" .null ∧ Fld Z h a "com/example/huntaway/huntaway/Precedence" "forbidding" "Ljava/lang/String;" .null) := by
  refine enter (Ls := #[.val (.ref a)]) (plainFor_of_name pn_6) (fun m => by exact entry_eq rfl) ?_
  intro p e s m below meth cd_ s₁ S0 hx hby hml hret hlk hnm hown hZ X0 e0 k0
  have N0 := Fr.nil n0
  have k1 : To p.tables e below S0 (s₁.setTop (mkF m 1 #[.val (.ref a)] [(.ref a)])) := fun tt hq => k0 tt (by
    show Steps _ _ _ (s₁.setTop (mkF m 0 #[.val (.ref a)] [])) _
    refine XS.aloadN X0.here hx rfl (hb hby d_prog_9_method_1_code_0) rfl rfl ?_
    show Steps _ _ _ (s₁.setTop (mkF m 1 #[.val (.ref a)] [(.ref a)])) _
    exact hq)
  obtain ⟨T2, X2, e2, st2⟩ := initO X0 hx hZ hown (hw _ (List.mem_of_getElem? (i := 42) rfl)) (hw _ (List.mem_of_getElem? (i := 30) rfl)) (hw _ (List.mem_of_getElem? (i := 31) rfl)) e0 (g := (mkF m 1 #[.val (.ref a)] [(.ref a)])) rfl (by rw [hml]; rfl) rfl (hb hby d_prog_9_method_1_code_1) (by decide) (W := 0) (by show 2 * 0 + _ ≤ _; exact Nat.le_of_eq rfl) (by decide)
  have k2 : To p.tables e below S0 (T2.setTop (mkF m 4 #[.val (.ref a)] [])) := fun tt hq => k1 tt (st2 tt hq)
  have k3 : To p.tables e below S0 (T2.setTop (mkF m 8 #[.val (.ref a)] [(.long (-9223372036854775808 : Int64)), (.ref a)])) := fun tt hq => k2 tt (by
    show Steps _ _ _ (T2.setTop (mkF m 4 #[.val (.ref a)] [])) _
    refine XS.aloadN X2.here hx rfl (hb hby d_prog_9_method_1_code_4) rfl rfl ?_
    show Steps _ _ _ (T2.setTop (mkF m 5 #[.val (.ref a)] [(.ref a)])) _
    refine X2.ldc2Long hx hown (mvT hZ (hw _ (List.mem_of_getElem? (i := 43) rfl))) (g := (mkF m 5 #[.val (.ref a)] [(.ref a)])) rfl (hb hby d_prog_9_method_1_code_5) _ ?_
    show Steps _ _ _ (T2.setTop (mkF m 8 #[.val (.ref a)] [(.long (-9223372036854775808 : Int64)), (.ref a)])) _
    exact hq)
  obtain ⟨T4, h4, X4, e4, W4, st4⟩ := putF X2 hx hZ hown (host := "") (Or.inl (hw _ (List.mem_of_getElem? (i := 44) rfl))) Via.refl e2 P1 P0 (Or.inl (hw _ (List.mem_of_getElem? (i := 45) rfl))) (hw _ (List.mem_of_getElem? (i := 37) rfl)) (ty := .long) (by decide) rfl rfl (g := (mkF m 8 #[.val (.ref a)] [(.long (-9223372036854775808 : Int64)), (.ref a)])) rfl rfl (hb hby d_prog_9_method_1_code_8)
  have k4 : To p.tables e below S0 (T4.setTop (mkF m 11 #[.val (.ref a)] [])) := fun tt hq => k3 tt (st4 tt hq)
  have z4 : h4.size = h0.size := W4.size
  have F4 := P1.same W4
  have N4 := Fr.snoc X4 N0 (by omega : n0 ≤ a)
  have f5 : Exa Z h4 a "com/example/huntaway/huntaway/Precedence" := (P0.wr W4)
  have f6 : Fld Z h4 a "com/example/huntaway/huntaway/Precedence" "permitting" "Ljava/lang/String;" .null := (P2.other W4 (Or.inr (slot_ne (Or.inl (hw _ (List.mem_of_getElem? (i := 52) rfl))) (Or.inl (hw _ (List.mem_of_getElem? (i := 45) rfl))) (by decide) (t := (.object "java/lang/String")) (t' := .long) (by decide) (by decide))))
  have f7 : Fld Z h4 a "com/example/huntaway/huntaway/Precedence" "forbidding" "Ljava/lang/String;" .null := (P3.other W4 (Or.inr (slot_ne (Or.inl (hw _ (List.mem_of_getElem? (i := 54) rfl))) (Or.inl (hw _ (List.mem_of_getElem? (i := 45) rfl))) (by decide) (t := (.object "java/lang/String")) (t' := .long) (by decide) (by decide))))
  have hE := e4
  refine retVoid X4 hx hret hlk (hb hby d_prog_9_method_1_code_11) k4 ?_ (by decide) (by decide)
  try rw [hE]
  exact ⟨rfl, N4, ((Keep.refl h0 [a]).wr W4 (Or.inl (by simp))), f5, F4, f6, f7⟩
/-- null, or a String of no or one char -/
def Ok (Z : State) (h : Heap) (u : Value) : Prop := u = .null ∨ ∃ x : Addr, u = .ref x ∧ Sm Z h x
theorem okRef {Z : State} {h : Heap} {u : Value} (o : Ok Z h u) : u.isRef = true := by rcases o with rfl | ⟨x, rfl, -⟩ <;> rfl
theorem own_min64 (p : Int64) : ¬ p < (-9223372036854775808 : Int64) := by
  rw [Int64.lt_iff_toInt_lt]; have := Int64.le_toInt p; have e : (-9223372036854775808 : Int64).toInt = -9223372036854775808 := by decide
  omega
theorem d_prog_9_method_3_code_0 : decode prog_9_method_3_code 0 = .ok (.lload_n 2, 1) := by decide +kernel
theorem d_prog_9_method_3_code_1 : decode prog_9_method_3_code 1 = .ok (.aload_n 0, 1) := by decide +kernel
theorem d_prog_9_method_3_code_2 : decode prog_9_method_3_code 2 = .ok (.getfield 11, 3) := by decide +kernel
theorem d_prog_9_method_3_code_5 : decode prog_9_method_3_code 5 = .ok (.lcmp, 1) := by decide +kernel
theorem d_prog_9_method_3_code_6 : decode prog_9_method_3_code 6 = .ok (.ifCond .ge 4, 3) := by decide +kernel
theorem d_prog_9_method_3_code_9 : decode prog_9_method_3_code 9 = .ok (.return_, 1) := by decide +kernel
theorem d_prog_9_method_3_code_10 : decode prog_9_method_3_code 10 = .ok (.lload_n 2, 1) := by decide +kernel
theorem d_prog_9_method_3_code_11 : decode prog_9_method_3_code 11 = .ok (.aload_n 0, 1) := by decide +kernel
theorem d_prog_9_method_3_code_12 : decode prog_9_method_3_code 12 = .ok (.getfield 11, 3) := by decide +kernel
theorem d_prog_9_method_3_code_15 : decode prog_9_method_3_code 15 = .ok (.lcmp, 1) := by decide +kernel
theorem d_prog_9_method_3_code_16 : decode prog_9_method_3_code 16 = .ok (.ifCond .le 18, 3) := by decide +kernel
theorem d_prog_9_method_3_code_19 : decode prog_9_method_3_code 19 = .ok (.aload_n 0, 1) := by decide +kernel
theorem d_prog_9_method_3_code_20 : decode prog_9_method_3_code 20 = .ok (.lload_n 2, 1) := by decide +kernel
theorem d_prog_9_method_3_code_21 : decode prog_9_method_3_code 21 = .ok (.putfield 11, 3) := by decide +kernel
theorem d_prog_9_method_3_code_24 : decode prog_9_method_3_code 24 = .ok (.aload_n 0, 1) := by decide +kernel
theorem d_prog_9_method_3_code_25 : decode prog_9_method_3_code 25 = .ok (.aconst_null, 1) := by decide +kernel
theorem d_prog_9_method_3_code_26 : decode prog_9_method_3_code 26 = .ok (.putfield 17, 3) := by decide +kernel
theorem d_prog_9_method_3_code_29 : decode prog_9_method_3_code 29 = .ok (.aload_n 0, 1) := by decide +kernel
theorem d_prog_9_method_3_code_30 : decode prog_9_method_3_code 30 = .ok (.aconst_null, 1) := by decide +kernel
theorem d_prog_9_method_3_code_31 : decode prog_9_method_3_code 31 = .ok (.putfield 21, 3) := by decide +kernel
theorem d_prog_9_method_3_code_34 : decode prog_9_method_3_code 34 = .ok (.aload_n 1, 1) := by decide +kernel
theorem d_prog_9_method_3_code_35 : decode prog_9_method_3_code 35 = .ok (.getstatic 24, 3) := by decide +kernel
theorem d_prog_9_method_3_code_38 : decode prog_9_method_3_code 38 = .ok (.if_acmp .ne 19, 3) := by decide +kernel
theorem d_prog_9_method_3_code_41 : decode prog_9_method_3_code 41 = .ok (.aload_n 0, 1) := by decide +kernel
theorem d_prog_9_method_3_code_42 : decode prog_9_method_3_code 42 = .ok (.aload_n 0, 1) := by decide +kernel
theorem d_prog_9_method_3_code_43 : decode prog_9_method_3_code 43 = .ok (.getfield 21, 3) := by decide +kernel
theorem d_prog_9_method_3_code_46 : decode prog_9_method_3_code 46 = .ok (.aload 4, 2) := by decide +kernel
theorem d_prog_9_method_3_code_48 : decode prog_9_method_3_code 48 = .ok (.invokestatic 30, 3) := by decide +kernel
theorem d_prog_9_method_3_code_51 : decode prog_9_method_3_code 51 = .ok (.putfield 21, 3) := by decide +kernel
theorem d_prog_9_method_3_code_54 : decode prog_9_method_3_code 54 = .ok (.goto 16, 3) := by decide +kernel
theorem d_prog_9_method_3_code_57 : decode prog_9_method_3_code 57 = .ok (.aload_n 0, 1) := by decide +kernel
theorem d_prog_9_method_3_code_58 : decode prog_9_method_3_code 58 = .ok (.aload_n 0, 1) := by decide +kernel
theorem d_prog_9_method_3_code_59 : decode prog_9_method_3_code 59 = .ok (.getfield 17, 3) := by decide +kernel
theorem d_prog_9_method_3_code_62 : decode prog_9_method_3_code 62 = .ok (.aload 4, 2) := by decide +kernel
theorem d_prog_9_method_3_code_64 : decode prog_9_method_3_code 64 = .ok (.invokestatic 30, 3) := by decide +kernel
theorem d_prog_9_method_3_code_67 : decode prog_9_method_3_code 67 = .ok (.putfield 17, 3) := by decide +kernel
theorem d_prog_9_method_3_code_70 : decode prog_9_method_3_code 70 = .ok (.return_, 1) := by decide +kernel
theorem pd_12 : parseMethodDescriptor "(Ljava/lang/String;Ljava/lang/String;)Ljava/lang/String;" = some ⟨[(.object "java/lang/String"), (.object "java/lang/String")], some (.object "java/lang/String")⟩ := by decide +kernel
set_option maxRecDepth 65536 in
set_option maxHeartbeats 40000000 in
theorem rm_offRR (l : Launch) (Z : State) (a0 : Array Value) (hw : ∀ d ∈ tables_1, d.before a0 Z = true) (zc : Int32) (fm : Value) (qF : Addr) (qP : Addr) (qI : Addr) (a : Addr) (ef : Addr) (pr : Int64) (hi : Int64) (nm : Addr) (o1 : Addr) (o2 : Addr) (h0 : Heap) (n0 : Nat) (hn0 : n0 ≤ h0.size) (S_c : Sta Z Z.heap "java/lang/String" "COMPACT_STRINGS" "Z" (.int zc)) (hzc : ¬ zc = (0 : Int32)) (S_f : Sta Z Z.heap "jdk/internal/util/Preconditions" "SIOOBE_FORMATTER" "Ljava/util/function/BiFunction;" fm) (hfm : fm.isRef = true) (S_F : Sta Z Z.heap "com/example/huntaway/huntaway/Effect" "FORBID" "Lcom/example/huntaway/huntaway/Effect;" (.ref qF)) (S_P : Sta Z Z.heap "com/example/huntaway/huntaway/Effect" "PERMIT" "Lcom/example/huntaway/huntaway/Effect;" (.ref qP)) (S_I : Sta Z Z.heap "com/example/huntaway/huntaway/CodePointOrder" "INSTANCE" "Lcom/example/huntaway/huntaway/CodePointOrder;" (.ref qI)) (A_I : Exa Z Z.heap qI "com/example/huntaway/huntaway/CodePointOrder") (O0 : Old Z n0 h0) (P0 : Exa Z h0 a "com/example/huntaway/huntaway/Precedence") (P1 : Fld Z h0 a "com/example/huntaway/huntaway/Precedence" "highest" "J" (.long hi)) (P2 : Fld Z h0 a "com/example/huntaway/huntaway/Precedence" "permitting" "Ljava/lang/String;" (.ref o1)) (P3 : Fld Z h0 a "com/example/huntaway/huntaway/Precedence" "forbidding" "Ljava/lang/String;" (.ref o2)) (sn : Sm Z h0 nm) (so1 : Sm Z h0 o1) (so2 : Sm Z h0 o2) (ga : n0 ≤ a) :
    Con l Z (⟨"com/example/huntaway/huntaway/Precedence", "offer", "(Lcom/example/huntaway/huntaway/Effect;JLjava/lang/String;)V"⟩ : MethodName) prog_9_method_3_code 5 none [] ({ frames := 5, cells := 0, slots := 0, locals := 73 } : Room) #[(.ref a), (.ref ef), (.long pr), (.ref nm)] h0 (fun v h L => v = none ∧ Fr n0 L ∧ Keep h0 h [a] ∧ Exa Z h a "com/example/huntaway/huntaway/Precedence" ∧ ∃ (hj : Int64) (u1 u2 : Value), Fld Z h a "com/example/huntaway/huntaway/Precedence" "highest" "J" (.long hj) ∧ Fld Z h a "com/example/huntaway/huntaway/Precedence" "permitting" "Ljava/lang/String;" u1 ∧ Fld Z h a "com/example/huntaway/huntaway/Precedence" "forbidding" "Ljava/lang/String;" u2 ∧ Ok Z h u1 ∧ Ok Z h u2 ∧ ¬ (u1 = .null ∧ u2 = .null)) := by
  refine enter (Ls := #[.val (.ref a), .val (.ref ef), .val (.long pr), .second, .val (.ref nm)]) (plainFor_of_name pn_6) (fun m => by exact entry_eq rfl) ?_
  intro p e s m below meth cd_ s₁ S0 hx hby hml hret hlk hnm hown hZ X0 e0 k0
  have N0 := Fr.nil n0
  have k1 : To p.tables e below S0 (s₁.setTop (mkF m 2 #[.val (.ref a), .val (.ref ef), .val (.long pr), .second, .val (.ref nm)] [(.ref a), (.long pr)])) := fun tt hq => k0 tt (by
    show Steps _ _ _ (s₁.setTop (mkF m 0 #[.val (.ref a), .val (.ref ef), .val (.long pr), .second, .val (.ref nm)] [])) _
    refine XS.lloadN X0.here hx rfl (hb hby d_prog_9_method_3_code_0) rfl ?_
    show Steps _ _ _ (s₁.setTop (mkF m 1 #[.val (.ref a), .val (.ref ef), .val (.long pr), .second, .val (.ref nm)] [(.long pr)])) _
    refine XS.aloadN X0.here hx rfl (hb hby d_prog_9_method_3_code_1) rfl rfl ?_
    show Steps _ _ _ (s₁.setTop (mkF m 2 #[.val (.ref a), .val (.ref ef), .val (.long pr), .second, .val (.ref nm)] [(.ref a), (.long pr)])) _
    exact hq)
  obtain ⟨T2, X2, e2, st2⟩ := getF X0 hx hZ hown (host := "") (Or.inl (hw _ (List.mem_of_getElem? (i := 44) rfl))) Via.refl e0 P1 (g := (mkF m 2 #[.val (.ref a), .val (.ref ef), .val (.long pr), .second, .val (.ref nm)] [(.ref a), (.long pr)])) rfl rfl (hb hby d_prog_9_method_3_code_2)
  have k2 : To p.tables e below S0 (T2.setTop (mkF m 5 #[.val (.ref a), .val (.ref ef), .val (.long pr), .second, .val (.ref nm)] [(.long hi), (.long pr)])) := fun tt hq => k1 tt (st2 tt hq)
  have k3 : To p.tables e below S0 (T2.setTop (mkF m 6 #[.val (.ref a), .val (.ref ef), .val (.long pr), .second, .val (.ref nm)] [(.int (lcmpW pr hi))])) := fun tt hq => k2 tt (by
    show Steps _ _ _ (T2.setTop (mkF m 5 #[.val (.ref a), .val (.ref ef), .val (.long pr), .second, .val (.ref nm)] [(.long hi), (.long pr)])) _
    refine XS.lcmp X2.here hx rfl (hb hby d_prog_9_method_3_code_5) rfl ?_
    show Steps _ _ _ (T2.setTop (mkF m 6 #[.val (.ref a), .val (.ref ef), .val (.long pr), .second, .val (.ref nm)] [(.int (lcmpW pr hi))])) _
    exact hq)
  by_cases hc6_4 : (lcmpW pr hi) < (0 : Int32)
  · -- pc 6, holds
    have k5 : To p.tables e below S0 (T2.setTop (mkF m 9 #[.val (.ref a), .val (.ref ef), .val (.long pr), .second, .val (.ref nm)] [])) := fun tt hq => k3 tt (by
      show Steps _ _ _ (T2.setTop (mkF m 6 #[.val (.ref a), .val (.ref ef), .val (.long pr), .second, .val (.ref nm)] [(.int (lcmpW pr hi))])) _
      refine XS.ifNo X2.here hx rfl (hb hby d_prog_9_method_3_code_6) rfl ((if0 _ _).trans (tlt hc6_4).2.1) ?_
      show Steps _ _ _ (T2.setTop (mkF m 9 #[.val (.ref a), .val (.ref ef), .val (.long pr), .second, .val (.ref nm)] [])) _
      exact hq)
    have hE := e2
    refine retVoid X2 hx hret hlk (hb hby d_prog_9_method_3_code_9) k5 ?_ (by decide) (by decide)
    try rw [hE]
    exact ⟨rfl, N0, (Keep.refl h0 [a]), P0, _, _, _, P1, P2, P3, (Or.inr ⟨_, rfl, so1⟩), (Or.inr ⟨_, rfl, so2⟩), by simp⟩
  · -- pc 6, holds not
    have k6 : To p.tables e below S0 (T2.setTop (mkF m 12 #[.val (.ref a), .val (.ref ef), .val (.long pr), .second, .val (.ref nm)] [(.ref a), (.long pr)])) := fun tt hq => k3 tt (by
      show Steps _ _ _ (T2.setTop (mkF m 6 #[.val (.ref a), .val (.ref ef), .val (.long pr), .second, .val (.ref nm)] [(.int (lcmpW pr hi))])) _
      refine XS.ifYes X2.here hx rfl (pc0 := 6) (pc' := 10) rfl (hb hby d_prog_9_method_3_code_6) rfl ((if0 _ _).trans (flt hc6_4).2.1) (by decide) (by decide) ?_
      show Steps _ _ _ (T2.setTop (mkF m 10 #[.val (.ref a), .val (.ref ef), .val (.long pr), .second, .val (.ref nm)] [])) _
      refine XS.lloadN X2.here hx rfl (hb hby d_prog_9_method_3_code_10) rfl ?_
      show Steps _ _ _ (T2.setTop (mkF m 11 #[.val (.ref a), .val (.ref ef), .val (.long pr), .second, .val (.ref nm)] [(.long pr)])) _
      refine XS.aloadN X2.here hx rfl (hb hby d_prog_9_method_3_code_11) rfl rfl ?_
      show Steps _ _ _ (T2.setTop (mkF m 12 #[.val (.ref a), .val (.ref ef), .val (.long pr), .second, .val (.ref nm)] [(.ref a), (.long pr)])) _
      exact hq)
    obtain ⟨T7, X7, e7, st7⟩ := getF X2 hx hZ hown (host := "") (Or.inl (hw _ (List.mem_of_getElem? (i := 44) rfl))) Via.refl e2 P1 (g := (mkF m 12 #[.val (.ref a), .val (.ref ef), .val (.long pr), .second, .val (.ref nm)] [(.ref a), (.long pr)])) rfl rfl (hb hby d_prog_9_method_3_code_12)
    have k7 : To p.tables e below S0 (T7.setTop (mkF m 15 #[.val (.ref a), .val (.ref ef), .val (.long pr), .second, .val (.ref nm)] [(.long hi), (.long pr)])) := fun tt hq => k6 tt (st7 tt hq)
    have k8 : To p.tables e below S0 (T7.setTop (mkF m 16 #[.val (.ref a), .val (.ref ef), .val (.long pr), .second, .val (.ref nm)] [(.int (lcmpW pr hi))])) := fun tt hq => k7 tt (by
      show Steps _ _ _ (T7.setTop (mkF m 15 #[.val (.ref a), .val (.ref ef), .val (.long pr), .second, .val (.ref nm)] [(.long hi), (.long pr)])) _
      refine XS.lcmp X7.here hx rfl (hb hby d_prog_9_method_3_code_15) rfl ?_
      show Steps _ _ _ (T7.setTop (mkF m 16 #[.val (.ref a), .val (.ref ef), .val (.long pr), .second, .val (.ref nm)] [(.int (lcmpW pr hi))])) _
      exact hq)
    by_cases hc16_9 : (0 : Int32) < (lcmpW pr hi)
    · -- pc 16, holds
      have k10 : To p.tables e below S0 (T7.setTop (mkF m 21 #[.val (.ref a), .val (.ref ef), .val (.long pr), .second, .val (.ref nm)] [(.long pr), (.ref a)])) := fun tt hq => k8 tt (by
        show Steps _ _ _ (T7.setTop (mkF m 16 #[.val (.ref a), .val (.ref ef), .val (.long pr), .second, .val (.ref nm)] [(.int (lcmpW pr hi))])) _
        refine XS.ifNo X7.here hx rfl (hb hby d_prog_9_method_3_code_16) rfl ((if0 _ _).trans (tlt hc16_9).2.2.2) ?_
        show Steps _ _ _ (T7.setTop (mkF m 19 #[.val (.ref a), .val (.ref ef), .val (.long pr), .second, .val (.ref nm)] [])) _
        refine XS.aloadN X7.here hx rfl (hb hby d_prog_9_method_3_code_19) rfl rfl ?_
        show Steps _ _ _ (T7.setTop (mkF m 20 #[.val (.ref a), .val (.ref ef), .val (.long pr), .second, .val (.ref nm)] [(.ref a)])) _
        refine XS.lloadN X7.here hx rfl (hb hby d_prog_9_method_3_code_20) rfl ?_
        show Steps _ _ _ (T7.setTop (mkF m 21 #[.val (.ref a), .val (.ref ef), .val (.long pr), .second, .val (.ref nm)] [(.long pr), (.ref a)])) _
        exact hq)
      obtain ⟨T11, h11, X11, e11, W11, st11⟩ := putF X7 hx hZ hown (host := "") (Or.inl (hw _ (List.mem_of_getElem? (i := 44) rfl))) Via.refl e7 P1 P0 (Or.inl (hw _ (List.mem_of_getElem? (i := 45) rfl))) (hw _ (List.mem_of_getElem? (i := 37) rfl)) (ty := .long) (by decide) rfl rfl (g := (mkF m 21 #[.val (.ref a), .val (.ref ef), .val (.long pr), .second, .val (.ref nm)] [(.long pr), (.ref a)])) rfl rfl (hb hby d_prog_9_method_3_code_21)
      have k11 : To p.tables e below S0 (T11.setTop (mkF m 24 #[.val (.ref a), .val (.ref ef), .val (.long pr), .second, .val (.ref nm)] [])) := fun tt hq => k10 tt (st11 tt hq)
      have z11 : h11.size = h0.size := W11.size
      have F11 := P1.same W11
      have N11 := Fr.snoc X11 N0 (by omega : n0 ≤ a)
      have f12 : Exa Z h11 a "com/example/huntaway/huntaway/Precedence" := (P0.wr W11)
      have f13 : Fld Z h11 a "com/example/huntaway/huntaway/Precedence" "permitting" "Ljava/lang/String;" (.ref o1) := (P2.other W11 (Or.inr (slot_ne (Or.inl (hw _ (List.mem_of_getElem? (i := 52) rfl))) (Or.inl (hw _ (List.mem_of_getElem? (i := 45) rfl))) (by decide) (t := (.object "java/lang/String")) (t' := .long) (by decide) (by decide))))
      have k14 : To p.tables e below S0 (T11.setTop (mkF m 26 #[.val (.ref a), .val (.ref ef), .val (.long pr), .second, .val (.ref nm)] [.null, (.ref a)])) := fun tt hq => k11 tt (by
        show Steps _ _ _ (T11.setTop (mkF m 24 #[.val (.ref a), .val (.ref ef), .val (.long pr), .second, .val (.ref nm)] [])) _
        refine XS.aloadN X11.here hx rfl (hb hby d_prog_9_method_3_code_24) rfl rfl ?_
        show Steps _ _ _ (T11.setTop (mkF m 25 #[.val (.ref a), .val (.ref ef), .val (.long pr), .second, .val (.ref nm)] [(.ref a)])) _
        refine XS.aconstNull X11.here hx rfl (hb hby d_prog_9_method_3_code_25) ?_
        show Steps _ _ _ (T11.setTop (mkF m 26 #[.val (.ref a), .val (.ref ef), .val (.long pr), .second, .val (.ref nm)] [.null, (.ref a)])) _
        exact hq)
      obtain ⟨T15, h15, X15, e15, W15, st15⟩ := putF X11 hx hZ hown (host := "") (Or.inl (hw _ (List.mem_of_getElem? (i := 51) rfl))) Via.refl e11 f13 f12 (Or.inl (hw _ (List.mem_of_getElem? (i := 52) rfl))) (hw _ (List.mem_of_getElem? (i := 37) rfl)) (ty := (.object "java/lang/String")) (by decide) rfl rfl (g := (mkF m 26 #[.val (.ref a), .val (.ref ef), .val (.long pr), .second, .val (.ref nm)] [.null, (.ref a)])) rfl rfl (hb hby d_prog_9_method_3_code_26)
      have k15 : To p.tables e below S0 (T15.setTop (mkF m 29 #[.val (.ref a), .val (.ref ef), .val (.long pr), .second, .val (.ref nm)] [])) := fun tt hq => k14 tt (st15 tt hq)
      have z15 : h15.size = h11.size := W15.size
      have F15 := f13.same W15
      have N15 := Fr.snoc X15 N11 (by omega : n0 ≤ a)
      have f16 : Exa Z h15 a "com/example/huntaway/huntaway/Precedence" := (f12.wr W15)
      have f17 : Fld Z h15 a "com/example/huntaway/huntaway/Precedence" "forbidding" "Ljava/lang/String;" (.ref o2) := ((P3.other W11 (Or.inr (slot_ne (Or.inl (hw _ (List.mem_of_getElem? (i := 54) rfl))) (Or.inl (hw _ (List.mem_of_getElem? (i := 45) rfl))) (by decide) (t := (.object "java/lang/String")) (t' := .long) (by decide) (by decide)))).other W15 (Or.inr (slot_ne (Or.inl (hw _ (List.mem_of_getElem? (i := 54) rfl))) (Or.inl (hw _ (List.mem_of_getElem? (i := 52) rfl))) (by decide) (t := (.object "java/lang/String")) (t' := (.object "java/lang/String")) (by decide) (by decide))))
      have k18 : To p.tables e below S0 (T15.setTop (mkF m 31 #[.val (.ref a), .val (.ref ef), .val (.long pr), .second, .val (.ref nm)] [.null, (.ref a)])) := fun tt hq => k15 tt (by
        show Steps _ _ _ (T15.setTop (mkF m 29 #[.val (.ref a), .val (.ref ef), .val (.long pr), .second, .val (.ref nm)] [])) _
        refine XS.aloadN X15.here hx rfl (hb hby d_prog_9_method_3_code_29) rfl rfl ?_
        show Steps _ _ _ (T15.setTop (mkF m 30 #[.val (.ref a), .val (.ref ef), .val (.long pr), .second, .val (.ref nm)] [(.ref a)])) _
        refine XS.aconstNull X15.here hx rfl (hb hby d_prog_9_method_3_code_30) ?_
        show Steps _ _ _ (T15.setTop (mkF m 31 #[.val (.ref a), .val (.ref ef), .val (.long pr), .second, .val (.ref nm)] [.null, (.ref a)])) _
        exact hq)
      obtain ⟨T19, h19, X19, e19, W19, st19⟩ := putF X15 hx hZ hown (host := "") (Or.inl (hw _ (List.mem_of_getElem? (i := 53) rfl))) Via.refl e15 f17 f16 (Or.inl (hw _ (List.mem_of_getElem? (i := 54) rfl))) (hw _ (List.mem_of_getElem? (i := 37) rfl)) (ty := (.object "java/lang/String")) (by decide) rfl rfl (g := (mkF m 31 #[.val (.ref a), .val (.ref ef), .val (.long pr), .second, .val (.ref nm)] [.null, (.ref a)])) rfl rfl (hb hby d_prog_9_method_3_code_31)
      have k19 : To p.tables e below S0 (T19.setTop (mkF m 34 #[.val (.ref a), .val (.ref ef), .val (.long pr), .second, .val (.ref nm)] [])) := fun tt hq => k18 tt (st19 tt hq)
      have z19 : h19.size = h15.size := W19.size
      have F19 := f17.same W19
      have N19 := Fr.snoc X19 N15 (by omega : n0 ≤ a)
      have f20 : Old Z n0 h19 := (((O0.wr W11 (by omega)).wr W15 (by omega)).wr W19 (by omega))
      have k21 : To p.tables e below S0 (T19.setTop (mkF m 35 #[.val (.ref a), .val (.ref ef), .val (.long pr), .second, .val (.ref nm)] [(.ref ef)])) := fun tt hq => k19 tt (by
        show Steps _ _ _ (T19.setTop (mkF m 34 #[.val (.ref a), .val (.ref ef), .val (.long pr), .second, .val (.ref nm)] [])) _
        refine XS.aloadN X19.here hx rfl (hb hby d_prog_9_method_3_code_34) rfl rfl ?_
        show Steps _ _ _ (T19.setTop (mkF m 35 #[.val (.ref a), .val (.ref ef), .val (.long pr), .second, .val (.ref nm)] [(.ref ef)])) _
        exact hq)
      obtain ⟨T22, X22, e22, st22⟩ := getS2 X19 hx hZ hown (host := "") (Or.inl (hw _ (List.mem_of_getElem? (i := 62) rfl))) Via.refl e19 (staOld S_F f20) (g := (mkF m 35 #[.val (.ref a), .val (.ref ef), .val (.long pr), .second, .val (.ref nm)] [(.ref ef)])) rfl (hb hby d_prog_9_method_3_code_35)
      have k22 : To p.tables e below S0 (T22.setTop (mkF m 38 #[.val (.ref a), .val (.ref ef), .val (.long pr), .second, .val (.ref nm)] [(.ref qF), (.ref ef)])) := fun tt hq => k21 tt (st22 tt hq)
      by_cases hc38_23 : ef = qF
      · -- pc 38, holds
        have k24 : To p.tables e below S0 (T22.setTop (mkF m 43 #[.val (.ref a), .val (.ref ef), .val (.long pr), .second, .val (.ref nm)] [(.ref a), (.ref a)])) := fun tt hq => k22 tt (by
          show Steps _ _ _ (T22.setTop (mkF m 38 #[.val (.ref a), .val (.ref ef), .val (.long pr), .second, .val (.ref nm)] [(.ref qF), (.ref ef)])) _
          refine Jvm.RoadKit.acmp (g := (mkF m 38 #[.val (.ref a), .val (.ref ef), .val (.long pr), .second, .val (.ref nm)] [(.ref qF), (.ref ef)])) X22 hx rfl rfl rfl (pc0 := 38) (pc' := 41) (same := true) rfl (hb hby d_prog_9_method_3_code_38) rfl (decide_eq_true (congrArg Value.ref hc38_23)) (by decide) (by decide) ?_
          show Steps _ _ _ (T22.setTop (mkF m 41 #[.val (.ref a), .val (.ref ef), .val (.long pr), .second, .val (.ref nm)] [])) _
          refine XS.aloadN X22.here hx rfl (hb hby d_prog_9_method_3_code_41) rfl rfl ?_
          show Steps _ _ _ (T22.setTop (mkF m 42 #[.val (.ref a), .val (.ref ef), .val (.long pr), .second, .val (.ref nm)] [(.ref a)])) _
          refine XS.aloadN X22.here hx rfl (hb hby d_prog_9_method_3_code_42) rfl rfl ?_
          show Steps _ _ _ (T22.setTop (mkF m 43 #[.val (.ref a), .val (.ref ef), .val (.long pr), .second, .val (.ref nm)] [(.ref a), (.ref a)])) _
          exact hq)
        obtain ⟨T25, X25, e25, st25⟩ := getF X22 hx hZ hown (host := "") (Or.inl (hw _ (List.mem_of_getElem? (i := 53) rfl))) Via.refl e22 F19 (g := (mkF m 43 #[.val (.ref a), .val (.ref ef), .val (.long pr), .second, .val (.ref nm)] [(.ref a), (.ref a)])) rfl rfl (hb hby d_prog_9_method_3_code_43)
        have k25 : To p.tables e below S0 (T25.setTop (mkF m 46 #[.val (.ref a), .val (.ref ef), .val (.long pr), .second, .val (.ref nm)] [.null, (.ref a)])) := fun tt hq => k24 tt (st25 tt hq)
        have k26 : To p.tables e below S0 (T25.setTop (mkF m 48 #[.val (.ref a), .val (.ref ef), .val (.long pr), .second, .val (.ref nm)] [(.ref nm), .null, (.ref a)])) := fun tt hq => k25 tt (by
          show Steps _ _ _ (T25.setTop (mkF m 46 #[.val (.ref a), .val (.ref ef), .val (.long pr), .second, .val (.ref nm)] [.null, (.ref a)])) _
          refine XS.aload X25.here hx rfl (hb hby d_prog_9_method_3_code_46) rfl rfl ?_
          show Steps _ _ _ (T25.setTop (mkF m 48 #[.val (.ref a), .val (.ref ef), .val (.long pr), .second, .val (.ref nm)] [(.ref nm), .null, (.ref a)])) _
          exact hq)
        have f27 : Sm Z h19 nm := (smWr (smWr (smWr sn W11 P0 (hw _ (List.mem_of_getElem? (i := 37) rfl))) W15 f12 (hw _ (List.mem_of_getElem? (i := 37) rfl))) W19 f16 (hw _ (List.mem_of_getElem? (i := 37) rfl)))
        obtain ⟨_, T28, L28, X28, ⟨x28, rfl, Nq28, eq28, sx28⟩, k28a⟩ := callS' X25 hx hZ (y := (⟨"com/example/huntaway/huntaway/CodePointOrder", "min", "(Ljava/lang/String;Ljava/lang/String;)Ljava/lang/String;"⟩ : MethodName)) hown (hw _ (List.mem_of_getElem? (i := 63) rfl)) (hw _ (List.mem_of_getElem? (i := 64) rfl)) (hw _ (List.mem_of_getElem? (i := 65) rfl)) (hw _ (List.mem_of_getElem? (i := 66) rfl)) (by decide) (backC (W := 1) (rm_minN l Z a0 hw zc fm qF qP qI nm h19 n0 (by omega) S_c hzc S_f hfm S_F S_P S_I A_I f20 f27) hZ (hw _ (List.mem_of_getElem? (i := 66) rfl)) (hw _ (List.mem_of_getElem? (i := 65) rfl)) (by decide) (by decide)) e25 (argsL := [.null, (.ref nm)]) (rest := [(.ref a)]) rfl rfl pd_12 rfl (by rw [hml]; rfl) (hb hby d_prog_9_method_3_code_48) (Nat.le_of_eq rfl) (by decide) (by decide) k26
        have k28 : To p.tables e below S0 (T28.setTop (mkF m 51 #[.val (.ref a), .val (.ref ef), .val (.long pr), .second, .val (.ref nm)] [(.ref x28), (.ref a)])) := k28a
        have N28 := N19.app Nq28
        have e28 : T28.heap = h19 := eq28
        have f29 : Exa Z h19 a "com/example/huntaway/huntaway/Precedence" := (f16.wr W19)
        obtain ⟨T30, h30, X30, e30, W30, st30⟩ := putF X28 hx hZ hown (host := "") (Or.inl (hw _ (List.mem_of_getElem? (i := 53) rfl))) Via.refl e28 F19 f29 (Or.inl (hw _ (List.mem_of_getElem? (i := 54) rfl))) (hw _ (List.mem_of_getElem? (i := 37) rfl)) (ty := (.object "java/lang/String")) (by decide) rfl rfl (g := (mkF m 51 #[.val (.ref a), .val (.ref ef), .val (.long pr), .second, .val (.ref nm)] [(.ref x28), (.ref a)])) rfl rfl (hb hby d_prog_9_method_3_code_51)
        have k30 : To p.tables e below S0 (T30.setTop (mkF m 54 #[.val (.ref a), .val (.ref ef), .val (.long pr), .second, .val (.ref nm)] [])) := fun tt hq => k28 tt (st30 tt hq)
        have z30 : h30.size = h19.size := W30.size
        have F30 := F19.same W30
        have N30 := Fr.snoc X30 N28 (by omega : n0 ≤ a)
        have k31 : To p.tables e below S0 (T30.setTop (mkF m 70 #[.val (.ref a), .val (.ref ef), .val (.long pr), .second, .val (.ref nm)] [])) := fun tt hq => k30 tt (by
          show Steps _ _ _ (T30.setTop (mkF m 54 #[.val (.ref a), .val (.ref ef), .val (.long pr), .second, .val (.ref nm)] [])) _
          refine XS.goto X30.here hx rfl (pc0 := 54) (pc' := 70) rfl (hb hby d_prog_9_method_3_code_54) (by decide) (by decide) ?_
          show Steps _ _ _ (T30.setTop (mkF m 70 #[.val (.ref a), .val (.ref ef), .val (.long pr), .second, .val (.ref nm)] [])) _
          exact hq)
        have f32 : Sm Z h30 x28 := (smWr sx28 W30 f29 (hw _ (List.mem_of_getElem? (i := 37) rfl)))
        have f33 : Exa Z h30 a "com/example/huntaway/huntaway/Precedence" := (f29.wr W30)
        have f34 : Fld Z h30 a "com/example/huntaway/huntaway/Precedence" "highest" "J" (.long pr) := (((F11.other W15 (Or.inr (slot_ne (Or.inl (hw _ (List.mem_of_getElem? (i := 45) rfl))) (Or.inl (hw _ (List.mem_of_getElem? (i := 52) rfl))) (by decide) (t := .long) (t' := (.object "java/lang/String")) (by decide) (by decide)))).other W19 (Or.inr (slot_ne (Or.inl (hw _ (List.mem_of_getElem? (i := 45) rfl))) (Or.inl (hw _ (List.mem_of_getElem? (i := 54) rfl))) (by decide) (t := .long) (t' := (.object "java/lang/String")) (by decide) (by decide)))).other W30 (Or.inr (slot_ne (Or.inl (hw _ (List.mem_of_getElem? (i := 45) rfl))) (Or.inl (hw _ (List.mem_of_getElem? (i := 54) rfl))) (by decide) (t := .long) (t' := (.object "java/lang/String")) (by decide) (by decide))))
        have f35 : Fld Z h30 a "com/example/huntaway/huntaway/Precedence" "permitting" "Ljava/lang/String;" .null := ((F15.other W19 (Or.inr (slot_ne (Or.inl (hw _ (List.mem_of_getElem? (i := 52) rfl))) (Or.inl (hw _ (List.mem_of_getElem? (i := 54) rfl))) (by decide) (t := (.object "java/lang/String")) (t' := (.object "java/lang/String")) (by decide) (by decide)))).other W30 (Or.inr (slot_ne (Or.inl (hw _ (List.mem_of_getElem? (i := 52) rfl))) (Or.inl (hw _ (List.mem_of_getElem? (i := 54) rfl))) (by decide) (t := (.object "java/lang/String")) (t' := (.object "java/lang/String")) (by decide) (by decide))))
        have hE := e30
        refine retVoid X30 hx hret hlk (hb hby d_prog_9_method_3_code_70) k31 ?_ (by decide) (by decide)
        try rw [hE]
        exact ⟨rfl, N30, (((((Keep.refl h0 [a]).wr W11 (Or.inl (by simp))).wr W15 (Or.inl (by simp))).wr W19 (Or.inl (by simp))).wr W30 (Or.inl (by simp))), f33, _, _, _, f34, f35, F30, (Or.inl rfl), (Or.inr ⟨_, rfl, f32⟩), by simp⟩
      · -- pc 38, holds not
        have f36 : Fld Z h19 a "com/example/huntaway/huntaway/Precedence" "permitting" "Ljava/lang/String;" .null := (F15.other W19 (Or.inr (slot_ne (Or.inl (hw _ (List.mem_of_getElem? (i := 52) rfl))) (Or.inl (hw _ (List.mem_of_getElem? (i := 54) rfl))) (by decide) (t := (.object "java/lang/String")) (t' := (.object "java/lang/String")) (by decide) (by decide))))
        have k37 : To p.tables e below S0 (T22.setTop (mkF m 59 #[.val (.ref a), .val (.ref ef), .val (.long pr), .second, .val (.ref nm)] [(.ref a), (.ref a)])) := fun tt hq => k22 tt (by
          show Steps _ _ _ (T22.setTop (mkF m 38 #[.val (.ref a), .val (.ref ef), .val (.long pr), .second, .val (.ref nm)] [(.ref qF), (.ref ef)])) _
          refine Jvm.RoadKit.acmp (g := (mkF m 38 #[.val (.ref a), .val (.ref ef), .val (.long pr), .second, .val (.ref nm)] [(.ref qF), (.ref ef)])) X22 hx rfl rfl rfl (pc0 := 38) (pc' := 57) (same := false) rfl (hb hby d_prog_9_method_3_code_38) rfl (decide_eq_false fun q => hc38_23 (Value.ref.inj q)) (by decide) (by decide) ?_
          show Steps _ _ _ (T22.setTop (mkF m 57 #[.val (.ref a), .val (.ref ef), .val (.long pr), .second, .val (.ref nm)] [])) _
          refine XS.aloadN X22.here hx rfl (hb hby d_prog_9_method_3_code_57) rfl rfl ?_
          show Steps _ _ _ (T22.setTop (mkF m 58 #[.val (.ref a), .val (.ref ef), .val (.long pr), .second, .val (.ref nm)] [(.ref a)])) _
          refine XS.aloadN X22.here hx rfl (hb hby d_prog_9_method_3_code_58) rfl rfl ?_
          show Steps _ _ _ (T22.setTop (mkF m 59 #[.val (.ref a), .val (.ref ef), .val (.long pr), .second, .val (.ref nm)] [(.ref a), (.ref a)])) _
          exact hq)
        obtain ⟨T38, X38, e38, st38⟩ := getF X22 hx hZ hown (host := "") (Or.inl (hw _ (List.mem_of_getElem? (i := 51) rfl))) Via.refl e22 f36 (g := (mkF m 59 #[.val (.ref a), .val (.ref ef), .val (.long pr), .second, .val (.ref nm)] [(.ref a), (.ref a)])) rfl rfl (hb hby d_prog_9_method_3_code_59)
        have k38 : To p.tables e below S0 (T38.setTop (mkF m 62 #[.val (.ref a), .val (.ref ef), .val (.long pr), .second, .val (.ref nm)] [.null, (.ref a)])) := fun tt hq => k37 tt (st38 tt hq)
        have k39 : To p.tables e below S0 (T38.setTop (mkF m 64 #[.val (.ref a), .val (.ref ef), .val (.long pr), .second, .val (.ref nm)] [(.ref nm), .null, (.ref a)])) := fun tt hq => k38 tt (by
          show Steps _ _ _ (T38.setTop (mkF m 62 #[.val (.ref a), .val (.ref ef), .val (.long pr), .second, .val (.ref nm)] [.null, (.ref a)])) _
          refine XS.aload X38.here hx rfl (hb hby d_prog_9_method_3_code_62) rfl rfl ?_
          show Steps _ _ _ (T38.setTop (mkF m 64 #[.val (.ref a), .val (.ref ef), .val (.long pr), .second, .val (.ref nm)] [(.ref nm), .null, (.ref a)])) _
          exact hq)
        have f40 : Sm Z h19 nm := (smWr (smWr (smWr sn W11 P0 (hw _ (List.mem_of_getElem? (i := 37) rfl))) W15 f12 (hw _ (List.mem_of_getElem? (i := 37) rfl))) W19 f16 (hw _ (List.mem_of_getElem? (i := 37) rfl)))
        obtain ⟨_, T41, L41, X41, ⟨x41, rfl, Nq41, eq41, sx41⟩, k41a⟩ := callS' X38 hx hZ (y := (⟨"com/example/huntaway/huntaway/CodePointOrder", "min", "(Ljava/lang/String;Ljava/lang/String;)Ljava/lang/String;"⟩ : MethodName)) hown (hw _ (List.mem_of_getElem? (i := 63) rfl)) (hw _ (List.mem_of_getElem? (i := 64) rfl)) (hw _ (List.mem_of_getElem? (i := 65) rfl)) (hw _ (List.mem_of_getElem? (i := 66) rfl)) (by decide) (backC (W := 1) (rm_minN l Z a0 hw zc fm qF qP qI nm h19 n0 (by omega) S_c hzc S_f hfm S_F S_P S_I A_I f20 f40) hZ (hw _ (List.mem_of_getElem? (i := 66) rfl)) (hw _ (List.mem_of_getElem? (i := 65) rfl)) (by decide) (by decide)) e38 (argsL := [.null, (.ref nm)]) (rest := [(.ref a)]) rfl rfl pd_12 rfl (by rw [hml]; rfl) (hb hby d_prog_9_method_3_code_64) (Nat.le_of_eq rfl) (by decide) (by decide) k39
        have k41 : To p.tables e below S0 (T41.setTop (mkF m 67 #[.val (.ref a), .val (.ref ef), .val (.long pr), .second, .val (.ref nm)] [(.ref x41), (.ref a)])) := k41a
        have N41 := N19.app Nq41
        have e41 : T41.heap = h19 := eq41
        have f42 : Exa Z h19 a "com/example/huntaway/huntaway/Precedence" := (f16.wr W19)
        obtain ⟨T43, h43, X43, e43, W43, st43⟩ := putF X41 hx hZ hown (host := "") (Or.inl (hw _ (List.mem_of_getElem? (i := 51) rfl))) Via.refl e41 f36 f42 (Or.inl (hw _ (List.mem_of_getElem? (i := 52) rfl))) (hw _ (List.mem_of_getElem? (i := 37) rfl)) (ty := (.object "java/lang/String")) (by decide) rfl rfl (g := (mkF m 67 #[.val (.ref a), .val (.ref ef), .val (.long pr), .second, .val (.ref nm)] [(.ref x41), (.ref a)])) rfl rfl (hb hby d_prog_9_method_3_code_67)
        have k43 : To p.tables e below S0 (T43.setTop (mkF m 70 #[.val (.ref a), .val (.ref ef), .val (.long pr), .second, .val (.ref nm)] [])) := fun tt hq => k41 tt (st43 tt hq)
        have z43 : h43.size = h19.size := W43.size
        have F43 := f36.same W43
        have N43 := Fr.snoc X43 N41 (by omega : n0 ≤ a)
        have f44 : Sm Z h43 x41 := (smWr sx41 W43 f42 (hw _ (List.mem_of_getElem? (i := 37) rfl)))
        have f45 : Exa Z h43 a "com/example/huntaway/huntaway/Precedence" := (f42.wr W43)
        have f46 : Fld Z h43 a "com/example/huntaway/huntaway/Precedence" "highest" "J" (.long pr) := (((F11.other W15 (Or.inr (slot_ne (Or.inl (hw _ (List.mem_of_getElem? (i := 45) rfl))) (Or.inl (hw _ (List.mem_of_getElem? (i := 52) rfl))) (by decide) (t := .long) (t' := (.object "java/lang/String")) (by decide) (by decide)))).other W19 (Or.inr (slot_ne (Or.inl (hw _ (List.mem_of_getElem? (i := 45) rfl))) (Or.inl (hw _ (List.mem_of_getElem? (i := 54) rfl))) (by decide) (t := .long) (t' := (.object "java/lang/String")) (by decide) (by decide)))).other W43 (Or.inr (slot_ne (Or.inl (hw _ (List.mem_of_getElem? (i := 45) rfl))) (Or.inl (hw _ (List.mem_of_getElem? (i := 52) rfl))) (by decide) (t := .long) (t' := (.object "java/lang/String")) (by decide) (by decide))))
        have f47 : Fld Z h43 a "com/example/huntaway/huntaway/Precedence" "forbidding" "Ljava/lang/String;" .null := (F19.other W43 (Or.inr (slot_ne (Or.inl (hw _ (List.mem_of_getElem? (i := 54) rfl))) (Or.inl (hw _ (List.mem_of_getElem? (i := 52) rfl))) (by decide) (t := (.object "java/lang/String")) (t' := (.object "java/lang/String")) (by decide) (by decide))))
        have hE := e43
        refine retVoid X43 hx hret hlk (hb hby d_prog_9_method_3_code_70) k43 ?_ (by decide) (by decide)
        try rw [hE]
        exact ⟨rfl, N43, (((((Keep.refl h0 [a]).wr W11 (Or.inl (by simp))).wr W15 (Or.inl (by simp))).wr W19 (Or.inl (by simp))).wr W43 (Or.inl (by simp))), f45, _, _, _, f46, F43, f47, (Or.inr ⟨_, rfl, f44⟩), (Or.inl rfl), by simp⟩
    · -- pc 16, holds not
      have k48 : To p.tables e below S0 (T7.setTop (mkF m 35 #[.val (.ref a), .val (.ref ef), .val (.long pr), .second, .val (.ref nm)] [(.ref ef)])) := fun tt hq => k8 tt (by
        show Steps _ _ _ (T7.setTop (mkF m 16 #[.val (.ref a), .val (.ref ef), .val (.long pr), .second, .val (.ref nm)] [(.int (lcmpW pr hi))])) _
        refine XS.ifYes X7.here hx rfl (pc0 := 16) (pc' := 34) rfl (hb hby d_prog_9_method_3_code_16) rfl ((if0 _ _).trans (flt hc16_9).2.2.2) (by decide) (by decide) ?_
        show Steps _ _ _ (T7.setTop (mkF m 34 #[.val (.ref a), .val (.ref ef), .val (.long pr), .second, .val (.ref nm)] [])) _
        refine XS.aloadN X7.here hx rfl (hb hby d_prog_9_method_3_code_34) rfl rfl ?_
        show Steps _ _ _ (T7.setTop (mkF m 35 #[.val (.ref a), .val (.ref ef), .val (.long pr), .second, .val (.ref nm)] [(.ref ef)])) _
        exact hq)
      obtain ⟨T49, X49, e49, st49⟩ := getS2 X7 hx hZ hown (host := "") (Or.inl (hw _ (List.mem_of_getElem? (i := 62) rfl))) Via.refl e7 (staOld S_F O0) (g := (mkF m 35 #[.val (.ref a), .val (.ref ef), .val (.long pr), .second, .val (.ref nm)] [(.ref ef)])) rfl (hb hby d_prog_9_method_3_code_35)
      have k49 : To p.tables e below S0 (T49.setTop (mkF m 38 #[.val (.ref a), .val (.ref ef), .val (.long pr), .second, .val (.ref nm)] [(.ref qF), (.ref ef)])) := fun tt hq => k48 tt (st49 tt hq)
      by_cases hc38_50 : ef = qF
      · -- pc 38, holds
        have k51 : To p.tables e below S0 (T49.setTop (mkF m 43 #[.val (.ref a), .val (.ref ef), .val (.long pr), .second, .val (.ref nm)] [(.ref a), (.ref a)])) := fun tt hq => k49 tt (by
          show Steps _ _ _ (T49.setTop (mkF m 38 #[.val (.ref a), .val (.ref ef), .val (.long pr), .second, .val (.ref nm)] [(.ref qF), (.ref ef)])) _
          refine Jvm.RoadKit.acmp (g := (mkF m 38 #[.val (.ref a), .val (.ref ef), .val (.long pr), .second, .val (.ref nm)] [(.ref qF), (.ref ef)])) X49 hx rfl rfl rfl (pc0 := 38) (pc' := 41) (same := true) rfl (hb hby d_prog_9_method_3_code_38) rfl (decide_eq_true (congrArg Value.ref hc38_50)) (by decide) (by decide) ?_
          show Steps _ _ _ (T49.setTop (mkF m 41 #[.val (.ref a), .val (.ref ef), .val (.long pr), .second, .val (.ref nm)] [])) _
          refine XS.aloadN X49.here hx rfl (hb hby d_prog_9_method_3_code_41) rfl rfl ?_
          show Steps _ _ _ (T49.setTop (mkF m 42 #[.val (.ref a), .val (.ref ef), .val (.long pr), .second, .val (.ref nm)] [(.ref a)])) _
          refine XS.aloadN X49.here hx rfl (hb hby d_prog_9_method_3_code_42) rfl rfl ?_
          show Steps _ _ _ (T49.setTop (mkF m 43 #[.val (.ref a), .val (.ref ef), .val (.long pr), .second, .val (.ref nm)] [(.ref a), (.ref a)])) _
          exact hq)
        obtain ⟨T52, X52, e52, st52⟩ := getF X49 hx hZ hown (host := "") (Or.inl (hw _ (List.mem_of_getElem? (i := 53) rfl))) Via.refl e49 P3 (g := (mkF m 43 #[.val (.ref a), .val (.ref ef), .val (.long pr), .second, .val (.ref nm)] [(.ref a), (.ref a)])) rfl rfl (hb hby d_prog_9_method_3_code_43)
        have k52 : To p.tables e below S0 (T52.setTop (mkF m 46 #[.val (.ref a), .val (.ref ef), .val (.long pr), .second, .val (.ref nm)] [(.ref o2), (.ref a)])) := fun tt hq => k51 tt (st52 tt hq)
        have k53 : To p.tables e below S0 (T52.setTop (mkF m 48 #[.val (.ref a), .val (.ref ef), .val (.long pr), .second, .val (.ref nm)] [(.ref nm), (.ref o2), (.ref a)])) := fun tt hq => k52 tt (by
          show Steps _ _ _ (T52.setTop (mkF m 46 #[.val (.ref a), .val (.ref ef), .val (.long pr), .second, .val (.ref nm)] [(.ref o2), (.ref a)])) _
          refine XS.aload X52.here hx rfl (hb hby d_prog_9_method_3_code_46) rfl rfl ?_
          show Steps _ _ _ (T52.setTop (mkF m 48 #[.val (.ref a), .val (.ref ef), .val (.long pr), .second, .val (.ref nm)] [(.ref nm), (.ref o2), (.ref a)])) _
          exact hq)
        obtain ⟨_, T54, L54, X54, ⟨x54, rfl, Nq54, eq54, sx54⟩, k54a⟩ := callS' X52 hx hZ (y := (⟨"com/example/huntaway/huntaway/CodePointOrder", "min", "(Ljava/lang/String;Ljava/lang/String;)Ljava/lang/String;"⟩ : MethodName)) hown (hw _ (List.mem_of_getElem? (i := 63) rfl)) (hw _ (List.mem_of_getElem? (i := 64) rfl)) (hw _ (List.mem_of_getElem? (i := 65) rfl)) (hw _ (List.mem_of_getElem? (i := 66) rfl)) (by decide) (backC (W := 1) (rm_minR l Z a0 hw zc fm qF qP qI o2 nm h0 n0 (by omega) S_c hzc S_f hfm S_F S_P S_I A_I O0 so2 sn) hZ (hw _ (List.mem_of_getElem? (i := 66) rfl)) (hw _ (List.mem_of_getElem? (i := 65) rfl)) (by decide) (by decide)) e52 (argsL := [(.ref o2), (.ref nm)]) (rest := [(.ref a)]) rfl rfl pd_12 rfl (by rw [hml]; rfl) (hb hby d_prog_9_method_3_code_48) (Nat.le_of_eq rfl) (by decide) (by decide) k53
        have k54 : To p.tables e below S0 (T54.setTop (mkF m 51 #[.val (.ref a), .val (.ref ef), .val (.long pr), .second, .val (.ref nm)] [(.ref x54), (.ref a)])) := k54a
        have N54 := N0.app Nq54
        have e54 : T54.heap = h0 := eq54
        obtain ⟨T55, h55, X55, e55, W55, st55⟩ := putF X54 hx hZ hown (host := "") (Or.inl (hw _ (List.mem_of_getElem? (i := 53) rfl))) Via.refl e54 P3 P0 (Or.inl (hw _ (List.mem_of_getElem? (i := 54) rfl))) (hw _ (List.mem_of_getElem? (i := 37) rfl)) (ty := (.object "java/lang/String")) (by decide) rfl rfl (g := (mkF m 51 #[.val (.ref a), .val (.ref ef), .val (.long pr), .second, .val (.ref nm)] [(.ref x54), (.ref a)])) rfl rfl (hb hby d_prog_9_method_3_code_51)
        have k55 : To p.tables e below S0 (T55.setTop (mkF m 54 #[.val (.ref a), .val (.ref ef), .val (.long pr), .second, .val (.ref nm)] [])) := fun tt hq => k54 tt (st55 tt hq)
        have z55 : h55.size = h0.size := W55.size
        have F55 := P3.same W55
        have N55 := Fr.snoc X55 N54 (by omega : n0 ≤ a)
        have k56 : To p.tables e below S0 (T55.setTop (mkF m 70 #[.val (.ref a), .val (.ref ef), .val (.long pr), .second, .val (.ref nm)] [])) := fun tt hq => k55 tt (by
          show Steps _ _ _ (T55.setTop (mkF m 54 #[.val (.ref a), .val (.ref ef), .val (.long pr), .second, .val (.ref nm)] [])) _
          refine XS.goto X55.here hx rfl (pc0 := 54) (pc' := 70) rfl (hb hby d_prog_9_method_3_code_54) (by decide) (by decide) ?_
          show Steps _ _ _ (T55.setTop (mkF m 70 #[.val (.ref a), .val (.ref ef), .val (.long pr), .second, .val (.ref nm)] [])) _
          exact hq)
        have f57 : Sm Z h55 o1 := (smWr so1 W55 P0 (hw _ (List.mem_of_getElem? (i := 37) rfl)))
        have f58 : Sm Z h55 x54 := (smWr sx54 W55 P0 (hw _ (List.mem_of_getElem? (i := 37) rfl)))
        have f59 : Exa Z h55 a "com/example/huntaway/huntaway/Precedence" := (P0.wr W55)
        have f60 : Fld Z h55 a "com/example/huntaway/huntaway/Precedence" "highest" "J" (.long hi) := (P1.other W55 (Or.inr (slot_ne (Or.inl (hw _ (List.mem_of_getElem? (i := 45) rfl))) (Or.inl (hw _ (List.mem_of_getElem? (i := 54) rfl))) (by decide) (t := .long) (t' := (.object "java/lang/String")) (by decide) (by decide))))
        have f61 : Fld Z h55 a "com/example/huntaway/huntaway/Precedence" "permitting" "Ljava/lang/String;" (.ref o1) := (P2.other W55 (Or.inr (slot_ne (Or.inl (hw _ (List.mem_of_getElem? (i := 52) rfl))) (Or.inl (hw _ (List.mem_of_getElem? (i := 54) rfl))) (by decide) (t := (.object "java/lang/String")) (t' := (.object "java/lang/String")) (by decide) (by decide))))
        have hE := e55
        refine retVoid X55 hx hret hlk (hb hby d_prog_9_method_3_code_70) k56 ?_ (by decide) (by decide)
        try rw [hE]
        exact ⟨rfl, N55, ((Keep.refl h0 [a]).wr W55 (Or.inl (by simp))), f59, _, _, _, f60, f61, F55, (Or.inr ⟨_, rfl, f57⟩), (Or.inr ⟨_, rfl, f58⟩), by simp⟩
      · -- pc 38, holds not
        have k62 : To p.tables e below S0 (T49.setTop (mkF m 59 #[.val (.ref a), .val (.ref ef), .val (.long pr), .second, .val (.ref nm)] [(.ref a), (.ref a)])) := fun tt hq => k49 tt (by
          show Steps _ _ _ (T49.setTop (mkF m 38 #[.val (.ref a), .val (.ref ef), .val (.long pr), .second, .val (.ref nm)] [(.ref qF), (.ref ef)])) _
          refine Jvm.RoadKit.acmp (g := (mkF m 38 #[.val (.ref a), .val (.ref ef), .val (.long pr), .second, .val (.ref nm)] [(.ref qF), (.ref ef)])) X49 hx rfl rfl rfl (pc0 := 38) (pc' := 57) (same := false) rfl (hb hby d_prog_9_method_3_code_38) rfl (decide_eq_false fun q => hc38_50 (Value.ref.inj q)) (by decide) (by decide) ?_
          show Steps _ _ _ (T49.setTop (mkF m 57 #[.val (.ref a), .val (.ref ef), .val (.long pr), .second, .val (.ref nm)] [])) _
          refine XS.aloadN X49.here hx rfl (hb hby d_prog_9_method_3_code_57) rfl rfl ?_
          show Steps _ _ _ (T49.setTop (mkF m 58 #[.val (.ref a), .val (.ref ef), .val (.long pr), .second, .val (.ref nm)] [(.ref a)])) _
          refine XS.aloadN X49.here hx rfl (hb hby d_prog_9_method_3_code_58) rfl rfl ?_
          show Steps _ _ _ (T49.setTop (mkF m 59 #[.val (.ref a), .val (.ref ef), .val (.long pr), .second, .val (.ref nm)] [(.ref a), (.ref a)])) _
          exact hq)
        obtain ⟨T63, X63, e63, st63⟩ := getF X49 hx hZ hown (host := "") (Or.inl (hw _ (List.mem_of_getElem? (i := 51) rfl))) Via.refl e49 P2 (g := (mkF m 59 #[.val (.ref a), .val (.ref ef), .val (.long pr), .second, .val (.ref nm)] [(.ref a), (.ref a)])) rfl rfl (hb hby d_prog_9_method_3_code_59)
        have k63 : To p.tables e below S0 (T63.setTop (mkF m 62 #[.val (.ref a), .val (.ref ef), .val (.long pr), .second, .val (.ref nm)] [(.ref o1), (.ref a)])) := fun tt hq => k62 tt (st63 tt hq)
        have k64 : To p.tables e below S0 (T63.setTop (mkF m 64 #[.val (.ref a), .val (.ref ef), .val (.long pr), .second, .val (.ref nm)] [(.ref nm), (.ref o1), (.ref a)])) := fun tt hq => k63 tt (by
          show Steps _ _ _ (T63.setTop (mkF m 62 #[.val (.ref a), .val (.ref ef), .val (.long pr), .second, .val (.ref nm)] [(.ref o1), (.ref a)])) _
          refine XS.aload X63.here hx rfl (hb hby d_prog_9_method_3_code_62) rfl rfl ?_
          show Steps _ _ _ (T63.setTop (mkF m 64 #[.val (.ref a), .val (.ref ef), .val (.long pr), .second, .val (.ref nm)] [(.ref nm), (.ref o1), (.ref a)])) _
          exact hq)
        obtain ⟨_, T65, L65, X65, ⟨x65, rfl, Nq65, eq65, sx65⟩, k65a⟩ := callS' X63 hx hZ (y := (⟨"com/example/huntaway/huntaway/CodePointOrder", "min", "(Ljava/lang/String;Ljava/lang/String;)Ljava/lang/String;"⟩ : MethodName)) hown (hw _ (List.mem_of_getElem? (i := 63) rfl)) (hw _ (List.mem_of_getElem? (i := 64) rfl)) (hw _ (List.mem_of_getElem? (i := 65) rfl)) (hw _ (List.mem_of_getElem? (i := 66) rfl)) (by decide) (backC (W := 1) (rm_minR l Z a0 hw zc fm qF qP qI o1 nm h0 n0 (by omega) S_c hzc S_f hfm S_F S_P S_I A_I O0 so1 sn) hZ (hw _ (List.mem_of_getElem? (i := 66) rfl)) (hw _ (List.mem_of_getElem? (i := 65) rfl)) (by decide) (by decide)) e63 (argsL := [(.ref o1), (.ref nm)]) (rest := [(.ref a)]) rfl rfl pd_12 rfl (by rw [hml]; rfl) (hb hby d_prog_9_method_3_code_64) (Nat.le_of_eq rfl) (by decide) (by decide) k64
        have k65 : To p.tables e below S0 (T65.setTop (mkF m 67 #[.val (.ref a), .val (.ref ef), .val (.long pr), .second, .val (.ref nm)] [(.ref x65), (.ref a)])) := k65a
        have N65 := N0.app Nq65
        have e65 : T65.heap = h0 := eq65
        obtain ⟨T66, h66, X66, e66, W66, st66⟩ := putF X65 hx hZ hown (host := "") (Or.inl (hw _ (List.mem_of_getElem? (i := 51) rfl))) Via.refl e65 P2 P0 (Or.inl (hw _ (List.mem_of_getElem? (i := 52) rfl))) (hw _ (List.mem_of_getElem? (i := 37) rfl)) (ty := (.object "java/lang/String")) (by decide) rfl rfl (g := (mkF m 67 #[.val (.ref a), .val (.ref ef), .val (.long pr), .second, .val (.ref nm)] [(.ref x65), (.ref a)])) rfl rfl (hb hby d_prog_9_method_3_code_67)
        have k66 : To p.tables e below S0 (T66.setTop (mkF m 70 #[.val (.ref a), .val (.ref ef), .val (.long pr), .second, .val (.ref nm)] [])) := fun tt hq => k65 tt (st66 tt hq)
        have z66 : h66.size = h0.size := W66.size
        have F66 := P2.same W66
        have N66 := Fr.snoc X66 N65 (by omega : n0 ≤ a)
        have f67 : Sm Z h66 x65 := (smWr sx65 W66 P0 (hw _ (List.mem_of_getElem? (i := 37) rfl)))
        have f68 : Sm Z h66 o2 := (smWr so2 W66 P0 (hw _ (List.mem_of_getElem? (i := 37) rfl)))
        have f69 : Exa Z h66 a "com/example/huntaway/huntaway/Precedence" := (P0.wr W66)
        have f70 : Fld Z h66 a "com/example/huntaway/huntaway/Precedence" "highest" "J" (.long hi) := (P1.other W66 (Or.inr (slot_ne (Or.inl (hw _ (List.mem_of_getElem? (i := 45) rfl))) (Or.inl (hw _ (List.mem_of_getElem? (i := 52) rfl))) (by decide) (t := .long) (t' := (.object "java/lang/String")) (by decide) (by decide))))
        have f71 : Fld Z h66 a "com/example/huntaway/huntaway/Precedence" "forbidding" "Ljava/lang/String;" (.ref o2) := (P3.other W66 (Or.inr (slot_ne (Or.inl (hw _ (List.mem_of_getElem? (i := 54) rfl))) (Or.inl (hw _ (List.mem_of_getElem? (i := 52) rfl))) (by decide) (t := (.object "java/lang/String")) (t' := (.object "java/lang/String")) (by decide) (by decide))))
        have hE := e66
        refine retVoid X66 hx hret hlk (hb hby d_prog_9_method_3_code_70) k66 ?_ (by decide) (by decide)
        try rw [hE]
        exact ⟨rfl, N66, ((Keep.refl h0 [a]).wr W66 (Or.inl (by simp))), f69, _, _, _, f70, F66, f71, (Or.inr ⟨_, rfl, f67⟩), (Or.inr ⟨_, rfl, f68⟩), by simp⟩
set_option maxRecDepth 65536 in
set_option maxHeartbeats 40000000 in
theorem rm_offNN (l : Launch) (Z : State) (a0 : Array Value) (hw : ∀ d ∈ tables_1, d.before a0 Z = true) (zc : Int32) (fm : Value) (qF : Addr) (qP : Addr) (qI : Addr) (a : Addr) (ef : Addr) (pr : Int64) (hi : Int64) (nm : Addr) (h0 : Heap) (n0 : Nat) (hn0 : n0 ≤ h0.size) (S_c : Sta Z Z.heap "java/lang/String" "COMPACT_STRINGS" "Z" (.int zc)) (hzc : ¬ zc = (0 : Int32)) (S_f : Sta Z Z.heap "jdk/internal/util/Preconditions" "SIOOBE_FORMATTER" "Ljava/util/function/BiFunction;" fm) (hfm : fm.isRef = true) (S_F : Sta Z Z.heap "com/example/huntaway/huntaway/Effect" "FORBID" "Lcom/example/huntaway/huntaway/Effect;" (.ref qF)) (S_P : Sta Z Z.heap "com/example/huntaway/huntaway/Effect" "PERMIT" "Lcom/example/huntaway/huntaway/Effect;" (.ref qP)) (S_I : Sta Z Z.heap "com/example/huntaway/huntaway/CodePointOrder" "INSTANCE" "Lcom/example/huntaway/huntaway/CodePointOrder;" (.ref qI)) (A_I : Exa Z Z.heap qI "com/example/huntaway/huntaway/CodePointOrder") (O0 : Old Z n0 h0) (P0 : Exa Z h0 a "com/example/huntaway/huntaway/Precedence") (P1 : Fld Z h0 a "com/example/huntaway/huntaway/Precedence" "highest" "J" (.long hi)) (P2 : Fld Z h0 a "com/example/huntaway/huntaway/Precedence" "permitting" "Ljava/lang/String;" .null) (P3 : Fld Z h0 a "com/example/huntaway/huntaway/Precedence" "forbidding" "Ljava/lang/String;" .null) (sn : Sm Z h0 nm) (ga : n0 ≤ a) (hmin : hi = (-9223372036854775808 : Int64)) :
    Con l Z (⟨"com/example/huntaway/huntaway/Precedence", "offer", "(Lcom/example/huntaway/huntaway/Effect;JLjava/lang/String;)V"⟩ : MethodName) prog_9_method_3_code 5 none [] ({ frames := 5, cells := 0, slots := 0, locals := 73 } : Room) #[(.ref a), (.ref ef), (.long pr), (.ref nm)] h0 (fun v h L => v = none ∧ Fr n0 L ∧ Keep h0 h [a] ∧ Exa Z h a "com/example/huntaway/huntaway/Precedence" ∧ ∃ (hj : Int64) (u1 u2 : Value), Fld Z h a "com/example/huntaway/huntaway/Precedence" "highest" "J" (.long hj) ∧ Fld Z h a "com/example/huntaway/huntaway/Precedence" "permitting" "Ljava/lang/String;" u1 ∧ Fld Z h a "com/example/huntaway/huntaway/Precedence" "forbidding" "Ljava/lang/String;" u2 ∧ Ok Z h u1 ∧ Ok Z h u2 ∧ ¬ (u1 = .null ∧ u2 = .null)) := by
  refine enter (Ls := #[.val (.ref a), .val (.ref ef), .val (.long pr), .second, .val (.ref nm)]) (plainFor_of_name pn_6) (fun m => by exact entry_eq rfl) ?_
  intro p e s m below meth cd_ s₁ S0 hx hby hml hret hlk hnm hown hZ X0 e0 k0
  have N0 := Fr.nil n0
  have k1 : To p.tables e below S0 (s₁.setTop (mkF m 2 #[.val (.ref a), .val (.ref ef), .val (.long pr), .second, .val (.ref nm)] [(.ref a), (.long pr)])) := fun tt hq => k0 tt (by
    show Steps _ _ _ (s₁.setTop (mkF m 0 #[.val (.ref a), .val (.ref ef), .val (.long pr), .second, .val (.ref nm)] [])) _
    refine XS.lloadN X0.here hx rfl (hb hby d_prog_9_method_3_code_0) rfl ?_
    show Steps _ _ _ (s₁.setTop (mkF m 1 #[.val (.ref a), .val (.ref ef), .val (.long pr), .second, .val (.ref nm)] [(.long pr)])) _
    refine XS.aloadN X0.here hx rfl (hb hby d_prog_9_method_3_code_1) rfl rfl ?_
    show Steps _ _ _ (s₁.setTop (mkF m 2 #[.val (.ref a), .val (.ref ef), .val (.long pr), .second, .val (.ref nm)] [(.ref a), (.long pr)])) _
    exact hq)
  obtain ⟨T2, X2, e2, st2⟩ := getF X0 hx hZ hown (host := "") (Or.inl (hw _ (List.mem_of_getElem? (i := 44) rfl))) Via.refl e0 P1 (g := (mkF m 2 #[.val (.ref a), .val (.ref ef), .val (.long pr), .second, .val (.ref nm)] [(.ref a), (.long pr)])) rfl rfl (hb hby d_prog_9_method_3_code_2)
  have k2 : To p.tables e below S0 (T2.setTop (mkF m 5 #[.val (.ref a), .val (.ref ef), .val (.long pr), .second, .val (.ref nm)] [(.long hi), (.long pr)])) := fun tt hq => k1 tt (st2 tt hq)
  have k3 : To p.tables e below S0 (T2.setTop (mkF m 6 #[.val (.ref a), .val (.ref ef), .val (.long pr), .second, .val (.ref nm)] [(.int (lcmpW pr hi))])) := fun tt hq => k2 tt (by
    show Steps _ _ _ (T2.setTop (mkF m 5 #[.val (.ref a), .val (.ref ef), .val (.long pr), .second, .val (.ref nm)] [(.long hi), (.long pr)])) _
    refine XS.lcmp X2.here hx rfl (hb hby d_prog_9_method_3_code_5) rfl ?_
    show Steps _ _ _ (T2.setTop (mkF m 6 #[.val (.ref a), .val (.ref ef), .val (.long pr), .second, .val (.ref nm)] [(.int (lcmpW pr hi))])) _
    exact hq)
  by_cases hc6_4 : (lcmpW pr hi) < (0 : Int32)
  · -- pc 6, holds
    exact absurd ((lc_lt _ _).mp ((lcW _ _) ▸ (hmin ▸ hc6_4))) (own_min64 _)
  · -- pc 6, holds not
    have k5 : To p.tables e below S0 (T2.setTop (mkF m 12 #[.val (.ref a), .val (.ref ef), .val (.long pr), .second, .val (.ref nm)] [(.ref a), (.long pr)])) := fun tt hq => k3 tt (by
      show Steps _ _ _ (T2.setTop (mkF m 6 #[.val (.ref a), .val (.ref ef), .val (.long pr), .second, .val (.ref nm)] [(.int (lcmpW pr hi))])) _
      refine XS.ifYes X2.here hx rfl (pc0 := 6) (pc' := 10) rfl (hb hby d_prog_9_method_3_code_6) rfl ((if0 _ _).trans (flt hc6_4).2.1) (by decide) (by decide) ?_
      show Steps _ _ _ (T2.setTop (mkF m 10 #[.val (.ref a), .val (.ref ef), .val (.long pr), .second, .val (.ref nm)] [])) _
      refine XS.lloadN X2.here hx rfl (hb hby d_prog_9_method_3_code_10) rfl ?_
      show Steps _ _ _ (T2.setTop (mkF m 11 #[.val (.ref a), .val (.ref ef), .val (.long pr), .second, .val (.ref nm)] [(.long pr)])) _
      refine XS.aloadN X2.here hx rfl (hb hby d_prog_9_method_3_code_11) rfl rfl ?_
      show Steps _ _ _ (T2.setTop (mkF m 12 #[.val (.ref a), .val (.ref ef), .val (.long pr), .second, .val (.ref nm)] [(.ref a), (.long pr)])) _
      exact hq)
    obtain ⟨T6, X6, e6, st6⟩ := getF X2 hx hZ hown (host := "") (Or.inl (hw _ (List.mem_of_getElem? (i := 44) rfl))) Via.refl e2 P1 (g := (mkF m 12 #[.val (.ref a), .val (.ref ef), .val (.long pr), .second, .val (.ref nm)] [(.ref a), (.long pr)])) rfl rfl (hb hby d_prog_9_method_3_code_12)
    have k6 : To p.tables e below S0 (T6.setTop (mkF m 15 #[.val (.ref a), .val (.ref ef), .val (.long pr), .second, .val (.ref nm)] [(.long hi), (.long pr)])) := fun tt hq => k5 tt (st6 tt hq)
    have k7 : To p.tables e below S0 (T6.setTop (mkF m 16 #[.val (.ref a), .val (.ref ef), .val (.long pr), .second, .val (.ref nm)] [(.int (lcmpW pr hi))])) := fun tt hq => k6 tt (by
      show Steps _ _ _ (T6.setTop (mkF m 15 #[.val (.ref a), .val (.ref ef), .val (.long pr), .second, .val (.ref nm)] [(.long hi), (.long pr)])) _
      refine XS.lcmp X6.here hx rfl (hb hby d_prog_9_method_3_code_15) rfl ?_
      show Steps _ _ _ (T6.setTop (mkF m 16 #[.val (.ref a), .val (.ref ef), .val (.long pr), .second, .val (.ref nm)] [(.int (lcmpW pr hi))])) _
      exact hq)
    by_cases hc16_8 : (0 : Int32) < (lcmpW pr hi)
    · -- pc 16, holds
      have k9 : To p.tables e below S0 (T6.setTop (mkF m 21 #[.val (.ref a), .val (.ref ef), .val (.long pr), .second, .val (.ref nm)] [(.long pr), (.ref a)])) := fun tt hq => k7 tt (by
        show Steps _ _ _ (T6.setTop (mkF m 16 #[.val (.ref a), .val (.ref ef), .val (.long pr), .second, .val (.ref nm)] [(.int (lcmpW pr hi))])) _
        refine XS.ifNo X6.here hx rfl (hb hby d_prog_9_method_3_code_16) rfl ((if0 _ _).trans (tlt hc16_8).2.2.2) ?_
        show Steps _ _ _ (T6.setTop (mkF m 19 #[.val (.ref a), .val (.ref ef), .val (.long pr), .second, .val (.ref nm)] [])) _
        refine XS.aloadN X6.here hx rfl (hb hby d_prog_9_method_3_code_19) rfl rfl ?_
        show Steps _ _ _ (T6.setTop (mkF m 20 #[.val (.ref a), .val (.ref ef), .val (.long pr), .second, .val (.ref nm)] [(.ref a)])) _
        refine XS.lloadN X6.here hx rfl (hb hby d_prog_9_method_3_code_20) rfl ?_
        show Steps _ _ _ (T6.setTop (mkF m 21 #[.val (.ref a), .val (.ref ef), .val (.long pr), .second, .val (.ref nm)] [(.long pr), (.ref a)])) _
        exact hq)
      obtain ⟨T10, h10, X10, e10, W10, st10⟩ := putF X6 hx hZ hown (host := "") (Or.inl (hw _ (List.mem_of_getElem? (i := 44) rfl))) Via.refl e6 P1 P0 (Or.inl (hw _ (List.mem_of_getElem? (i := 45) rfl))) (hw _ (List.mem_of_getElem? (i := 37) rfl)) (ty := .long) (by decide) rfl rfl (g := (mkF m 21 #[.val (.ref a), .val (.ref ef), .val (.long pr), .second, .val (.ref nm)] [(.long pr), (.ref a)])) rfl rfl (hb hby d_prog_9_method_3_code_21)
      have k10 : To p.tables e below S0 (T10.setTop (mkF m 24 #[.val (.ref a), .val (.ref ef), .val (.long pr), .second, .val (.ref nm)] [])) := fun tt hq => k9 tt (st10 tt hq)
      have z10 : h10.size = h0.size := W10.size
      have F10 := P1.same W10
      have N10 := Fr.snoc X10 N0 (by omega : n0 ≤ a)
      have f11 : Exa Z h10 a "com/example/huntaway/huntaway/Precedence" := (P0.wr W10)
      have f12 : Fld Z h10 a "com/example/huntaway/huntaway/Precedence" "permitting" "Ljava/lang/String;" .null := (P2.other W10 (Or.inr (slot_ne (Or.inl (hw _ (List.mem_of_getElem? (i := 52) rfl))) (Or.inl (hw _ (List.mem_of_getElem? (i := 45) rfl))) (by decide) (t := (.object "java/lang/String")) (t' := .long) (by decide) (by decide))))
      have k13 : To p.tables e below S0 (T10.setTop (mkF m 26 #[.val (.ref a), .val (.ref ef), .val (.long pr), .second, .val (.ref nm)] [.null, (.ref a)])) := fun tt hq => k10 tt (by
        show Steps _ _ _ (T10.setTop (mkF m 24 #[.val (.ref a), .val (.ref ef), .val (.long pr), .second, .val (.ref nm)] [])) _
        refine XS.aloadN X10.here hx rfl (hb hby d_prog_9_method_3_code_24) rfl rfl ?_
        show Steps _ _ _ (T10.setTop (mkF m 25 #[.val (.ref a), .val (.ref ef), .val (.long pr), .second, .val (.ref nm)] [(.ref a)])) _
        refine XS.aconstNull X10.here hx rfl (hb hby d_prog_9_method_3_code_25) ?_
        show Steps _ _ _ (T10.setTop (mkF m 26 #[.val (.ref a), .val (.ref ef), .val (.long pr), .second, .val (.ref nm)] [.null, (.ref a)])) _
        exact hq)
      obtain ⟨T14, h14, X14, e14, W14, st14⟩ := putF X10 hx hZ hown (host := "") (Or.inl (hw _ (List.mem_of_getElem? (i := 51) rfl))) Via.refl e10 f12 f11 (Or.inl (hw _ (List.mem_of_getElem? (i := 52) rfl))) (hw _ (List.mem_of_getElem? (i := 37) rfl)) (ty := (.object "java/lang/String")) (by decide) rfl rfl (g := (mkF m 26 #[.val (.ref a), .val (.ref ef), .val (.long pr), .second, .val (.ref nm)] [.null, (.ref a)])) rfl rfl (hb hby d_prog_9_method_3_code_26)
      have k14 : To p.tables e below S0 (T14.setTop (mkF m 29 #[.val (.ref a), .val (.ref ef), .val (.long pr), .second, .val (.ref nm)] [])) := fun tt hq => k13 tt (st14 tt hq)
      have z14 : h14.size = h10.size := W14.size
      have F14 := f12.same W14
      have N14 := Fr.snoc X14 N10 (by omega : n0 ≤ a)
      have f15 : Exa Z h14 a "com/example/huntaway/huntaway/Precedence" := (f11.wr W14)
      have f16 : Fld Z h14 a "com/example/huntaway/huntaway/Precedence" "forbidding" "Ljava/lang/String;" .null := ((P3.other W10 (Or.inr (slot_ne (Or.inl (hw _ (List.mem_of_getElem? (i := 54) rfl))) (Or.inl (hw _ (List.mem_of_getElem? (i := 45) rfl))) (by decide) (t := (.object "java/lang/String")) (t' := .long) (by decide) (by decide)))).other W14 (Or.inr (slot_ne (Or.inl (hw _ (List.mem_of_getElem? (i := 54) rfl))) (Or.inl (hw _ (List.mem_of_getElem? (i := 52) rfl))) (by decide) (t := (.object "java/lang/String")) (t' := (.object "java/lang/String")) (by decide) (by decide))))
      have k17 : To p.tables e below S0 (T14.setTop (mkF m 31 #[.val (.ref a), .val (.ref ef), .val (.long pr), .second, .val (.ref nm)] [.null, (.ref a)])) := fun tt hq => k14 tt (by
        show Steps _ _ _ (T14.setTop (mkF m 29 #[.val (.ref a), .val (.ref ef), .val (.long pr), .second, .val (.ref nm)] [])) _
        refine XS.aloadN X14.here hx rfl (hb hby d_prog_9_method_3_code_29) rfl rfl ?_
        show Steps _ _ _ (T14.setTop (mkF m 30 #[.val (.ref a), .val (.ref ef), .val (.long pr), .second, .val (.ref nm)] [(.ref a)])) _
        refine XS.aconstNull X14.here hx rfl (hb hby d_prog_9_method_3_code_30) ?_
        show Steps _ _ _ (T14.setTop (mkF m 31 #[.val (.ref a), .val (.ref ef), .val (.long pr), .second, .val (.ref nm)] [.null, (.ref a)])) _
        exact hq)
      obtain ⟨T18, h18, X18, e18, W18, st18⟩ := putF X14 hx hZ hown (host := "") (Or.inl (hw _ (List.mem_of_getElem? (i := 53) rfl))) Via.refl e14 f16 f15 (Or.inl (hw _ (List.mem_of_getElem? (i := 54) rfl))) (hw _ (List.mem_of_getElem? (i := 37) rfl)) (ty := (.object "java/lang/String")) (by decide) rfl rfl (g := (mkF m 31 #[.val (.ref a), .val (.ref ef), .val (.long pr), .second, .val (.ref nm)] [.null, (.ref a)])) rfl rfl (hb hby d_prog_9_method_3_code_31)
      have k18 : To p.tables e below S0 (T18.setTop (mkF m 34 #[.val (.ref a), .val (.ref ef), .val (.long pr), .second, .val (.ref nm)] [])) := fun tt hq => k17 tt (st18 tt hq)
      have z18 : h18.size = h14.size := W18.size
      have F18 := f16.same W18
      have N18 := Fr.snoc X18 N14 (by omega : n0 ≤ a)
      have f19 : Old Z n0 h18 := (((O0.wr W10 (by omega)).wr W14 (by omega)).wr W18 (by omega))
      have k20 : To p.tables e below S0 (T18.setTop (mkF m 35 #[.val (.ref a), .val (.ref ef), .val (.long pr), .second, .val (.ref nm)] [(.ref ef)])) := fun tt hq => k18 tt (by
        show Steps _ _ _ (T18.setTop (mkF m 34 #[.val (.ref a), .val (.ref ef), .val (.long pr), .second, .val (.ref nm)] [])) _
        refine XS.aloadN X18.here hx rfl (hb hby d_prog_9_method_3_code_34) rfl rfl ?_
        show Steps _ _ _ (T18.setTop (mkF m 35 #[.val (.ref a), .val (.ref ef), .val (.long pr), .second, .val (.ref nm)] [(.ref ef)])) _
        exact hq)
      obtain ⟨T21, X21, e21, st21⟩ := getS2 X18 hx hZ hown (host := "") (Or.inl (hw _ (List.mem_of_getElem? (i := 62) rfl))) Via.refl e18 (staOld S_F f19) (g := (mkF m 35 #[.val (.ref a), .val (.ref ef), .val (.long pr), .second, .val (.ref nm)] [(.ref ef)])) rfl (hb hby d_prog_9_method_3_code_35)
      have k21 : To p.tables e below S0 (T21.setTop (mkF m 38 #[.val (.ref a), .val (.ref ef), .val (.long pr), .second, .val (.ref nm)] [(.ref qF), (.ref ef)])) := fun tt hq => k20 tt (st21 tt hq)
      by_cases hc38_22 : ef = qF
      · -- pc 38, holds
        have k23 : To p.tables e below S0 (T21.setTop (mkF m 43 #[.val (.ref a), .val (.ref ef), .val (.long pr), .second, .val (.ref nm)] [(.ref a), (.ref a)])) := fun tt hq => k21 tt (by
          show Steps _ _ _ (T21.setTop (mkF m 38 #[.val (.ref a), .val (.ref ef), .val (.long pr), .second, .val (.ref nm)] [(.ref qF), (.ref ef)])) _
          refine Jvm.RoadKit.acmp (g := (mkF m 38 #[.val (.ref a), .val (.ref ef), .val (.long pr), .second, .val (.ref nm)] [(.ref qF), (.ref ef)])) X21 hx rfl rfl rfl (pc0 := 38) (pc' := 41) (same := true) rfl (hb hby d_prog_9_method_3_code_38) rfl (decide_eq_true (congrArg Value.ref hc38_22)) (by decide) (by decide) ?_
          show Steps _ _ _ (T21.setTop (mkF m 41 #[.val (.ref a), .val (.ref ef), .val (.long pr), .second, .val (.ref nm)] [])) _
          refine XS.aloadN X21.here hx rfl (hb hby d_prog_9_method_3_code_41) rfl rfl ?_
          show Steps _ _ _ (T21.setTop (mkF m 42 #[.val (.ref a), .val (.ref ef), .val (.long pr), .second, .val (.ref nm)] [(.ref a)])) _
          refine XS.aloadN X21.here hx rfl (hb hby d_prog_9_method_3_code_42) rfl rfl ?_
          show Steps _ _ _ (T21.setTop (mkF m 43 #[.val (.ref a), .val (.ref ef), .val (.long pr), .second, .val (.ref nm)] [(.ref a), (.ref a)])) _
          exact hq)
        obtain ⟨T24, X24, e24, st24⟩ := getF X21 hx hZ hown (host := "") (Or.inl (hw _ (List.mem_of_getElem? (i := 53) rfl))) Via.refl e21 F18 (g := (mkF m 43 #[.val (.ref a), .val (.ref ef), .val (.long pr), .second, .val (.ref nm)] [(.ref a), (.ref a)])) rfl rfl (hb hby d_prog_9_method_3_code_43)
        have k24 : To p.tables e below S0 (T24.setTop (mkF m 46 #[.val (.ref a), .val (.ref ef), .val (.long pr), .second, .val (.ref nm)] [.null, (.ref a)])) := fun tt hq => k23 tt (st24 tt hq)
        have k25 : To p.tables e below S0 (T24.setTop (mkF m 48 #[.val (.ref a), .val (.ref ef), .val (.long pr), .second, .val (.ref nm)] [(.ref nm), .null, (.ref a)])) := fun tt hq => k24 tt (by
          show Steps _ _ _ (T24.setTop (mkF m 46 #[.val (.ref a), .val (.ref ef), .val (.long pr), .second, .val (.ref nm)] [.null, (.ref a)])) _
          refine XS.aload X24.here hx rfl (hb hby d_prog_9_method_3_code_46) rfl rfl ?_
          show Steps _ _ _ (T24.setTop (mkF m 48 #[.val (.ref a), .val (.ref ef), .val (.long pr), .second, .val (.ref nm)] [(.ref nm), .null, (.ref a)])) _
          exact hq)
        have f26 : Sm Z h18 nm := (smWr (smWr (smWr sn W10 P0 (hw _ (List.mem_of_getElem? (i := 37) rfl))) W14 f11 (hw _ (List.mem_of_getElem? (i := 37) rfl))) W18 f15 (hw _ (List.mem_of_getElem? (i := 37) rfl)))
        obtain ⟨_, T27, L27, X27, ⟨x27, rfl, Nq27, eq27, sx27⟩, k27a⟩ := callS' X24 hx hZ (y := (⟨"com/example/huntaway/huntaway/CodePointOrder", "min", "(Ljava/lang/String;Ljava/lang/String;)Ljava/lang/String;"⟩ : MethodName)) hown (hw _ (List.mem_of_getElem? (i := 63) rfl)) (hw _ (List.mem_of_getElem? (i := 64) rfl)) (hw _ (List.mem_of_getElem? (i := 65) rfl)) (hw _ (List.mem_of_getElem? (i := 66) rfl)) (by decide) (backC (W := 1) (rm_minN l Z a0 hw zc fm qF qP qI nm h18 n0 (by omega) S_c hzc S_f hfm S_F S_P S_I A_I f19 f26) hZ (hw _ (List.mem_of_getElem? (i := 66) rfl)) (hw _ (List.mem_of_getElem? (i := 65) rfl)) (by decide) (by decide)) e24 (argsL := [.null, (.ref nm)]) (rest := [(.ref a)]) rfl rfl pd_12 rfl (by rw [hml]; rfl) (hb hby d_prog_9_method_3_code_48) (Nat.le_of_eq rfl) (by decide) (by decide) k25
        have k27 : To p.tables e below S0 (T27.setTop (mkF m 51 #[.val (.ref a), .val (.ref ef), .val (.long pr), .second, .val (.ref nm)] [(.ref x27), (.ref a)])) := k27a
        have N27 := N18.app Nq27
        have e27 : T27.heap = h18 := eq27
        have f28 : Exa Z h18 a "com/example/huntaway/huntaway/Precedence" := (f15.wr W18)
        obtain ⟨T29, h29, X29, e29, W29, st29⟩ := putF X27 hx hZ hown (host := "") (Or.inl (hw _ (List.mem_of_getElem? (i := 53) rfl))) Via.refl e27 F18 f28 (Or.inl (hw _ (List.mem_of_getElem? (i := 54) rfl))) (hw _ (List.mem_of_getElem? (i := 37) rfl)) (ty := (.object "java/lang/String")) (by decide) rfl rfl (g := (mkF m 51 #[.val (.ref a), .val (.ref ef), .val (.long pr), .second, .val (.ref nm)] [(.ref x27), (.ref a)])) rfl rfl (hb hby d_prog_9_method_3_code_51)
        have k29 : To p.tables e below S0 (T29.setTop (mkF m 54 #[.val (.ref a), .val (.ref ef), .val (.long pr), .second, .val (.ref nm)] [])) := fun tt hq => k27 tt (st29 tt hq)
        have z29 : h29.size = h18.size := W29.size
        have F29 := F18.same W29
        have N29 := Fr.snoc X29 N27 (by omega : n0 ≤ a)
        have k30 : To p.tables e below S0 (T29.setTop (mkF m 70 #[.val (.ref a), .val (.ref ef), .val (.long pr), .second, .val (.ref nm)] [])) := fun tt hq => k29 tt (by
          show Steps _ _ _ (T29.setTop (mkF m 54 #[.val (.ref a), .val (.ref ef), .val (.long pr), .second, .val (.ref nm)] [])) _
          refine XS.goto X29.here hx rfl (pc0 := 54) (pc' := 70) rfl (hb hby d_prog_9_method_3_code_54) (by decide) (by decide) ?_
          show Steps _ _ _ (T29.setTop (mkF m 70 #[.val (.ref a), .val (.ref ef), .val (.long pr), .second, .val (.ref nm)] [])) _
          exact hq)
        have f31 : Sm Z h29 x27 := (smWr sx27 W29 f28 (hw _ (List.mem_of_getElem? (i := 37) rfl)))
        have f32 : Exa Z h29 a "com/example/huntaway/huntaway/Precedence" := (f28.wr W29)
        have f33 : Fld Z h29 a "com/example/huntaway/huntaway/Precedence" "highest" "J" (.long pr) := (((F10.other W14 (Or.inr (slot_ne (Or.inl (hw _ (List.mem_of_getElem? (i := 45) rfl))) (Or.inl (hw _ (List.mem_of_getElem? (i := 52) rfl))) (by decide) (t := .long) (t' := (.object "java/lang/String")) (by decide) (by decide)))).other W18 (Or.inr (slot_ne (Or.inl (hw _ (List.mem_of_getElem? (i := 45) rfl))) (Or.inl (hw _ (List.mem_of_getElem? (i := 54) rfl))) (by decide) (t := .long) (t' := (.object "java/lang/String")) (by decide) (by decide)))).other W29 (Or.inr (slot_ne (Or.inl (hw _ (List.mem_of_getElem? (i := 45) rfl))) (Or.inl (hw _ (List.mem_of_getElem? (i := 54) rfl))) (by decide) (t := .long) (t' := (.object "java/lang/String")) (by decide) (by decide))))
        have f34 : Fld Z h29 a "com/example/huntaway/huntaway/Precedence" "permitting" "Ljava/lang/String;" .null := ((F14.other W18 (Or.inr (slot_ne (Or.inl (hw _ (List.mem_of_getElem? (i := 52) rfl))) (Or.inl (hw _ (List.mem_of_getElem? (i := 54) rfl))) (by decide) (t := (.object "java/lang/String")) (t' := (.object "java/lang/String")) (by decide) (by decide)))).other W29 (Or.inr (slot_ne (Or.inl (hw _ (List.mem_of_getElem? (i := 52) rfl))) (Or.inl (hw _ (List.mem_of_getElem? (i := 54) rfl))) (by decide) (t := (.object "java/lang/String")) (t' := (.object "java/lang/String")) (by decide) (by decide))))
        have hE := e29
        refine retVoid X29 hx hret hlk (hb hby d_prog_9_method_3_code_70) k30 ?_ (by decide) (by decide)
        try rw [hE]
        exact ⟨rfl, N29, (((((Keep.refl h0 [a]).wr W10 (Or.inl (by simp))).wr W14 (Or.inl (by simp))).wr W18 (Or.inl (by simp))).wr W29 (Or.inl (by simp))), f32, _, _, _, f33, f34, F29, (Or.inl rfl), (Or.inr ⟨_, rfl, f31⟩), by simp⟩
      · -- pc 38, holds not
        have f35 : Fld Z h18 a "com/example/huntaway/huntaway/Precedence" "permitting" "Ljava/lang/String;" .null := (F14.other W18 (Or.inr (slot_ne (Or.inl (hw _ (List.mem_of_getElem? (i := 52) rfl))) (Or.inl (hw _ (List.mem_of_getElem? (i := 54) rfl))) (by decide) (t := (.object "java/lang/String")) (t' := (.object "java/lang/String")) (by decide) (by decide))))
        have k36 : To p.tables e below S0 (T21.setTop (mkF m 59 #[.val (.ref a), .val (.ref ef), .val (.long pr), .second, .val (.ref nm)] [(.ref a), (.ref a)])) := fun tt hq => k21 tt (by
          show Steps _ _ _ (T21.setTop (mkF m 38 #[.val (.ref a), .val (.ref ef), .val (.long pr), .second, .val (.ref nm)] [(.ref qF), (.ref ef)])) _
          refine Jvm.RoadKit.acmp (g := (mkF m 38 #[.val (.ref a), .val (.ref ef), .val (.long pr), .second, .val (.ref nm)] [(.ref qF), (.ref ef)])) X21 hx rfl rfl rfl (pc0 := 38) (pc' := 57) (same := false) rfl (hb hby d_prog_9_method_3_code_38) rfl (decide_eq_false fun q => hc38_22 (Value.ref.inj q)) (by decide) (by decide) ?_
          show Steps _ _ _ (T21.setTop (mkF m 57 #[.val (.ref a), .val (.ref ef), .val (.long pr), .second, .val (.ref nm)] [])) _
          refine XS.aloadN X21.here hx rfl (hb hby d_prog_9_method_3_code_57) rfl rfl ?_
          show Steps _ _ _ (T21.setTop (mkF m 58 #[.val (.ref a), .val (.ref ef), .val (.long pr), .second, .val (.ref nm)] [(.ref a)])) _
          refine XS.aloadN X21.here hx rfl (hb hby d_prog_9_method_3_code_58) rfl rfl ?_
          show Steps _ _ _ (T21.setTop (mkF m 59 #[.val (.ref a), .val (.ref ef), .val (.long pr), .second, .val (.ref nm)] [(.ref a), (.ref a)])) _
          exact hq)
        obtain ⟨T37, X37, e37, st37⟩ := getF X21 hx hZ hown (host := "") (Or.inl (hw _ (List.mem_of_getElem? (i := 51) rfl))) Via.refl e21 f35 (g := (mkF m 59 #[.val (.ref a), .val (.ref ef), .val (.long pr), .second, .val (.ref nm)] [(.ref a), (.ref a)])) rfl rfl (hb hby d_prog_9_method_3_code_59)
        have k37 : To p.tables e below S0 (T37.setTop (mkF m 62 #[.val (.ref a), .val (.ref ef), .val (.long pr), .second, .val (.ref nm)] [.null, (.ref a)])) := fun tt hq => k36 tt (st37 tt hq)
        have k38 : To p.tables e below S0 (T37.setTop (mkF m 64 #[.val (.ref a), .val (.ref ef), .val (.long pr), .second, .val (.ref nm)] [(.ref nm), .null, (.ref a)])) := fun tt hq => k37 tt (by
          show Steps _ _ _ (T37.setTop (mkF m 62 #[.val (.ref a), .val (.ref ef), .val (.long pr), .second, .val (.ref nm)] [.null, (.ref a)])) _
          refine XS.aload X37.here hx rfl (hb hby d_prog_9_method_3_code_62) rfl rfl ?_
          show Steps _ _ _ (T37.setTop (mkF m 64 #[.val (.ref a), .val (.ref ef), .val (.long pr), .second, .val (.ref nm)] [(.ref nm), .null, (.ref a)])) _
          exact hq)
        have f39 : Sm Z h18 nm := (smWr (smWr (smWr sn W10 P0 (hw _ (List.mem_of_getElem? (i := 37) rfl))) W14 f11 (hw _ (List.mem_of_getElem? (i := 37) rfl))) W18 f15 (hw _ (List.mem_of_getElem? (i := 37) rfl)))
        obtain ⟨_, T40, L40, X40, ⟨x40, rfl, Nq40, eq40, sx40⟩, k40a⟩ := callS' X37 hx hZ (y := (⟨"com/example/huntaway/huntaway/CodePointOrder", "min", "(Ljava/lang/String;Ljava/lang/String;)Ljava/lang/String;"⟩ : MethodName)) hown (hw _ (List.mem_of_getElem? (i := 63) rfl)) (hw _ (List.mem_of_getElem? (i := 64) rfl)) (hw _ (List.mem_of_getElem? (i := 65) rfl)) (hw _ (List.mem_of_getElem? (i := 66) rfl)) (by decide) (backC (W := 1) (rm_minN l Z a0 hw zc fm qF qP qI nm h18 n0 (by omega) S_c hzc S_f hfm S_F S_P S_I A_I f19 f39) hZ (hw _ (List.mem_of_getElem? (i := 66) rfl)) (hw _ (List.mem_of_getElem? (i := 65) rfl)) (by decide) (by decide)) e37 (argsL := [.null, (.ref nm)]) (rest := [(.ref a)]) rfl rfl pd_12 rfl (by rw [hml]; rfl) (hb hby d_prog_9_method_3_code_64) (Nat.le_of_eq rfl) (by decide) (by decide) k38
        have k40 : To p.tables e below S0 (T40.setTop (mkF m 67 #[.val (.ref a), .val (.ref ef), .val (.long pr), .second, .val (.ref nm)] [(.ref x40), (.ref a)])) := k40a
        have N40 := N18.app Nq40
        have e40 : T40.heap = h18 := eq40
        have f41 : Exa Z h18 a "com/example/huntaway/huntaway/Precedence" := (f15.wr W18)
        obtain ⟨T42, h42, X42, e42, W42, st42⟩ := putF X40 hx hZ hown (host := "") (Or.inl (hw _ (List.mem_of_getElem? (i := 51) rfl))) Via.refl e40 f35 f41 (Or.inl (hw _ (List.mem_of_getElem? (i := 52) rfl))) (hw _ (List.mem_of_getElem? (i := 37) rfl)) (ty := (.object "java/lang/String")) (by decide) rfl rfl (g := (mkF m 67 #[.val (.ref a), .val (.ref ef), .val (.long pr), .second, .val (.ref nm)] [(.ref x40), (.ref a)])) rfl rfl (hb hby d_prog_9_method_3_code_67)
        have k42 : To p.tables e below S0 (T42.setTop (mkF m 70 #[.val (.ref a), .val (.ref ef), .val (.long pr), .second, .val (.ref nm)] [])) := fun tt hq => k40 tt (st42 tt hq)
        have z42 : h42.size = h18.size := W42.size
        have F42 := f35.same W42
        have N42 := Fr.snoc X42 N40 (by omega : n0 ≤ a)
        have f43 : Sm Z h42 x40 := (smWr sx40 W42 f41 (hw _ (List.mem_of_getElem? (i := 37) rfl)))
        have f44 : Exa Z h42 a "com/example/huntaway/huntaway/Precedence" := (f41.wr W42)
        have f45 : Fld Z h42 a "com/example/huntaway/huntaway/Precedence" "highest" "J" (.long pr) := (((F10.other W14 (Or.inr (slot_ne (Or.inl (hw _ (List.mem_of_getElem? (i := 45) rfl))) (Or.inl (hw _ (List.mem_of_getElem? (i := 52) rfl))) (by decide) (t := .long) (t' := (.object "java/lang/String")) (by decide) (by decide)))).other W18 (Or.inr (slot_ne (Or.inl (hw _ (List.mem_of_getElem? (i := 45) rfl))) (Or.inl (hw _ (List.mem_of_getElem? (i := 54) rfl))) (by decide) (t := .long) (t' := (.object "java/lang/String")) (by decide) (by decide)))).other W42 (Or.inr (slot_ne (Or.inl (hw _ (List.mem_of_getElem? (i := 45) rfl))) (Or.inl (hw _ (List.mem_of_getElem? (i := 52) rfl))) (by decide) (t := .long) (t' := (.object "java/lang/String")) (by decide) (by decide))))
        have f46 : Fld Z h42 a "com/example/huntaway/huntaway/Precedence" "forbidding" "Ljava/lang/String;" .null := (F18.other W42 (Or.inr (slot_ne (Or.inl (hw _ (List.mem_of_getElem? (i := 54) rfl))) (Or.inl (hw _ (List.mem_of_getElem? (i := 52) rfl))) (by decide) (t := (.object "java/lang/String")) (t' := (.object "java/lang/String")) (by decide) (by decide))))
        have hE := e42
        refine retVoid X42 hx hret hlk (hb hby d_prog_9_method_3_code_70) k42 ?_ (by decide) (by decide)
        try rw [hE]
        exact ⟨rfl, N42, (((((Keep.refl h0 [a]).wr W10 (Or.inl (by simp))).wr W14 (Or.inl (by simp))).wr W18 (Or.inl (by simp))).wr W42 (Or.inl (by simp))), f44, _, _, _, f45, F42, f46, (Or.inr ⟨_, rfl, f43⟩), (Or.inl rfl), by simp⟩
    · -- pc 16, holds not
      have k47 : To p.tables e below S0 (T6.setTop (mkF m 35 #[.val (.ref a), .val (.ref ef), .val (.long pr), .second, .val (.ref nm)] [(.ref ef)])) := fun tt hq => k7 tt (by
        show Steps _ _ _ (T6.setTop (mkF m 16 #[.val (.ref a), .val (.ref ef), .val (.long pr), .second, .val (.ref nm)] [(.int (lcmpW pr hi))])) _
        refine XS.ifYes X6.here hx rfl (pc0 := 16) (pc' := 34) rfl (hb hby d_prog_9_method_3_code_16) rfl ((if0 _ _).trans (flt hc16_8).2.2.2) (by decide) (by decide) ?_
        show Steps _ _ _ (T6.setTop (mkF m 34 #[.val (.ref a), .val (.ref ef), .val (.long pr), .second, .val (.ref nm)] [])) _
        refine XS.aloadN X6.here hx rfl (hb hby d_prog_9_method_3_code_34) rfl rfl ?_
        show Steps _ _ _ (T6.setTop (mkF m 35 #[.val (.ref a), .val (.ref ef), .val (.long pr), .second, .val (.ref nm)] [(.ref ef)])) _
        exact hq)
      obtain ⟨T48, X48, e48, st48⟩ := getS2 X6 hx hZ hown (host := "") (Or.inl (hw _ (List.mem_of_getElem? (i := 62) rfl))) Via.refl e6 (staOld S_F O0) (g := (mkF m 35 #[.val (.ref a), .val (.ref ef), .val (.long pr), .second, .val (.ref nm)] [(.ref ef)])) rfl (hb hby d_prog_9_method_3_code_35)
      have k48 : To p.tables e below S0 (T48.setTop (mkF m 38 #[.val (.ref a), .val (.ref ef), .val (.long pr), .second, .val (.ref nm)] [(.ref qF), (.ref ef)])) := fun tt hq => k47 tt (st48 tt hq)
      by_cases hc38_49 : ef = qF
      · -- pc 38, holds
        have k50 : To p.tables e below S0 (T48.setTop (mkF m 43 #[.val (.ref a), .val (.ref ef), .val (.long pr), .second, .val (.ref nm)] [(.ref a), (.ref a)])) := fun tt hq => k48 tt (by
          show Steps _ _ _ (T48.setTop (mkF m 38 #[.val (.ref a), .val (.ref ef), .val (.long pr), .second, .val (.ref nm)] [(.ref qF), (.ref ef)])) _
          refine Jvm.RoadKit.acmp (g := (mkF m 38 #[.val (.ref a), .val (.ref ef), .val (.long pr), .second, .val (.ref nm)] [(.ref qF), (.ref ef)])) X48 hx rfl rfl rfl (pc0 := 38) (pc' := 41) (same := true) rfl (hb hby d_prog_9_method_3_code_38) rfl (decide_eq_true (congrArg Value.ref hc38_49)) (by decide) (by decide) ?_
          show Steps _ _ _ (T48.setTop (mkF m 41 #[.val (.ref a), .val (.ref ef), .val (.long pr), .second, .val (.ref nm)] [])) _
          refine XS.aloadN X48.here hx rfl (hb hby d_prog_9_method_3_code_41) rfl rfl ?_
          show Steps _ _ _ (T48.setTop (mkF m 42 #[.val (.ref a), .val (.ref ef), .val (.long pr), .second, .val (.ref nm)] [(.ref a)])) _
          refine XS.aloadN X48.here hx rfl (hb hby d_prog_9_method_3_code_42) rfl rfl ?_
          show Steps _ _ _ (T48.setTop (mkF m 43 #[.val (.ref a), .val (.ref ef), .val (.long pr), .second, .val (.ref nm)] [(.ref a), (.ref a)])) _
          exact hq)
        obtain ⟨T51, X51, e51, st51⟩ := getF X48 hx hZ hown (host := "") (Or.inl (hw _ (List.mem_of_getElem? (i := 53) rfl))) Via.refl e48 P3 (g := (mkF m 43 #[.val (.ref a), .val (.ref ef), .val (.long pr), .second, .val (.ref nm)] [(.ref a), (.ref a)])) rfl rfl (hb hby d_prog_9_method_3_code_43)
        have k51 : To p.tables e below S0 (T51.setTop (mkF m 46 #[.val (.ref a), .val (.ref ef), .val (.long pr), .second, .val (.ref nm)] [.null, (.ref a)])) := fun tt hq => k50 tt (st51 tt hq)
        have k52 : To p.tables e below S0 (T51.setTop (mkF m 48 #[.val (.ref a), .val (.ref ef), .val (.long pr), .second, .val (.ref nm)] [(.ref nm), .null, (.ref a)])) := fun tt hq => k51 tt (by
          show Steps _ _ _ (T51.setTop (mkF m 46 #[.val (.ref a), .val (.ref ef), .val (.long pr), .second, .val (.ref nm)] [.null, (.ref a)])) _
          refine XS.aload X51.here hx rfl (hb hby d_prog_9_method_3_code_46) rfl rfl ?_
          show Steps _ _ _ (T51.setTop (mkF m 48 #[.val (.ref a), .val (.ref ef), .val (.long pr), .second, .val (.ref nm)] [(.ref nm), .null, (.ref a)])) _
          exact hq)
        obtain ⟨_, T53, L53, X53, ⟨x53, rfl, Nq53, eq53, sx53⟩, k53a⟩ := callS' X51 hx hZ (y := (⟨"com/example/huntaway/huntaway/CodePointOrder", "min", "(Ljava/lang/String;Ljava/lang/String;)Ljava/lang/String;"⟩ : MethodName)) hown (hw _ (List.mem_of_getElem? (i := 63) rfl)) (hw _ (List.mem_of_getElem? (i := 64) rfl)) (hw _ (List.mem_of_getElem? (i := 65) rfl)) (hw _ (List.mem_of_getElem? (i := 66) rfl)) (by decide) (backC (W := 1) (rm_minN l Z a0 hw zc fm qF qP qI nm h0 n0 (by omega) S_c hzc S_f hfm S_F S_P S_I A_I O0 sn) hZ (hw _ (List.mem_of_getElem? (i := 66) rfl)) (hw _ (List.mem_of_getElem? (i := 65) rfl)) (by decide) (by decide)) e51 (argsL := [.null, (.ref nm)]) (rest := [(.ref a)]) rfl rfl pd_12 rfl (by rw [hml]; rfl) (hb hby d_prog_9_method_3_code_48) (Nat.le_of_eq rfl) (by decide) (by decide) k52
        have k53 : To p.tables e below S0 (T53.setTop (mkF m 51 #[.val (.ref a), .val (.ref ef), .val (.long pr), .second, .val (.ref nm)] [(.ref x53), (.ref a)])) := k53a
        have N53 := N0.app Nq53
        have e53 : T53.heap = h0 := eq53
        obtain ⟨T54, h54, X54, e54, W54, st54⟩ := putF X53 hx hZ hown (host := "") (Or.inl (hw _ (List.mem_of_getElem? (i := 53) rfl))) Via.refl e53 P3 P0 (Or.inl (hw _ (List.mem_of_getElem? (i := 54) rfl))) (hw _ (List.mem_of_getElem? (i := 37) rfl)) (ty := (.object "java/lang/String")) (by decide) rfl rfl (g := (mkF m 51 #[.val (.ref a), .val (.ref ef), .val (.long pr), .second, .val (.ref nm)] [(.ref x53), (.ref a)])) rfl rfl (hb hby d_prog_9_method_3_code_51)
        have k54 : To p.tables e below S0 (T54.setTop (mkF m 54 #[.val (.ref a), .val (.ref ef), .val (.long pr), .second, .val (.ref nm)] [])) := fun tt hq => k53 tt (st54 tt hq)
        have z54 : h54.size = h0.size := W54.size
        have F54 := P3.same W54
        have N54 := Fr.snoc X54 N53 (by omega : n0 ≤ a)
        have k55 : To p.tables e below S0 (T54.setTop (mkF m 70 #[.val (.ref a), .val (.ref ef), .val (.long pr), .second, .val (.ref nm)] [])) := fun tt hq => k54 tt (by
          show Steps _ _ _ (T54.setTop (mkF m 54 #[.val (.ref a), .val (.ref ef), .val (.long pr), .second, .val (.ref nm)] [])) _
          refine XS.goto X54.here hx rfl (pc0 := 54) (pc' := 70) rfl (hb hby d_prog_9_method_3_code_54) (by decide) (by decide) ?_
          show Steps _ _ _ (T54.setTop (mkF m 70 #[.val (.ref a), .val (.ref ef), .val (.long pr), .second, .val (.ref nm)] [])) _
          exact hq)
        have f56 : Sm Z h54 x53 := (smWr sx53 W54 P0 (hw _ (List.mem_of_getElem? (i := 37) rfl)))
        have f57 : Exa Z h54 a "com/example/huntaway/huntaway/Precedence" := (P0.wr W54)
        have f58 : Fld Z h54 a "com/example/huntaway/huntaway/Precedence" "highest" "J" (.long hi) := (P1.other W54 (Or.inr (slot_ne (Or.inl (hw _ (List.mem_of_getElem? (i := 45) rfl))) (Or.inl (hw _ (List.mem_of_getElem? (i := 54) rfl))) (by decide) (t := .long) (t' := (.object "java/lang/String")) (by decide) (by decide))))
        have f59 : Fld Z h54 a "com/example/huntaway/huntaway/Precedence" "permitting" "Ljava/lang/String;" .null := (P2.other W54 (Or.inr (slot_ne (Or.inl (hw _ (List.mem_of_getElem? (i := 52) rfl))) (Or.inl (hw _ (List.mem_of_getElem? (i := 54) rfl))) (by decide) (t := (.object "java/lang/String")) (t' := (.object "java/lang/String")) (by decide) (by decide))))
        have hE := e54
        refine retVoid X54 hx hret hlk (hb hby d_prog_9_method_3_code_70) k55 ?_ (by decide) (by decide)
        try rw [hE]
        exact ⟨rfl, N54, ((Keep.refl h0 [a]).wr W54 (Or.inl (by simp))), f57, _, _, _, f58, f59, F54, (Or.inl rfl), (Or.inr ⟨_, rfl, f56⟩), by simp⟩
      · -- pc 38, holds not
        have k60 : To p.tables e below S0 (T48.setTop (mkF m 59 #[.val (.ref a), .val (.ref ef), .val (.long pr), .second, .val (.ref nm)] [(.ref a), (.ref a)])) := fun tt hq => k48 tt (by
          show Steps _ _ _ (T48.setTop (mkF m 38 #[.val (.ref a), .val (.ref ef), .val (.long pr), .second, .val (.ref nm)] [(.ref qF), (.ref ef)])) _
          refine Jvm.RoadKit.acmp (g := (mkF m 38 #[.val (.ref a), .val (.ref ef), .val (.long pr), .second, .val (.ref nm)] [(.ref qF), (.ref ef)])) X48 hx rfl rfl rfl (pc0 := 38) (pc' := 57) (same := false) rfl (hb hby d_prog_9_method_3_code_38) rfl (decide_eq_false fun q => hc38_49 (Value.ref.inj q)) (by decide) (by decide) ?_
          show Steps _ _ _ (T48.setTop (mkF m 57 #[.val (.ref a), .val (.ref ef), .val (.long pr), .second, .val (.ref nm)] [])) _
          refine XS.aloadN X48.here hx rfl (hb hby d_prog_9_method_3_code_57) rfl rfl ?_
          show Steps _ _ _ (T48.setTop (mkF m 58 #[.val (.ref a), .val (.ref ef), .val (.long pr), .second, .val (.ref nm)] [(.ref a)])) _
          refine XS.aloadN X48.here hx rfl (hb hby d_prog_9_method_3_code_58) rfl rfl ?_
          show Steps _ _ _ (T48.setTop (mkF m 59 #[.val (.ref a), .val (.ref ef), .val (.long pr), .second, .val (.ref nm)] [(.ref a), (.ref a)])) _
          exact hq)
        obtain ⟨T61, X61, e61, st61⟩ := getF X48 hx hZ hown (host := "") (Or.inl (hw _ (List.mem_of_getElem? (i := 51) rfl))) Via.refl e48 P2 (g := (mkF m 59 #[.val (.ref a), .val (.ref ef), .val (.long pr), .second, .val (.ref nm)] [(.ref a), (.ref a)])) rfl rfl (hb hby d_prog_9_method_3_code_59)
        have k61 : To p.tables e below S0 (T61.setTop (mkF m 62 #[.val (.ref a), .val (.ref ef), .val (.long pr), .second, .val (.ref nm)] [.null, (.ref a)])) := fun tt hq => k60 tt (st61 tt hq)
        have k62 : To p.tables e below S0 (T61.setTop (mkF m 64 #[.val (.ref a), .val (.ref ef), .val (.long pr), .second, .val (.ref nm)] [(.ref nm), .null, (.ref a)])) := fun tt hq => k61 tt (by
          show Steps _ _ _ (T61.setTop (mkF m 62 #[.val (.ref a), .val (.ref ef), .val (.long pr), .second, .val (.ref nm)] [.null, (.ref a)])) _
          refine XS.aload X61.here hx rfl (hb hby d_prog_9_method_3_code_62) rfl rfl ?_
          show Steps _ _ _ (T61.setTop (mkF m 64 #[.val (.ref a), .val (.ref ef), .val (.long pr), .second, .val (.ref nm)] [(.ref nm), .null, (.ref a)])) _
          exact hq)
        obtain ⟨_, T63, L63, X63, ⟨x63, rfl, Nq63, eq63, sx63⟩, k63a⟩ := callS' X61 hx hZ (y := (⟨"com/example/huntaway/huntaway/CodePointOrder", "min", "(Ljava/lang/String;Ljava/lang/String;)Ljava/lang/String;"⟩ : MethodName)) hown (hw _ (List.mem_of_getElem? (i := 63) rfl)) (hw _ (List.mem_of_getElem? (i := 64) rfl)) (hw _ (List.mem_of_getElem? (i := 65) rfl)) (hw _ (List.mem_of_getElem? (i := 66) rfl)) (by decide) (backC (W := 1) (rm_minN l Z a0 hw zc fm qF qP qI nm h0 n0 (by omega) S_c hzc S_f hfm S_F S_P S_I A_I O0 sn) hZ (hw _ (List.mem_of_getElem? (i := 66) rfl)) (hw _ (List.mem_of_getElem? (i := 65) rfl)) (by decide) (by decide)) e61 (argsL := [.null, (.ref nm)]) (rest := [(.ref a)]) rfl rfl pd_12 rfl (by rw [hml]; rfl) (hb hby d_prog_9_method_3_code_64) (Nat.le_of_eq rfl) (by decide) (by decide) k62
        have k63 : To p.tables e below S0 (T63.setTop (mkF m 67 #[.val (.ref a), .val (.ref ef), .val (.long pr), .second, .val (.ref nm)] [(.ref x63), (.ref a)])) := k63a
        have N63 := N0.app Nq63
        have e63 : T63.heap = h0 := eq63
        obtain ⟨T64, h64, X64, e64, W64, st64⟩ := putF X63 hx hZ hown (host := "") (Or.inl (hw _ (List.mem_of_getElem? (i := 51) rfl))) Via.refl e63 P2 P0 (Or.inl (hw _ (List.mem_of_getElem? (i := 52) rfl))) (hw _ (List.mem_of_getElem? (i := 37) rfl)) (ty := (.object "java/lang/String")) (by decide) rfl rfl (g := (mkF m 67 #[.val (.ref a), .val (.ref ef), .val (.long pr), .second, .val (.ref nm)] [(.ref x63), (.ref a)])) rfl rfl (hb hby d_prog_9_method_3_code_67)
        have k64 : To p.tables e below S0 (T64.setTop (mkF m 70 #[.val (.ref a), .val (.ref ef), .val (.long pr), .second, .val (.ref nm)] [])) := fun tt hq => k63 tt (st64 tt hq)
        have z64 : h64.size = h0.size := W64.size
        have F64 := P2.same W64
        have N64 := Fr.snoc X64 N63 (by omega : n0 ≤ a)
        have f65 : Sm Z h64 x63 := (smWr sx63 W64 P0 (hw _ (List.mem_of_getElem? (i := 37) rfl)))
        have f66 : Exa Z h64 a "com/example/huntaway/huntaway/Precedence" := (P0.wr W64)
        have f67 : Fld Z h64 a "com/example/huntaway/huntaway/Precedence" "highest" "J" (.long hi) := (P1.other W64 (Or.inr (slot_ne (Or.inl (hw _ (List.mem_of_getElem? (i := 45) rfl))) (Or.inl (hw _ (List.mem_of_getElem? (i := 52) rfl))) (by decide) (t := .long) (t' := (.object "java/lang/String")) (by decide) (by decide))))
        have f68 : Fld Z h64 a "com/example/huntaway/huntaway/Precedence" "forbidding" "Ljava/lang/String;" .null := (P3.other W64 (Or.inr (slot_ne (Or.inl (hw _ (List.mem_of_getElem? (i := 54) rfl))) (Or.inl (hw _ (List.mem_of_getElem? (i := 52) rfl))) (by decide) (t := (.object "java/lang/String")) (t' := (.object "java/lang/String")) (by decide) (by decide))))
        have hE := e64
        refine retVoid X64 hx hret hlk (hb hby d_prog_9_method_3_code_70) k64 ?_ (by decide) (by decide)
        try rw [hE]
        exact ⟨rfl, N64, ((Keep.refl h0 [a]).wr W64 (Or.inl (by simp))), f66, _, _, _, f67, F64, f68, (Or.inr ⟨_, rfl, f65⟩), (Or.inl rfl), by simp⟩
set_option maxRecDepth 65536 in
set_option maxHeartbeats 40000000 in
theorem rm_offNR (l : Launch) (Z : State) (a0 : Array Value) (hw : ∀ d ∈ tables_1, d.before a0 Z = true) (zc : Int32) (fm : Value) (qF : Addr) (qP : Addr) (qI : Addr) (a : Addr) (ef : Addr) (pr : Int64) (hi : Int64) (nm : Addr) (o2 : Addr) (h0 : Heap) (n0 : Nat) (hn0 : n0 ≤ h0.size) (S_c : Sta Z Z.heap "java/lang/String" "COMPACT_STRINGS" "Z" (.int zc)) (hzc : ¬ zc = (0 : Int32)) (S_f : Sta Z Z.heap "jdk/internal/util/Preconditions" "SIOOBE_FORMATTER" "Ljava/util/function/BiFunction;" fm) (hfm : fm.isRef = true) (S_F : Sta Z Z.heap "com/example/huntaway/huntaway/Effect" "FORBID" "Lcom/example/huntaway/huntaway/Effect;" (.ref qF)) (S_P : Sta Z Z.heap "com/example/huntaway/huntaway/Effect" "PERMIT" "Lcom/example/huntaway/huntaway/Effect;" (.ref qP)) (S_I : Sta Z Z.heap "com/example/huntaway/huntaway/CodePointOrder" "INSTANCE" "Lcom/example/huntaway/huntaway/CodePointOrder;" (.ref qI)) (A_I : Exa Z Z.heap qI "com/example/huntaway/huntaway/CodePointOrder") (O0 : Old Z n0 h0) (P0 : Exa Z h0 a "com/example/huntaway/huntaway/Precedence") (P1 : Fld Z h0 a "com/example/huntaway/huntaway/Precedence" "highest" "J" (.long hi)) (P2 : Fld Z h0 a "com/example/huntaway/huntaway/Precedence" "permitting" "Ljava/lang/String;" .null) (P3 : Fld Z h0 a "com/example/huntaway/huntaway/Precedence" "forbidding" "Ljava/lang/String;" (.ref o2)) (sn : Sm Z h0 nm) (so2 : Sm Z h0 o2) (ga : n0 ≤ a) :
    Con l Z (⟨"com/example/huntaway/huntaway/Precedence", "offer", "(Lcom/example/huntaway/huntaway/Effect;JLjava/lang/String;)V"⟩ : MethodName) prog_9_method_3_code 5 none [] ({ frames := 5, cells := 0, slots := 0, locals := 73 } : Room) #[(.ref a), (.ref ef), (.long pr), (.ref nm)] h0 (fun v h L => v = none ∧ Fr n0 L ∧ Keep h0 h [a] ∧ Exa Z h a "com/example/huntaway/huntaway/Precedence" ∧ ∃ (hj : Int64) (u1 u2 : Value), Fld Z h a "com/example/huntaway/huntaway/Precedence" "highest" "J" (.long hj) ∧ Fld Z h a "com/example/huntaway/huntaway/Precedence" "permitting" "Ljava/lang/String;" u1 ∧ Fld Z h a "com/example/huntaway/huntaway/Precedence" "forbidding" "Ljava/lang/String;" u2 ∧ Ok Z h u1 ∧ Ok Z h u2 ∧ ¬ (u1 = .null ∧ u2 = .null)) := by
  refine enter (Ls := #[.val (.ref a), .val (.ref ef), .val (.long pr), .second, .val (.ref nm)]) (plainFor_of_name pn_6) (fun m => by exact entry_eq rfl) ?_
  intro p e s m below meth cd_ s₁ S0 hx hby hml hret hlk hnm hown hZ X0 e0 k0
  have N0 := Fr.nil n0
  have k1 : To p.tables e below S0 (s₁.setTop (mkF m 2 #[.val (.ref a), .val (.ref ef), .val (.long pr), .second, .val (.ref nm)] [(.ref a), (.long pr)])) := fun tt hq => k0 tt (by
    show Steps _ _ _ (s₁.setTop (mkF m 0 #[.val (.ref a), .val (.ref ef), .val (.long pr), .second, .val (.ref nm)] [])) _
    refine XS.lloadN X0.here hx rfl (hb hby d_prog_9_method_3_code_0) rfl ?_
    show Steps _ _ _ (s₁.setTop (mkF m 1 #[.val (.ref a), .val (.ref ef), .val (.long pr), .second, .val (.ref nm)] [(.long pr)])) _
    refine XS.aloadN X0.here hx rfl (hb hby d_prog_9_method_3_code_1) rfl rfl ?_
    show Steps _ _ _ (s₁.setTop (mkF m 2 #[.val (.ref a), .val (.ref ef), .val (.long pr), .second, .val (.ref nm)] [(.ref a), (.long pr)])) _
    exact hq)
  obtain ⟨T2, X2, e2, st2⟩ := getF X0 hx hZ hown (host := "") (Or.inl (hw _ (List.mem_of_getElem? (i := 44) rfl))) Via.refl e0 P1 (g := (mkF m 2 #[.val (.ref a), .val (.ref ef), .val (.long pr), .second, .val (.ref nm)] [(.ref a), (.long pr)])) rfl rfl (hb hby d_prog_9_method_3_code_2)
  have k2 : To p.tables e below S0 (T2.setTop (mkF m 5 #[.val (.ref a), .val (.ref ef), .val (.long pr), .second, .val (.ref nm)] [(.long hi), (.long pr)])) := fun tt hq => k1 tt (st2 tt hq)
  have k3 : To p.tables e below S0 (T2.setTop (mkF m 6 #[.val (.ref a), .val (.ref ef), .val (.long pr), .second, .val (.ref nm)] [(.int (lcmpW pr hi))])) := fun tt hq => k2 tt (by
    show Steps _ _ _ (T2.setTop (mkF m 5 #[.val (.ref a), .val (.ref ef), .val (.long pr), .second, .val (.ref nm)] [(.long hi), (.long pr)])) _
    refine XS.lcmp X2.here hx rfl (hb hby d_prog_9_method_3_code_5) rfl ?_
    show Steps _ _ _ (T2.setTop (mkF m 6 #[.val (.ref a), .val (.ref ef), .val (.long pr), .second, .val (.ref nm)] [(.int (lcmpW pr hi))])) _
    exact hq)
  by_cases hc6_4 : (lcmpW pr hi) < (0 : Int32)
  · -- pc 6, holds
    have k5 : To p.tables e below S0 (T2.setTop (mkF m 9 #[.val (.ref a), .val (.ref ef), .val (.long pr), .second, .val (.ref nm)] [])) := fun tt hq => k3 tt (by
      show Steps _ _ _ (T2.setTop (mkF m 6 #[.val (.ref a), .val (.ref ef), .val (.long pr), .second, .val (.ref nm)] [(.int (lcmpW pr hi))])) _
      refine XS.ifNo X2.here hx rfl (hb hby d_prog_9_method_3_code_6) rfl ((if0 _ _).trans (tlt hc6_4).2.1) ?_
      show Steps _ _ _ (T2.setTop (mkF m 9 #[.val (.ref a), .val (.ref ef), .val (.long pr), .second, .val (.ref nm)] [])) _
      exact hq)
    have hE := e2
    refine retVoid X2 hx hret hlk (hb hby d_prog_9_method_3_code_9) k5 ?_ (by decide) (by decide)
    try rw [hE]
    exact ⟨rfl, N0, (Keep.refl h0 [a]), P0, _, _, _, P1, P2, P3, (Or.inl rfl), (Or.inr ⟨_, rfl, so2⟩), by simp⟩
  · -- pc 6, holds not
    have k6 : To p.tables e below S0 (T2.setTop (mkF m 12 #[.val (.ref a), .val (.ref ef), .val (.long pr), .second, .val (.ref nm)] [(.ref a), (.long pr)])) := fun tt hq => k3 tt (by
      show Steps _ _ _ (T2.setTop (mkF m 6 #[.val (.ref a), .val (.ref ef), .val (.long pr), .second, .val (.ref nm)] [(.int (lcmpW pr hi))])) _
      refine XS.ifYes X2.here hx rfl (pc0 := 6) (pc' := 10) rfl (hb hby d_prog_9_method_3_code_6) rfl ((if0 _ _).trans (flt hc6_4).2.1) (by decide) (by decide) ?_
      show Steps _ _ _ (T2.setTop (mkF m 10 #[.val (.ref a), .val (.ref ef), .val (.long pr), .second, .val (.ref nm)] [])) _
      refine XS.lloadN X2.here hx rfl (hb hby d_prog_9_method_3_code_10) rfl ?_
      show Steps _ _ _ (T2.setTop (mkF m 11 #[.val (.ref a), .val (.ref ef), .val (.long pr), .second, .val (.ref nm)] [(.long pr)])) _
      refine XS.aloadN X2.here hx rfl (hb hby d_prog_9_method_3_code_11) rfl rfl ?_
      show Steps _ _ _ (T2.setTop (mkF m 12 #[.val (.ref a), .val (.ref ef), .val (.long pr), .second, .val (.ref nm)] [(.ref a), (.long pr)])) _
      exact hq)
    obtain ⟨T7, X7, e7, st7⟩ := getF X2 hx hZ hown (host := "") (Or.inl (hw _ (List.mem_of_getElem? (i := 44) rfl))) Via.refl e2 P1 (g := (mkF m 12 #[.val (.ref a), .val (.ref ef), .val (.long pr), .second, .val (.ref nm)] [(.ref a), (.long pr)])) rfl rfl (hb hby d_prog_9_method_3_code_12)
    have k7 : To p.tables e below S0 (T7.setTop (mkF m 15 #[.val (.ref a), .val (.ref ef), .val (.long pr), .second, .val (.ref nm)] [(.long hi), (.long pr)])) := fun tt hq => k6 tt (st7 tt hq)
    have k8 : To p.tables e below S0 (T7.setTop (mkF m 16 #[.val (.ref a), .val (.ref ef), .val (.long pr), .second, .val (.ref nm)] [(.int (lcmpW pr hi))])) := fun tt hq => k7 tt (by
      show Steps _ _ _ (T7.setTop (mkF m 15 #[.val (.ref a), .val (.ref ef), .val (.long pr), .second, .val (.ref nm)] [(.long hi), (.long pr)])) _
      refine XS.lcmp X7.here hx rfl (hb hby d_prog_9_method_3_code_15) rfl ?_
      show Steps _ _ _ (T7.setTop (mkF m 16 #[.val (.ref a), .val (.ref ef), .val (.long pr), .second, .val (.ref nm)] [(.int (lcmpW pr hi))])) _
      exact hq)
    by_cases hc16_9 : (0 : Int32) < (lcmpW pr hi)
    · -- pc 16, holds
      have k10 : To p.tables e below S0 (T7.setTop (mkF m 21 #[.val (.ref a), .val (.ref ef), .val (.long pr), .second, .val (.ref nm)] [(.long pr), (.ref a)])) := fun tt hq => k8 tt (by
        show Steps _ _ _ (T7.setTop (mkF m 16 #[.val (.ref a), .val (.ref ef), .val (.long pr), .second, .val (.ref nm)] [(.int (lcmpW pr hi))])) _
        refine XS.ifNo X7.here hx rfl (hb hby d_prog_9_method_3_code_16) rfl ((if0 _ _).trans (tlt hc16_9).2.2.2) ?_
        show Steps _ _ _ (T7.setTop (mkF m 19 #[.val (.ref a), .val (.ref ef), .val (.long pr), .second, .val (.ref nm)] [])) _
        refine XS.aloadN X7.here hx rfl (hb hby d_prog_9_method_3_code_19) rfl rfl ?_
        show Steps _ _ _ (T7.setTop (mkF m 20 #[.val (.ref a), .val (.ref ef), .val (.long pr), .second, .val (.ref nm)] [(.ref a)])) _
        refine XS.lloadN X7.here hx rfl (hb hby d_prog_9_method_3_code_20) rfl ?_
        show Steps _ _ _ (T7.setTop (mkF m 21 #[.val (.ref a), .val (.ref ef), .val (.long pr), .second, .val (.ref nm)] [(.long pr), (.ref a)])) _
        exact hq)
      obtain ⟨T11, h11, X11, e11, W11, st11⟩ := putF X7 hx hZ hown (host := "") (Or.inl (hw _ (List.mem_of_getElem? (i := 44) rfl))) Via.refl e7 P1 P0 (Or.inl (hw _ (List.mem_of_getElem? (i := 45) rfl))) (hw _ (List.mem_of_getElem? (i := 37) rfl)) (ty := .long) (by decide) rfl rfl (g := (mkF m 21 #[.val (.ref a), .val (.ref ef), .val (.long pr), .second, .val (.ref nm)] [(.long pr), (.ref a)])) rfl rfl (hb hby d_prog_9_method_3_code_21)
      have k11 : To p.tables e below S0 (T11.setTop (mkF m 24 #[.val (.ref a), .val (.ref ef), .val (.long pr), .second, .val (.ref nm)] [])) := fun tt hq => k10 tt (st11 tt hq)
      have z11 : h11.size = h0.size := W11.size
      have F11 := P1.same W11
      have N11 := Fr.snoc X11 N0 (by omega : n0 ≤ a)
      have f12 : Exa Z h11 a "com/example/huntaway/huntaway/Precedence" := (P0.wr W11)
      have f13 : Fld Z h11 a "com/example/huntaway/huntaway/Precedence" "permitting" "Ljava/lang/String;" .null := (P2.other W11 (Or.inr (slot_ne (Or.inl (hw _ (List.mem_of_getElem? (i := 52) rfl))) (Or.inl (hw _ (List.mem_of_getElem? (i := 45) rfl))) (by decide) (t := (.object "java/lang/String")) (t' := .long) (by decide) (by decide))))
      have k14 : To p.tables e below S0 (T11.setTop (mkF m 26 #[.val (.ref a), .val (.ref ef), .val (.long pr), .second, .val (.ref nm)] [.null, (.ref a)])) := fun tt hq => k11 tt (by
        show Steps _ _ _ (T11.setTop (mkF m 24 #[.val (.ref a), .val (.ref ef), .val (.long pr), .second, .val (.ref nm)] [])) _
        refine XS.aloadN X11.here hx rfl (hb hby d_prog_9_method_3_code_24) rfl rfl ?_
        show Steps _ _ _ (T11.setTop (mkF m 25 #[.val (.ref a), .val (.ref ef), .val (.long pr), .second, .val (.ref nm)] [(.ref a)])) _
        refine XS.aconstNull X11.here hx rfl (hb hby d_prog_9_method_3_code_25) ?_
        show Steps _ _ _ (T11.setTop (mkF m 26 #[.val (.ref a), .val (.ref ef), .val (.long pr), .second, .val (.ref nm)] [.null, (.ref a)])) _
        exact hq)
      obtain ⟨T15, h15, X15, e15, W15, st15⟩ := putF X11 hx hZ hown (host := "") (Or.inl (hw _ (List.mem_of_getElem? (i := 51) rfl))) Via.refl e11 f13 f12 (Or.inl (hw _ (List.mem_of_getElem? (i := 52) rfl))) (hw _ (List.mem_of_getElem? (i := 37) rfl)) (ty := (.object "java/lang/String")) (by decide) rfl rfl (g := (mkF m 26 #[.val (.ref a), .val (.ref ef), .val (.long pr), .second, .val (.ref nm)] [.null, (.ref a)])) rfl rfl (hb hby d_prog_9_method_3_code_26)
      have k15 : To p.tables e below S0 (T15.setTop (mkF m 29 #[.val (.ref a), .val (.ref ef), .val (.long pr), .second, .val (.ref nm)] [])) := fun tt hq => k14 tt (st15 tt hq)
      have z15 : h15.size = h11.size := W15.size
      have F15 := f13.same W15
      have N15 := Fr.snoc X15 N11 (by omega : n0 ≤ a)
      have f16 : Exa Z h15 a "com/example/huntaway/huntaway/Precedence" := (f12.wr W15)
      have f17 : Fld Z h15 a "com/example/huntaway/huntaway/Precedence" "forbidding" "Ljava/lang/String;" (.ref o2) := ((P3.other W11 (Or.inr (slot_ne (Or.inl (hw _ (List.mem_of_getElem? (i := 54) rfl))) (Or.inl (hw _ (List.mem_of_getElem? (i := 45) rfl))) (by decide) (t := (.object "java/lang/String")) (t' := .long) (by decide) (by decide)))).other W15 (Or.inr (slot_ne (Or.inl (hw _ (List.mem_of_getElem? (i := 54) rfl))) (Or.inl (hw _ (List.mem_of_getElem? (i := 52) rfl))) (by decide) (t := (.object "java/lang/String")) (t' := (.object "java/lang/String")) (by decide) (by decide))))
      have k18 : To p.tables e below S0 (T15.setTop (mkF m 31 #[.val (.ref a), .val (.ref ef), .val (.long pr), .second, .val (.ref nm)] [.null, (.ref a)])) := fun tt hq => k15 tt (by
        show Steps _ _ _ (T15.setTop (mkF m 29 #[.val (.ref a), .val (.ref ef), .val (.long pr), .second, .val (.ref nm)] [])) _
        refine XS.aloadN X15.here hx rfl (hb hby d_prog_9_method_3_code_29) rfl rfl ?_
        show Steps _ _ _ (T15.setTop (mkF m 30 #[.val (.ref a), .val (.ref ef), .val (.long pr), .second, .val (.ref nm)] [(.ref a)])) _
        refine XS.aconstNull X15.here hx rfl (hb hby d_prog_9_method_3_code_30) ?_
        show Steps _ _ _ (T15.setTop (mkF m 31 #[.val (.ref a), .val (.ref ef), .val (.long pr), .second, .val (.ref nm)] [.null, (.ref a)])) _
        exact hq)
      obtain ⟨T19, h19, X19, e19, W19, st19⟩ := putF X15 hx hZ hown (host := "") (Or.inl (hw _ (List.mem_of_getElem? (i := 53) rfl))) Via.refl e15 f17 f16 (Or.inl (hw _ (List.mem_of_getElem? (i := 54) rfl))) (hw _ (List.mem_of_getElem? (i := 37) rfl)) (ty := (.object "java/lang/String")) (by decide) rfl rfl (g := (mkF m 31 #[.val (.ref a), .val (.ref ef), .val (.long pr), .second, .val (.ref nm)] [.null, (.ref a)])) rfl rfl (hb hby d_prog_9_method_3_code_31)
      have k19 : To p.tables e below S0 (T19.setTop (mkF m 34 #[.val (.ref a), .val (.ref ef), .val (.long pr), .second, .val (.ref nm)] [])) := fun tt hq => k18 tt (st19 tt hq)
      have z19 : h19.size = h15.size := W19.size
      have F19 := f17.same W19
      have N19 := Fr.snoc X19 N15 (by omega : n0 ≤ a)
      have f20 : Old Z n0 h19 := (((O0.wr W11 (by omega)).wr W15 (by omega)).wr W19 (by omega))
      have k21 : To p.tables e below S0 (T19.setTop (mkF m 35 #[.val (.ref a), .val (.ref ef), .val (.long pr), .second, .val (.ref nm)] [(.ref ef)])) := fun tt hq => k19 tt (by
        show Steps _ _ _ (T19.setTop (mkF m 34 #[.val (.ref a), .val (.ref ef), .val (.long pr), .second, .val (.ref nm)] [])) _
        refine XS.aloadN X19.here hx rfl (hb hby d_prog_9_method_3_code_34) rfl rfl ?_
        show Steps _ _ _ (T19.setTop (mkF m 35 #[.val (.ref a), .val (.ref ef), .val (.long pr), .second, .val (.ref nm)] [(.ref ef)])) _
        exact hq)
      obtain ⟨T22, X22, e22, st22⟩ := getS2 X19 hx hZ hown (host := "") (Or.inl (hw _ (List.mem_of_getElem? (i := 62) rfl))) Via.refl e19 (staOld S_F f20) (g := (mkF m 35 #[.val (.ref a), .val (.ref ef), .val (.long pr), .second, .val (.ref nm)] [(.ref ef)])) rfl (hb hby d_prog_9_method_3_code_35)
      have k22 : To p.tables e below S0 (T22.setTop (mkF m 38 #[.val (.ref a), .val (.ref ef), .val (.long pr), .second, .val (.ref nm)] [(.ref qF), (.ref ef)])) := fun tt hq => k21 tt (st22 tt hq)
      by_cases hc38_23 : ef = qF
      · -- pc 38, holds
        have k24 : To p.tables e below S0 (T22.setTop (mkF m 43 #[.val (.ref a), .val (.ref ef), .val (.long pr), .second, .val (.ref nm)] [(.ref a), (.ref a)])) := fun tt hq => k22 tt (by
          show Steps _ _ _ (T22.setTop (mkF m 38 #[.val (.ref a), .val (.ref ef), .val (.long pr), .second, .val (.ref nm)] [(.ref qF), (.ref ef)])) _
          refine Jvm.RoadKit.acmp (g := (mkF m 38 #[.val (.ref a), .val (.ref ef), .val (.long pr), .second, .val (.ref nm)] [(.ref qF), (.ref ef)])) X22 hx rfl rfl rfl (pc0 := 38) (pc' := 41) (same := true) rfl (hb hby d_prog_9_method_3_code_38) rfl (decide_eq_true (congrArg Value.ref hc38_23)) (by decide) (by decide) ?_
          show Steps _ _ _ (T22.setTop (mkF m 41 #[.val (.ref a), .val (.ref ef), .val (.long pr), .second, .val (.ref nm)] [])) _
          refine XS.aloadN X22.here hx rfl (hb hby d_prog_9_method_3_code_41) rfl rfl ?_
          show Steps _ _ _ (T22.setTop (mkF m 42 #[.val (.ref a), .val (.ref ef), .val (.long pr), .second, .val (.ref nm)] [(.ref a)])) _
          refine XS.aloadN X22.here hx rfl (hb hby d_prog_9_method_3_code_42) rfl rfl ?_
          show Steps _ _ _ (T22.setTop (mkF m 43 #[.val (.ref a), .val (.ref ef), .val (.long pr), .second, .val (.ref nm)] [(.ref a), (.ref a)])) _
          exact hq)
        obtain ⟨T25, X25, e25, st25⟩ := getF X22 hx hZ hown (host := "") (Or.inl (hw _ (List.mem_of_getElem? (i := 53) rfl))) Via.refl e22 F19 (g := (mkF m 43 #[.val (.ref a), .val (.ref ef), .val (.long pr), .second, .val (.ref nm)] [(.ref a), (.ref a)])) rfl rfl (hb hby d_prog_9_method_3_code_43)
        have k25 : To p.tables e below S0 (T25.setTop (mkF m 46 #[.val (.ref a), .val (.ref ef), .val (.long pr), .second, .val (.ref nm)] [.null, (.ref a)])) := fun tt hq => k24 tt (st25 tt hq)
        have k26 : To p.tables e below S0 (T25.setTop (mkF m 48 #[.val (.ref a), .val (.ref ef), .val (.long pr), .second, .val (.ref nm)] [(.ref nm), .null, (.ref a)])) := fun tt hq => k25 tt (by
          show Steps _ _ _ (T25.setTop (mkF m 46 #[.val (.ref a), .val (.ref ef), .val (.long pr), .second, .val (.ref nm)] [.null, (.ref a)])) _
          refine XS.aload X25.here hx rfl (hb hby d_prog_9_method_3_code_46) rfl rfl ?_
          show Steps _ _ _ (T25.setTop (mkF m 48 #[.val (.ref a), .val (.ref ef), .val (.long pr), .second, .val (.ref nm)] [(.ref nm), .null, (.ref a)])) _
          exact hq)
        have f27 : Sm Z h19 nm := (smWr (smWr (smWr sn W11 P0 (hw _ (List.mem_of_getElem? (i := 37) rfl))) W15 f12 (hw _ (List.mem_of_getElem? (i := 37) rfl))) W19 f16 (hw _ (List.mem_of_getElem? (i := 37) rfl)))
        obtain ⟨_, T28, L28, X28, ⟨x28, rfl, Nq28, eq28, sx28⟩, k28a⟩ := callS' X25 hx hZ (y := (⟨"com/example/huntaway/huntaway/CodePointOrder", "min", "(Ljava/lang/String;Ljava/lang/String;)Ljava/lang/String;"⟩ : MethodName)) hown (hw _ (List.mem_of_getElem? (i := 63) rfl)) (hw _ (List.mem_of_getElem? (i := 64) rfl)) (hw _ (List.mem_of_getElem? (i := 65) rfl)) (hw _ (List.mem_of_getElem? (i := 66) rfl)) (by decide) (backC (W := 1) (rm_minN l Z a0 hw zc fm qF qP qI nm h19 n0 (by omega) S_c hzc S_f hfm S_F S_P S_I A_I f20 f27) hZ (hw _ (List.mem_of_getElem? (i := 66) rfl)) (hw _ (List.mem_of_getElem? (i := 65) rfl)) (by decide) (by decide)) e25 (argsL := [.null, (.ref nm)]) (rest := [(.ref a)]) rfl rfl pd_12 rfl (by rw [hml]; rfl) (hb hby d_prog_9_method_3_code_48) (Nat.le_of_eq rfl) (by decide) (by decide) k26
        have k28 : To p.tables e below S0 (T28.setTop (mkF m 51 #[.val (.ref a), .val (.ref ef), .val (.long pr), .second, .val (.ref nm)] [(.ref x28), (.ref a)])) := k28a
        have N28 := N19.app Nq28
        have e28 : T28.heap = h19 := eq28
        have f29 : Exa Z h19 a "com/example/huntaway/huntaway/Precedence" := (f16.wr W19)
        obtain ⟨T30, h30, X30, e30, W30, st30⟩ := putF X28 hx hZ hown (host := "") (Or.inl (hw _ (List.mem_of_getElem? (i := 53) rfl))) Via.refl e28 F19 f29 (Or.inl (hw _ (List.mem_of_getElem? (i := 54) rfl))) (hw _ (List.mem_of_getElem? (i := 37) rfl)) (ty := (.object "java/lang/String")) (by decide) rfl rfl (g := (mkF m 51 #[.val (.ref a), .val (.ref ef), .val (.long pr), .second, .val (.ref nm)] [(.ref x28), (.ref a)])) rfl rfl (hb hby d_prog_9_method_3_code_51)
        have k30 : To p.tables e below S0 (T30.setTop (mkF m 54 #[.val (.ref a), .val (.ref ef), .val (.long pr), .second, .val (.ref nm)] [])) := fun tt hq => k28 tt (st30 tt hq)
        have z30 : h30.size = h19.size := W30.size
        have F30 := F19.same W30
        have N30 := Fr.snoc X30 N28 (by omega : n0 ≤ a)
        have k31 : To p.tables e below S0 (T30.setTop (mkF m 70 #[.val (.ref a), .val (.ref ef), .val (.long pr), .second, .val (.ref nm)] [])) := fun tt hq => k30 tt (by
          show Steps _ _ _ (T30.setTop (mkF m 54 #[.val (.ref a), .val (.ref ef), .val (.long pr), .second, .val (.ref nm)] [])) _
          refine XS.goto X30.here hx rfl (pc0 := 54) (pc' := 70) rfl (hb hby d_prog_9_method_3_code_54) (by decide) (by decide) ?_
          show Steps _ _ _ (T30.setTop (mkF m 70 #[.val (.ref a), .val (.ref ef), .val (.long pr), .second, .val (.ref nm)] [])) _
          exact hq)
        have f32 : Sm Z h30 x28 := (smWr sx28 W30 f29 (hw _ (List.mem_of_getElem? (i := 37) rfl)))
        have f33 : Exa Z h30 a "com/example/huntaway/huntaway/Precedence" := (f29.wr W30)
        have f34 : Fld Z h30 a "com/example/huntaway/huntaway/Precedence" "highest" "J" (.long pr) := (((F11.other W15 (Or.inr (slot_ne (Or.inl (hw _ (List.mem_of_getElem? (i := 45) rfl))) (Or.inl (hw _ (List.mem_of_getElem? (i := 52) rfl))) (by decide) (t := .long) (t' := (.object "java/lang/String")) (by decide) (by decide)))).other W19 (Or.inr (slot_ne (Or.inl (hw _ (List.mem_of_getElem? (i := 45) rfl))) (Or.inl (hw _ (List.mem_of_getElem? (i := 54) rfl))) (by decide) (t := .long) (t' := (.object "java/lang/String")) (by decide) (by decide)))).other W30 (Or.inr (slot_ne (Or.inl (hw _ (List.mem_of_getElem? (i := 45) rfl))) (Or.inl (hw _ (List.mem_of_getElem? (i := 54) rfl))) (by decide) (t := .long) (t' := (.object "java/lang/String")) (by decide) (by decide))))
        have f35 : Fld Z h30 a "com/example/huntaway/huntaway/Precedence" "permitting" "Ljava/lang/String;" .null := ((F15.other W19 (Or.inr (slot_ne (Or.inl (hw _ (List.mem_of_getElem? (i := 52) rfl))) (Or.inl (hw _ (List.mem_of_getElem? (i := 54) rfl))) (by decide) (t := (.object "java/lang/String")) (t' := (.object "java/lang/String")) (by decide) (by decide)))).other W30 (Or.inr (slot_ne (Or.inl (hw _ (List.mem_of_getElem? (i := 52) rfl))) (Or.inl (hw _ (List.mem_of_getElem? (i := 54) rfl))) (by decide) (t := (.object "java/lang/String")) (t' := (.object "java/lang/String")) (by decide) (by decide))))
        have hE := e30
        refine retVoid X30 hx hret hlk (hb hby d_prog_9_method_3_code_70) k31 ?_ (by decide) (by decide)
        try rw [hE]
        exact ⟨rfl, N30, (((((Keep.refl h0 [a]).wr W11 (Or.inl (by simp))).wr W15 (Or.inl (by simp))).wr W19 (Or.inl (by simp))).wr W30 (Or.inl (by simp))), f33, _, _, _, f34, f35, F30, (Or.inl rfl), (Or.inr ⟨_, rfl, f32⟩), by simp⟩
      · -- pc 38, holds not
        have f36 : Fld Z h19 a "com/example/huntaway/huntaway/Precedence" "permitting" "Ljava/lang/String;" .null := (F15.other W19 (Or.inr (slot_ne (Or.inl (hw _ (List.mem_of_getElem? (i := 52) rfl))) (Or.inl (hw _ (List.mem_of_getElem? (i := 54) rfl))) (by decide) (t := (.object "java/lang/String")) (t' := (.object "java/lang/String")) (by decide) (by decide))))
        have k37 : To p.tables e below S0 (T22.setTop (mkF m 59 #[.val (.ref a), .val (.ref ef), .val (.long pr), .second, .val (.ref nm)] [(.ref a), (.ref a)])) := fun tt hq => k22 tt (by
          show Steps _ _ _ (T22.setTop (mkF m 38 #[.val (.ref a), .val (.ref ef), .val (.long pr), .second, .val (.ref nm)] [(.ref qF), (.ref ef)])) _
          refine Jvm.RoadKit.acmp (g := (mkF m 38 #[.val (.ref a), .val (.ref ef), .val (.long pr), .second, .val (.ref nm)] [(.ref qF), (.ref ef)])) X22 hx rfl rfl rfl (pc0 := 38) (pc' := 57) (same := false) rfl (hb hby d_prog_9_method_3_code_38) rfl (decide_eq_false fun q => hc38_23 (Value.ref.inj q)) (by decide) (by decide) ?_
          show Steps _ _ _ (T22.setTop (mkF m 57 #[.val (.ref a), .val (.ref ef), .val (.long pr), .second, .val (.ref nm)] [])) _
          refine XS.aloadN X22.here hx rfl (hb hby d_prog_9_method_3_code_57) rfl rfl ?_
          show Steps _ _ _ (T22.setTop (mkF m 58 #[.val (.ref a), .val (.ref ef), .val (.long pr), .second, .val (.ref nm)] [(.ref a)])) _
          refine XS.aloadN X22.here hx rfl (hb hby d_prog_9_method_3_code_58) rfl rfl ?_
          show Steps _ _ _ (T22.setTop (mkF m 59 #[.val (.ref a), .val (.ref ef), .val (.long pr), .second, .val (.ref nm)] [(.ref a), (.ref a)])) _
          exact hq)
        obtain ⟨T38, X38, e38, st38⟩ := getF X22 hx hZ hown (host := "") (Or.inl (hw _ (List.mem_of_getElem? (i := 51) rfl))) Via.refl e22 f36 (g := (mkF m 59 #[.val (.ref a), .val (.ref ef), .val (.long pr), .second, .val (.ref nm)] [(.ref a), (.ref a)])) rfl rfl (hb hby d_prog_9_method_3_code_59)
        have k38 : To p.tables e below S0 (T38.setTop (mkF m 62 #[.val (.ref a), .val (.ref ef), .val (.long pr), .second, .val (.ref nm)] [.null, (.ref a)])) := fun tt hq => k37 tt (st38 tt hq)
        have k39 : To p.tables e below S0 (T38.setTop (mkF m 64 #[.val (.ref a), .val (.ref ef), .val (.long pr), .second, .val (.ref nm)] [(.ref nm), .null, (.ref a)])) := fun tt hq => k38 tt (by
          show Steps _ _ _ (T38.setTop (mkF m 62 #[.val (.ref a), .val (.ref ef), .val (.long pr), .second, .val (.ref nm)] [.null, (.ref a)])) _
          refine XS.aload X38.here hx rfl (hb hby d_prog_9_method_3_code_62) rfl rfl ?_
          show Steps _ _ _ (T38.setTop (mkF m 64 #[.val (.ref a), .val (.ref ef), .val (.long pr), .second, .val (.ref nm)] [(.ref nm), .null, (.ref a)])) _
          exact hq)
        have f40 : Sm Z h19 nm := (smWr (smWr (smWr sn W11 P0 (hw _ (List.mem_of_getElem? (i := 37) rfl))) W15 f12 (hw _ (List.mem_of_getElem? (i := 37) rfl))) W19 f16 (hw _ (List.mem_of_getElem? (i := 37) rfl)))
        obtain ⟨_, T41, L41, X41, ⟨x41, rfl, Nq41, eq41, sx41⟩, k41a⟩ := callS' X38 hx hZ (y := (⟨"com/example/huntaway/huntaway/CodePointOrder", "min", "(Ljava/lang/String;Ljava/lang/String;)Ljava/lang/String;"⟩ : MethodName)) hown (hw _ (List.mem_of_getElem? (i := 63) rfl)) (hw _ (List.mem_of_getElem? (i := 64) rfl)) (hw _ (List.mem_of_getElem? (i := 65) rfl)) (hw _ (List.mem_of_getElem? (i := 66) rfl)) (by decide) (backC (W := 1) (rm_minN l Z a0 hw zc fm qF qP qI nm h19 n0 (by omega) S_c hzc S_f hfm S_F S_P S_I A_I f20 f40) hZ (hw _ (List.mem_of_getElem? (i := 66) rfl)) (hw _ (List.mem_of_getElem? (i := 65) rfl)) (by decide) (by decide)) e38 (argsL := [.null, (.ref nm)]) (rest := [(.ref a)]) rfl rfl pd_12 rfl (by rw [hml]; rfl) (hb hby d_prog_9_method_3_code_64) (Nat.le_of_eq rfl) (by decide) (by decide) k39
        have k41 : To p.tables e below S0 (T41.setTop (mkF m 67 #[.val (.ref a), .val (.ref ef), .val (.long pr), .second, .val (.ref nm)] [(.ref x41), (.ref a)])) := k41a
        have N41 := N19.app Nq41
        have e41 : T41.heap = h19 := eq41
        have f42 : Exa Z h19 a "com/example/huntaway/huntaway/Precedence" := (f16.wr W19)
        obtain ⟨T43, h43, X43, e43, W43, st43⟩ := putF X41 hx hZ hown (host := "") (Or.inl (hw _ (List.mem_of_getElem? (i := 51) rfl))) Via.refl e41 f36 f42 (Or.inl (hw _ (List.mem_of_getElem? (i := 52) rfl))) (hw _ (List.mem_of_getElem? (i := 37) rfl)) (ty := (.object "java/lang/String")) (by decide) rfl rfl (g := (mkF m 67 #[.val (.ref a), .val (.ref ef), .val (.long pr), .second, .val (.ref nm)] [(.ref x41), (.ref a)])) rfl rfl (hb hby d_prog_9_method_3_code_67)
        have k43 : To p.tables e below S0 (T43.setTop (mkF m 70 #[.val (.ref a), .val (.ref ef), .val (.long pr), .second, .val (.ref nm)] [])) := fun tt hq => k41 tt (st43 tt hq)
        have z43 : h43.size = h19.size := W43.size
        have F43 := f36.same W43
        have N43 := Fr.snoc X43 N41 (by omega : n0 ≤ a)
        have f44 : Sm Z h43 x41 := (smWr sx41 W43 f42 (hw _ (List.mem_of_getElem? (i := 37) rfl)))
        have f45 : Exa Z h43 a "com/example/huntaway/huntaway/Precedence" := (f42.wr W43)
        have f46 : Fld Z h43 a "com/example/huntaway/huntaway/Precedence" "highest" "J" (.long pr) := (((F11.other W15 (Or.inr (slot_ne (Or.inl (hw _ (List.mem_of_getElem? (i := 45) rfl))) (Or.inl (hw _ (List.mem_of_getElem? (i := 52) rfl))) (by decide) (t := .long) (t' := (.object "java/lang/String")) (by decide) (by decide)))).other W19 (Or.inr (slot_ne (Or.inl (hw _ (List.mem_of_getElem? (i := 45) rfl))) (Or.inl (hw _ (List.mem_of_getElem? (i := 54) rfl))) (by decide) (t := .long) (t' := (.object "java/lang/String")) (by decide) (by decide)))).other W43 (Or.inr (slot_ne (Or.inl (hw _ (List.mem_of_getElem? (i := 45) rfl))) (Or.inl (hw _ (List.mem_of_getElem? (i := 52) rfl))) (by decide) (t := .long) (t' := (.object "java/lang/String")) (by decide) (by decide))))
        have f47 : Fld Z h43 a "com/example/huntaway/huntaway/Precedence" "forbidding" "Ljava/lang/String;" .null := (F19.other W43 (Or.inr (slot_ne (Or.inl (hw _ (List.mem_of_getElem? (i := 54) rfl))) (Or.inl (hw _ (List.mem_of_getElem? (i := 52) rfl))) (by decide) (t := (.object "java/lang/String")) (t' := (.object "java/lang/String")) (by decide) (by decide))))
        have hE := e43
        refine retVoid X43 hx hret hlk (hb hby d_prog_9_method_3_code_70) k43 ?_ (by decide) (by decide)
        try rw [hE]
        exact ⟨rfl, N43, (((((Keep.refl h0 [a]).wr W11 (Or.inl (by simp))).wr W15 (Or.inl (by simp))).wr W19 (Or.inl (by simp))).wr W43 (Or.inl (by simp))), f45, _, _, _, f46, F43, f47, (Or.inr ⟨_, rfl, f44⟩), (Or.inl rfl), by simp⟩
    · -- pc 16, holds not
      have k48 : To p.tables e below S0 (T7.setTop (mkF m 35 #[.val (.ref a), .val (.ref ef), .val (.long pr), .second, .val (.ref nm)] [(.ref ef)])) := fun tt hq => k8 tt (by
        show Steps _ _ _ (T7.setTop (mkF m 16 #[.val (.ref a), .val (.ref ef), .val (.long pr), .second, .val (.ref nm)] [(.int (lcmpW pr hi))])) _
        refine XS.ifYes X7.here hx rfl (pc0 := 16) (pc' := 34) rfl (hb hby d_prog_9_method_3_code_16) rfl ((if0 _ _).trans (flt hc16_9).2.2.2) (by decide) (by decide) ?_
        show Steps _ _ _ (T7.setTop (mkF m 34 #[.val (.ref a), .val (.ref ef), .val (.long pr), .second, .val (.ref nm)] [])) _
        refine XS.aloadN X7.here hx rfl (hb hby d_prog_9_method_3_code_34) rfl rfl ?_
        show Steps _ _ _ (T7.setTop (mkF m 35 #[.val (.ref a), .val (.ref ef), .val (.long pr), .second, .val (.ref nm)] [(.ref ef)])) _
        exact hq)
      obtain ⟨T49, X49, e49, st49⟩ := getS2 X7 hx hZ hown (host := "") (Or.inl (hw _ (List.mem_of_getElem? (i := 62) rfl))) Via.refl e7 (staOld S_F O0) (g := (mkF m 35 #[.val (.ref a), .val (.ref ef), .val (.long pr), .second, .val (.ref nm)] [(.ref ef)])) rfl (hb hby d_prog_9_method_3_code_35)
      have k49 : To p.tables e below S0 (T49.setTop (mkF m 38 #[.val (.ref a), .val (.ref ef), .val (.long pr), .second, .val (.ref nm)] [(.ref qF), (.ref ef)])) := fun tt hq => k48 tt (st49 tt hq)
      by_cases hc38_50 : ef = qF
      · -- pc 38, holds
        have k51 : To p.tables e below S0 (T49.setTop (mkF m 43 #[.val (.ref a), .val (.ref ef), .val (.long pr), .second, .val (.ref nm)] [(.ref a), (.ref a)])) := fun tt hq => k49 tt (by
          show Steps _ _ _ (T49.setTop (mkF m 38 #[.val (.ref a), .val (.ref ef), .val (.long pr), .second, .val (.ref nm)] [(.ref qF), (.ref ef)])) _
          refine Jvm.RoadKit.acmp (g := (mkF m 38 #[.val (.ref a), .val (.ref ef), .val (.long pr), .second, .val (.ref nm)] [(.ref qF), (.ref ef)])) X49 hx rfl rfl rfl (pc0 := 38) (pc' := 41) (same := true) rfl (hb hby d_prog_9_method_3_code_38) rfl (decide_eq_true (congrArg Value.ref hc38_50)) (by decide) (by decide) ?_
          show Steps _ _ _ (T49.setTop (mkF m 41 #[.val (.ref a), .val (.ref ef), .val (.long pr), .second, .val (.ref nm)] [])) _
          refine XS.aloadN X49.here hx rfl (hb hby d_prog_9_method_3_code_41) rfl rfl ?_
          show Steps _ _ _ (T49.setTop (mkF m 42 #[.val (.ref a), .val (.ref ef), .val (.long pr), .second, .val (.ref nm)] [(.ref a)])) _
          refine XS.aloadN X49.here hx rfl (hb hby d_prog_9_method_3_code_42) rfl rfl ?_
          show Steps _ _ _ (T49.setTop (mkF m 43 #[.val (.ref a), .val (.ref ef), .val (.long pr), .second, .val (.ref nm)] [(.ref a), (.ref a)])) _
          exact hq)
        obtain ⟨T52, X52, e52, st52⟩ := getF X49 hx hZ hown (host := "") (Or.inl (hw _ (List.mem_of_getElem? (i := 53) rfl))) Via.refl e49 P3 (g := (mkF m 43 #[.val (.ref a), .val (.ref ef), .val (.long pr), .second, .val (.ref nm)] [(.ref a), (.ref a)])) rfl rfl (hb hby d_prog_9_method_3_code_43)
        have k52 : To p.tables e below S0 (T52.setTop (mkF m 46 #[.val (.ref a), .val (.ref ef), .val (.long pr), .second, .val (.ref nm)] [(.ref o2), (.ref a)])) := fun tt hq => k51 tt (st52 tt hq)
        have k53 : To p.tables e below S0 (T52.setTop (mkF m 48 #[.val (.ref a), .val (.ref ef), .val (.long pr), .second, .val (.ref nm)] [(.ref nm), (.ref o2), (.ref a)])) := fun tt hq => k52 tt (by
          show Steps _ _ _ (T52.setTop (mkF m 46 #[.val (.ref a), .val (.ref ef), .val (.long pr), .second, .val (.ref nm)] [(.ref o2), (.ref a)])) _
          refine XS.aload X52.here hx rfl (hb hby d_prog_9_method_3_code_46) rfl rfl ?_
          show Steps _ _ _ (T52.setTop (mkF m 48 #[.val (.ref a), .val (.ref ef), .val (.long pr), .second, .val (.ref nm)] [(.ref nm), (.ref o2), (.ref a)])) _
          exact hq)
        obtain ⟨_, T54, L54, X54, ⟨x54, rfl, Nq54, eq54, sx54⟩, k54a⟩ := callS' X52 hx hZ (y := (⟨"com/example/huntaway/huntaway/CodePointOrder", "min", "(Ljava/lang/String;Ljava/lang/String;)Ljava/lang/String;"⟩ : MethodName)) hown (hw _ (List.mem_of_getElem? (i := 63) rfl)) (hw _ (List.mem_of_getElem? (i := 64) rfl)) (hw _ (List.mem_of_getElem? (i := 65) rfl)) (hw _ (List.mem_of_getElem? (i := 66) rfl)) (by decide) (backC (W := 1) (rm_minR l Z a0 hw zc fm qF qP qI o2 nm h0 n0 (by omega) S_c hzc S_f hfm S_F S_P S_I A_I O0 so2 sn) hZ (hw _ (List.mem_of_getElem? (i := 66) rfl)) (hw _ (List.mem_of_getElem? (i := 65) rfl)) (by decide) (by decide)) e52 (argsL := [(.ref o2), (.ref nm)]) (rest := [(.ref a)]) rfl rfl pd_12 rfl (by rw [hml]; rfl) (hb hby d_prog_9_method_3_code_48) (Nat.le_of_eq rfl) (by decide) (by decide) k53
        have k54 : To p.tables e below S0 (T54.setTop (mkF m 51 #[.val (.ref a), .val (.ref ef), .val (.long pr), .second, .val (.ref nm)] [(.ref x54), (.ref a)])) := k54a
        have N54 := N0.app Nq54
        have e54 : T54.heap = h0 := eq54
        obtain ⟨T55, h55, X55, e55, W55, st55⟩ := putF X54 hx hZ hown (host := "") (Or.inl (hw _ (List.mem_of_getElem? (i := 53) rfl))) Via.refl e54 P3 P0 (Or.inl (hw _ (List.mem_of_getElem? (i := 54) rfl))) (hw _ (List.mem_of_getElem? (i := 37) rfl)) (ty := (.object "java/lang/String")) (by decide) rfl rfl (g := (mkF m 51 #[.val (.ref a), .val (.ref ef), .val (.long pr), .second, .val (.ref nm)] [(.ref x54), (.ref a)])) rfl rfl (hb hby d_prog_9_method_3_code_51)
        have k55 : To p.tables e below S0 (T55.setTop (mkF m 54 #[.val (.ref a), .val (.ref ef), .val (.long pr), .second, .val (.ref nm)] [])) := fun tt hq => k54 tt (st55 tt hq)
        have z55 : h55.size = h0.size := W55.size
        have F55 := P3.same W55
        have N55 := Fr.snoc X55 N54 (by omega : n0 ≤ a)
        have k56 : To p.tables e below S0 (T55.setTop (mkF m 70 #[.val (.ref a), .val (.ref ef), .val (.long pr), .second, .val (.ref nm)] [])) := fun tt hq => k55 tt (by
          show Steps _ _ _ (T55.setTop (mkF m 54 #[.val (.ref a), .val (.ref ef), .val (.long pr), .second, .val (.ref nm)] [])) _
          refine XS.goto X55.here hx rfl (pc0 := 54) (pc' := 70) rfl (hb hby d_prog_9_method_3_code_54) (by decide) (by decide) ?_
          show Steps _ _ _ (T55.setTop (mkF m 70 #[.val (.ref a), .val (.ref ef), .val (.long pr), .second, .val (.ref nm)] [])) _
          exact hq)
        have f57 : Sm Z h55 x54 := (smWr sx54 W55 P0 (hw _ (List.mem_of_getElem? (i := 37) rfl)))
        have f58 : Exa Z h55 a "com/example/huntaway/huntaway/Precedence" := (P0.wr W55)
        have f59 : Fld Z h55 a "com/example/huntaway/huntaway/Precedence" "highest" "J" (.long hi) := (P1.other W55 (Or.inr (slot_ne (Or.inl (hw _ (List.mem_of_getElem? (i := 45) rfl))) (Or.inl (hw _ (List.mem_of_getElem? (i := 54) rfl))) (by decide) (t := .long) (t' := (.object "java/lang/String")) (by decide) (by decide))))
        have f60 : Fld Z h55 a "com/example/huntaway/huntaway/Precedence" "permitting" "Ljava/lang/String;" .null := (P2.other W55 (Or.inr (slot_ne (Or.inl (hw _ (List.mem_of_getElem? (i := 52) rfl))) (Or.inl (hw _ (List.mem_of_getElem? (i := 54) rfl))) (by decide) (t := (.object "java/lang/String")) (t' := (.object "java/lang/String")) (by decide) (by decide))))
        have hE := e55
        refine retVoid X55 hx hret hlk (hb hby d_prog_9_method_3_code_70) k56 ?_ (by decide) (by decide)
        try rw [hE]
        exact ⟨rfl, N55, ((Keep.refl h0 [a]).wr W55 (Or.inl (by simp))), f58, _, _, _, f59, f60, F55, (Or.inl rfl), (Or.inr ⟨_, rfl, f57⟩), by simp⟩
      · -- pc 38, holds not
        have k61 : To p.tables e below S0 (T49.setTop (mkF m 59 #[.val (.ref a), .val (.ref ef), .val (.long pr), .second, .val (.ref nm)] [(.ref a), (.ref a)])) := fun tt hq => k49 tt (by
          show Steps _ _ _ (T49.setTop (mkF m 38 #[.val (.ref a), .val (.ref ef), .val (.long pr), .second, .val (.ref nm)] [(.ref qF), (.ref ef)])) _
          refine Jvm.RoadKit.acmp (g := (mkF m 38 #[.val (.ref a), .val (.ref ef), .val (.long pr), .second, .val (.ref nm)] [(.ref qF), (.ref ef)])) X49 hx rfl rfl rfl (pc0 := 38) (pc' := 57) (same := false) rfl (hb hby d_prog_9_method_3_code_38) rfl (decide_eq_false fun q => hc38_50 (Value.ref.inj q)) (by decide) (by decide) ?_
          show Steps _ _ _ (T49.setTop (mkF m 57 #[.val (.ref a), .val (.ref ef), .val (.long pr), .second, .val (.ref nm)] [])) _
          refine XS.aloadN X49.here hx rfl (hb hby d_prog_9_method_3_code_57) rfl rfl ?_
          show Steps _ _ _ (T49.setTop (mkF m 58 #[.val (.ref a), .val (.ref ef), .val (.long pr), .second, .val (.ref nm)] [(.ref a)])) _
          refine XS.aloadN X49.here hx rfl (hb hby d_prog_9_method_3_code_58) rfl rfl ?_
          show Steps _ _ _ (T49.setTop (mkF m 59 #[.val (.ref a), .val (.ref ef), .val (.long pr), .second, .val (.ref nm)] [(.ref a), (.ref a)])) _
          exact hq)
        obtain ⟨T62, X62, e62, st62⟩ := getF X49 hx hZ hown (host := "") (Or.inl (hw _ (List.mem_of_getElem? (i := 51) rfl))) Via.refl e49 P2 (g := (mkF m 59 #[.val (.ref a), .val (.ref ef), .val (.long pr), .second, .val (.ref nm)] [(.ref a), (.ref a)])) rfl rfl (hb hby d_prog_9_method_3_code_59)
        have k62 : To p.tables e below S0 (T62.setTop (mkF m 62 #[.val (.ref a), .val (.ref ef), .val (.long pr), .second, .val (.ref nm)] [.null, (.ref a)])) := fun tt hq => k61 tt (st62 tt hq)
        have k63 : To p.tables e below S0 (T62.setTop (mkF m 64 #[.val (.ref a), .val (.ref ef), .val (.long pr), .second, .val (.ref nm)] [(.ref nm), .null, (.ref a)])) := fun tt hq => k62 tt (by
          show Steps _ _ _ (T62.setTop (mkF m 62 #[.val (.ref a), .val (.ref ef), .val (.long pr), .second, .val (.ref nm)] [.null, (.ref a)])) _
          refine XS.aload X62.here hx rfl (hb hby d_prog_9_method_3_code_62) rfl rfl ?_
          show Steps _ _ _ (T62.setTop (mkF m 64 #[.val (.ref a), .val (.ref ef), .val (.long pr), .second, .val (.ref nm)] [(.ref nm), .null, (.ref a)])) _
          exact hq)
        obtain ⟨_, T64, L64, X64, ⟨x64, rfl, Nq64, eq64, sx64⟩, k64a⟩ := callS' X62 hx hZ (y := (⟨"com/example/huntaway/huntaway/CodePointOrder", "min", "(Ljava/lang/String;Ljava/lang/String;)Ljava/lang/String;"⟩ : MethodName)) hown (hw _ (List.mem_of_getElem? (i := 63) rfl)) (hw _ (List.mem_of_getElem? (i := 64) rfl)) (hw _ (List.mem_of_getElem? (i := 65) rfl)) (hw _ (List.mem_of_getElem? (i := 66) rfl)) (by decide) (backC (W := 1) (rm_minN l Z a0 hw zc fm qF qP qI nm h0 n0 (by omega) S_c hzc S_f hfm S_F S_P S_I A_I O0 sn) hZ (hw _ (List.mem_of_getElem? (i := 66) rfl)) (hw _ (List.mem_of_getElem? (i := 65) rfl)) (by decide) (by decide)) e62 (argsL := [.null, (.ref nm)]) (rest := [(.ref a)]) rfl rfl pd_12 rfl (by rw [hml]; rfl) (hb hby d_prog_9_method_3_code_64) (Nat.le_of_eq rfl) (by decide) (by decide) k63
        have k64 : To p.tables e below S0 (T64.setTop (mkF m 67 #[.val (.ref a), .val (.ref ef), .val (.long pr), .second, .val (.ref nm)] [(.ref x64), (.ref a)])) := k64a
        have N64 := N0.app Nq64
        have e64 : T64.heap = h0 := eq64
        obtain ⟨T65, h65, X65, e65, W65, st65⟩ := putF X64 hx hZ hown (host := "") (Or.inl (hw _ (List.mem_of_getElem? (i := 51) rfl))) Via.refl e64 P2 P0 (Or.inl (hw _ (List.mem_of_getElem? (i := 52) rfl))) (hw _ (List.mem_of_getElem? (i := 37) rfl)) (ty := (.object "java/lang/String")) (by decide) rfl rfl (g := (mkF m 67 #[.val (.ref a), .val (.ref ef), .val (.long pr), .second, .val (.ref nm)] [(.ref x64), (.ref a)])) rfl rfl (hb hby d_prog_9_method_3_code_67)
        have k65 : To p.tables e below S0 (T65.setTop (mkF m 70 #[.val (.ref a), .val (.ref ef), .val (.long pr), .second, .val (.ref nm)] [])) := fun tt hq => k64 tt (st65 tt hq)
        have z65 : h65.size = h0.size := W65.size
        have F65 := P2.same W65
        have N65 := Fr.snoc X65 N64 (by omega : n0 ≤ a)
        have f66 : Sm Z h65 x64 := (smWr sx64 W65 P0 (hw _ (List.mem_of_getElem? (i := 37) rfl)))
        have f67 : Sm Z h65 o2 := (smWr so2 W65 P0 (hw _ (List.mem_of_getElem? (i := 37) rfl)))
        have f68 : Exa Z h65 a "com/example/huntaway/huntaway/Precedence" := (P0.wr W65)
        have f69 : Fld Z h65 a "com/example/huntaway/huntaway/Precedence" "highest" "J" (.long hi) := (P1.other W65 (Or.inr (slot_ne (Or.inl (hw _ (List.mem_of_getElem? (i := 45) rfl))) (Or.inl (hw _ (List.mem_of_getElem? (i := 52) rfl))) (by decide) (t := .long) (t' := (.object "java/lang/String")) (by decide) (by decide))))
        have f70 : Fld Z h65 a "com/example/huntaway/huntaway/Precedence" "forbidding" "Ljava/lang/String;" (.ref o2) := (P3.other W65 (Or.inr (slot_ne (Or.inl (hw _ (List.mem_of_getElem? (i := 54) rfl))) (Or.inl (hw _ (List.mem_of_getElem? (i := 52) rfl))) (by decide) (t := (.object "java/lang/String")) (t' := (.object "java/lang/String")) (by decide) (by decide))))
        have hE := e65
        refine retVoid X65 hx hret hlk (hb hby d_prog_9_method_3_code_70) k65 ?_ (by decide) (by decide)
        try rw [hE]
        exact ⟨rfl, N65, ((Keep.refl h0 [a]).wr W65 (Or.inl (by simp))), f68, _, _, _, f69, F65, f70, (Or.inr ⟨_, rfl, f66⟩), (Or.inr ⟨_, rfl, f67⟩), by simp⟩
set_option maxRecDepth 65536 in
set_option maxHeartbeats 40000000 in
theorem rm_offRN (l : Launch) (Z : State) (a0 : Array Value) (hw : ∀ d ∈ tables_1, d.before a0 Z = true) (zc : Int32) (fm : Value) (qF : Addr) (qP : Addr) (qI : Addr) (a : Addr) (ef : Addr) (pr : Int64) (hi : Int64) (nm : Addr) (o1 : Addr) (h0 : Heap) (n0 : Nat) (hn0 : n0 ≤ h0.size) (S_c : Sta Z Z.heap "java/lang/String" "COMPACT_STRINGS" "Z" (.int zc)) (hzc : ¬ zc = (0 : Int32)) (S_f : Sta Z Z.heap "jdk/internal/util/Preconditions" "SIOOBE_FORMATTER" "Ljava/util/function/BiFunction;" fm) (hfm : fm.isRef = true) (S_F : Sta Z Z.heap "com/example/huntaway/huntaway/Effect" "FORBID" "Lcom/example/huntaway/huntaway/Effect;" (.ref qF)) (S_P : Sta Z Z.heap "com/example/huntaway/huntaway/Effect" "PERMIT" "Lcom/example/huntaway/huntaway/Effect;" (.ref qP)) (S_I : Sta Z Z.heap "com/example/huntaway/huntaway/CodePointOrder" "INSTANCE" "Lcom/example/huntaway/huntaway/CodePointOrder;" (.ref qI)) (A_I : Exa Z Z.heap qI "com/example/huntaway/huntaway/CodePointOrder") (O0 : Old Z n0 h0) (P0 : Exa Z h0 a "com/example/huntaway/huntaway/Precedence") (P1 : Fld Z h0 a "com/example/huntaway/huntaway/Precedence" "highest" "J" (.long hi)) (P2 : Fld Z h0 a "com/example/huntaway/huntaway/Precedence" "permitting" "Ljava/lang/String;" (.ref o1)) (P3 : Fld Z h0 a "com/example/huntaway/huntaway/Precedence" "forbidding" "Ljava/lang/String;" .null) (sn : Sm Z h0 nm) (so1 : Sm Z h0 o1) (ga : n0 ≤ a) :
    Con l Z (⟨"com/example/huntaway/huntaway/Precedence", "offer", "(Lcom/example/huntaway/huntaway/Effect;JLjava/lang/String;)V"⟩ : MethodName) prog_9_method_3_code 5 none [] ({ frames := 5, cells := 0, slots := 0, locals := 73 } : Room) #[(.ref a), (.ref ef), (.long pr), (.ref nm)] h0 (fun v h L => v = none ∧ Fr n0 L ∧ Keep h0 h [a] ∧ Exa Z h a "com/example/huntaway/huntaway/Precedence" ∧ ∃ (hj : Int64) (u1 u2 : Value), Fld Z h a "com/example/huntaway/huntaway/Precedence" "highest" "J" (.long hj) ∧ Fld Z h a "com/example/huntaway/huntaway/Precedence" "permitting" "Ljava/lang/String;" u1 ∧ Fld Z h a "com/example/huntaway/huntaway/Precedence" "forbidding" "Ljava/lang/String;" u2 ∧ Ok Z h u1 ∧ Ok Z h u2 ∧ ¬ (u1 = .null ∧ u2 = .null)) := by
  refine enter (Ls := #[.val (.ref a), .val (.ref ef), .val (.long pr), .second, .val (.ref nm)]) (plainFor_of_name pn_6) (fun m => by exact entry_eq rfl) ?_
  intro p e s m below meth cd_ s₁ S0 hx hby hml hret hlk hnm hown hZ X0 e0 k0
  have N0 := Fr.nil n0
  have k1 : To p.tables e below S0 (s₁.setTop (mkF m 2 #[.val (.ref a), .val (.ref ef), .val (.long pr), .second, .val (.ref nm)] [(.ref a), (.long pr)])) := fun tt hq => k0 tt (by
    show Steps _ _ _ (s₁.setTop (mkF m 0 #[.val (.ref a), .val (.ref ef), .val (.long pr), .second, .val (.ref nm)] [])) _
    refine XS.lloadN X0.here hx rfl (hb hby d_prog_9_method_3_code_0) rfl ?_
    show Steps _ _ _ (s₁.setTop (mkF m 1 #[.val (.ref a), .val (.ref ef), .val (.long pr), .second, .val (.ref nm)] [(.long pr)])) _
    refine XS.aloadN X0.here hx rfl (hb hby d_prog_9_method_3_code_1) rfl rfl ?_
    show Steps _ _ _ (s₁.setTop (mkF m 2 #[.val (.ref a), .val (.ref ef), .val (.long pr), .second, .val (.ref nm)] [(.ref a), (.long pr)])) _
    exact hq)
  obtain ⟨T2, X2, e2, st2⟩ := getF X0 hx hZ hown (host := "") (Or.inl (hw _ (List.mem_of_getElem? (i := 44) rfl))) Via.refl e0 P1 (g := (mkF m 2 #[.val (.ref a), .val (.ref ef), .val (.long pr), .second, .val (.ref nm)] [(.ref a), (.long pr)])) rfl rfl (hb hby d_prog_9_method_3_code_2)
  have k2 : To p.tables e below S0 (T2.setTop (mkF m 5 #[.val (.ref a), .val (.ref ef), .val (.long pr), .second, .val (.ref nm)] [(.long hi), (.long pr)])) := fun tt hq => k1 tt (st2 tt hq)
  have k3 : To p.tables e below S0 (T2.setTop (mkF m 6 #[.val (.ref a), .val (.ref ef), .val (.long pr), .second, .val (.ref nm)] [(.int (lcmpW pr hi))])) := fun tt hq => k2 tt (by
    show Steps _ _ _ (T2.setTop (mkF m 5 #[.val (.ref a), .val (.ref ef), .val (.long pr), .second, .val (.ref nm)] [(.long hi), (.long pr)])) _
    refine XS.lcmp X2.here hx rfl (hb hby d_prog_9_method_3_code_5) rfl ?_
    show Steps _ _ _ (T2.setTop (mkF m 6 #[.val (.ref a), .val (.ref ef), .val (.long pr), .second, .val (.ref nm)] [(.int (lcmpW pr hi))])) _
    exact hq)
  by_cases hc6_4 : (lcmpW pr hi) < (0 : Int32)
  · -- pc 6, holds
    have k5 : To p.tables e below S0 (T2.setTop (mkF m 9 #[.val (.ref a), .val (.ref ef), .val (.long pr), .second, .val (.ref nm)] [])) := fun tt hq => k3 tt (by
      show Steps _ _ _ (T2.setTop (mkF m 6 #[.val (.ref a), .val (.ref ef), .val (.long pr), .second, .val (.ref nm)] [(.int (lcmpW pr hi))])) _
      refine XS.ifNo X2.here hx rfl (hb hby d_prog_9_method_3_code_6) rfl ((if0 _ _).trans (tlt hc6_4).2.1) ?_
      show Steps _ _ _ (T2.setTop (mkF m 9 #[.val (.ref a), .val (.ref ef), .val (.long pr), .second, .val (.ref nm)] [])) _
      exact hq)
    have hE := e2
    refine retVoid X2 hx hret hlk (hb hby d_prog_9_method_3_code_9) k5 ?_ (by decide) (by decide)
    try rw [hE]
    exact ⟨rfl, N0, (Keep.refl h0 [a]), P0, _, _, _, P1, P2, P3, (Or.inr ⟨_, rfl, so1⟩), (Or.inl rfl), by simp⟩
  · -- pc 6, holds not
    have k6 : To p.tables e below S0 (T2.setTop (mkF m 12 #[.val (.ref a), .val (.ref ef), .val (.long pr), .second, .val (.ref nm)] [(.ref a), (.long pr)])) := fun tt hq => k3 tt (by
      show Steps _ _ _ (T2.setTop (mkF m 6 #[.val (.ref a), .val (.ref ef), .val (.long pr), .second, .val (.ref nm)] [(.int (lcmpW pr hi))])) _
      refine XS.ifYes X2.here hx rfl (pc0 := 6) (pc' := 10) rfl (hb hby d_prog_9_method_3_code_6) rfl ((if0 _ _).trans (flt hc6_4).2.1) (by decide) (by decide) ?_
      show Steps _ _ _ (T2.setTop (mkF m 10 #[.val (.ref a), .val (.ref ef), .val (.long pr), .second, .val (.ref nm)] [])) _
      refine XS.lloadN X2.here hx rfl (hb hby d_prog_9_method_3_code_10) rfl ?_
      show Steps _ _ _ (T2.setTop (mkF m 11 #[.val (.ref a), .val (.ref ef), .val (.long pr), .second, .val (.ref nm)] [(.long pr)])) _
      refine XS.aloadN X2.here hx rfl (hb hby d_prog_9_method_3_code_11) rfl rfl ?_
      show Steps _ _ _ (T2.setTop (mkF m 12 #[.val (.ref a), .val (.ref ef), .val (.long pr), .second, .val (.ref nm)] [(.ref a), (.long pr)])) _
      exact hq)
    obtain ⟨T7, X7, e7, st7⟩ := getF X2 hx hZ hown (host := "") (Or.inl (hw _ (List.mem_of_getElem? (i := 44) rfl))) Via.refl e2 P1 (g := (mkF m 12 #[.val (.ref a), .val (.ref ef), .val (.long pr), .second, .val (.ref nm)] [(.ref a), (.long pr)])) rfl rfl (hb hby d_prog_9_method_3_code_12)
    have k7 : To p.tables e below S0 (T7.setTop (mkF m 15 #[.val (.ref a), .val (.ref ef), .val (.long pr), .second, .val (.ref nm)] [(.long hi), (.long pr)])) := fun tt hq => k6 tt (st7 tt hq)
    have k8 : To p.tables e below S0 (T7.setTop (mkF m 16 #[.val (.ref a), .val (.ref ef), .val (.long pr), .second, .val (.ref nm)] [(.int (lcmpW pr hi))])) := fun tt hq => k7 tt (by
      show Steps _ _ _ (T7.setTop (mkF m 15 #[.val (.ref a), .val (.ref ef), .val (.long pr), .second, .val (.ref nm)] [(.long hi), (.long pr)])) _
      refine XS.lcmp X7.here hx rfl (hb hby d_prog_9_method_3_code_15) rfl ?_
      show Steps _ _ _ (T7.setTop (mkF m 16 #[.val (.ref a), .val (.ref ef), .val (.long pr), .second, .val (.ref nm)] [(.int (lcmpW pr hi))])) _
      exact hq)
    by_cases hc16_9 : (0 : Int32) < (lcmpW pr hi)
    · -- pc 16, holds
      have k10 : To p.tables e below S0 (T7.setTop (mkF m 21 #[.val (.ref a), .val (.ref ef), .val (.long pr), .second, .val (.ref nm)] [(.long pr), (.ref a)])) := fun tt hq => k8 tt (by
        show Steps _ _ _ (T7.setTop (mkF m 16 #[.val (.ref a), .val (.ref ef), .val (.long pr), .second, .val (.ref nm)] [(.int (lcmpW pr hi))])) _
        refine XS.ifNo X7.here hx rfl (hb hby d_prog_9_method_3_code_16) rfl ((if0 _ _).trans (tlt hc16_9).2.2.2) ?_
        show Steps _ _ _ (T7.setTop (mkF m 19 #[.val (.ref a), .val (.ref ef), .val (.long pr), .second, .val (.ref nm)] [])) _
        refine XS.aloadN X7.here hx rfl (hb hby d_prog_9_method_3_code_19) rfl rfl ?_
        show Steps _ _ _ (T7.setTop (mkF m 20 #[.val (.ref a), .val (.ref ef), .val (.long pr), .second, .val (.ref nm)] [(.ref a)])) _
        refine XS.lloadN X7.here hx rfl (hb hby d_prog_9_method_3_code_20) rfl ?_
        show Steps _ _ _ (T7.setTop (mkF m 21 #[.val (.ref a), .val (.ref ef), .val (.long pr), .second, .val (.ref nm)] [(.long pr), (.ref a)])) _
        exact hq)
      obtain ⟨T11, h11, X11, e11, W11, st11⟩ := putF X7 hx hZ hown (host := "") (Or.inl (hw _ (List.mem_of_getElem? (i := 44) rfl))) Via.refl e7 P1 P0 (Or.inl (hw _ (List.mem_of_getElem? (i := 45) rfl))) (hw _ (List.mem_of_getElem? (i := 37) rfl)) (ty := .long) (by decide) rfl rfl (g := (mkF m 21 #[.val (.ref a), .val (.ref ef), .val (.long pr), .second, .val (.ref nm)] [(.long pr), (.ref a)])) rfl rfl (hb hby d_prog_9_method_3_code_21)
      have k11 : To p.tables e below S0 (T11.setTop (mkF m 24 #[.val (.ref a), .val (.ref ef), .val (.long pr), .second, .val (.ref nm)] [])) := fun tt hq => k10 tt (st11 tt hq)
      have z11 : h11.size = h0.size := W11.size
      have F11 := P1.same W11
      have N11 := Fr.snoc X11 N0 (by omega : n0 ≤ a)
      have f12 : Exa Z h11 a "com/example/huntaway/huntaway/Precedence" := (P0.wr W11)
      have f13 : Fld Z h11 a "com/example/huntaway/huntaway/Precedence" "permitting" "Ljava/lang/String;" (.ref o1) := (P2.other W11 (Or.inr (slot_ne (Or.inl (hw _ (List.mem_of_getElem? (i := 52) rfl))) (Or.inl (hw _ (List.mem_of_getElem? (i := 45) rfl))) (by decide) (t := (.object "java/lang/String")) (t' := .long) (by decide) (by decide))))
      have k14 : To p.tables e below S0 (T11.setTop (mkF m 26 #[.val (.ref a), .val (.ref ef), .val (.long pr), .second, .val (.ref nm)] [.null, (.ref a)])) := fun tt hq => k11 tt (by
        show Steps _ _ _ (T11.setTop (mkF m 24 #[.val (.ref a), .val (.ref ef), .val (.long pr), .second, .val (.ref nm)] [])) _
        refine XS.aloadN X11.here hx rfl (hb hby d_prog_9_method_3_code_24) rfl rfl ?_
        show Steps _ _ _ (T11.setTop (mkF m 25 #[.val (.ref a), .val (.ref ef), .val (.long pr), .second, .val (.ref nm)] [(.ref a)])) _
        refine XS.aconstNull X11.here hx rfl (hb hby d_prog_9_method_3_code_25) ?_
        show Steps _ _ _ (T11.setTop (mkF m 26 #[.val (.ref a), .val (.ref ef), .val (.long pr), .second, .val (.ref nm)] [.null, (.ref a)])) _
        exact hq)
      obtain ⟨T15, h15, X15, e15, W15, st15⟩ := putF X11 hx hZ hown (host := "") (Or.inl (hw _ (List.mem_of_getElem? (i := 51) rfl))) Via.refl e11 f13 f12 (Or.inl (hw _ (List.mem_of_getElem? (i := 52) rfl))) (hw _ (List.mem_of_getElem? (i := 37) rfl)) (ty := (.object "java/lang/String")) (by decide) rfl rfl (g := (mkF m 26 #[.val (.ref a), .val (.ref ef), .val (.long pr), .second, .val (.ref nm)] [.null, (.ref a)])) rfl rfl (hb hby d_prog_9_method_3_code_26)
      have k15 : To p.tables e below S0 (T15.setTop (mkF m 29 #[.val (.ref a), .val (.ref ef), .val (.long pr), .second, .val (.ref nm)] [])) := fun tt hq => k14 tt (st15 tt hq)
      have z15 : h15.size = h11.size := W15.size
      have F15 := f13.same W15
      have N15 := Fr.snoc X15 N11 (by omega : n0 ≤ a)
      have f16 : Exa Z h15 a "com/example/huntaway/huntaway/Precedence" := (f12.wr W15)
      have f17 : Fld Z h15 a "com/example/huntaway/huntaway/Precedence" "forbidding" "Ljava/lang/String;" .null := ((P3.other W11 (Or.inr (slot_ne (Or.inl (hw _ (List.mem_of_getElem? (i := 54) rfl))) (Or.inl (hw _ (List.mem_of_getElem? (i := 45) rfl))) (by decide) (t := (.object "java/lang/String")) (t' := .long) (by decide) (by decide)))).other W15 (Or.inr (slot_ne (Or.inl (hw _ (List.mem_of_getElem? (i := 54) rfl))) (Or.inl (hw _ (List.mem_of_getElem? (i := 52) rfl))) (by decide) (t := (.object "java/lang/String")) (t' := (.object "java/lang/String")) (by decide) (by decide))))
      have k18 : To p.tables e below S0 (T15.setTop (mkF m 31 #[.val (.ref a), .val (.ref ef), .val (.long pr), .second, .val (.ref nm)] [.null, (.ref a)])) := fun tt hq => k15 tt (by
        show Steps _ _ _ (T15.setTop (mkF m 29 #[.val (.ref a), .val (.ref ef), .val (.long pr), .second, .val (.ref nm)] [])) _
        refine XS.aloadN X15.here hx rfl (hb hby d_prog_9_method_3_code_29) rfl rfl ?_
        show Steps _ _ _ (T15.setTop (mkF m 30 #[.val (.ref a), .val (.ref ef), .val (.long pr), .second, .val (.ref nm)] [(.ref a)])) _
        refine XS.aconstNull X15.here hx rfl (hb hby d_prog_9_method_3_code_30) ?_
        show Steps _ _ _ (T15.setTop (mkF m 31 #[.val (.ref a), .val (.ref ef), .val (.long pr), .second, .val (.ref nm)] [.null, (.ref a)])) _
        exact hq)
      obtain ⟨T19, h19, X19, e19, W19, st19⟩ := putF X15 hx hZ hown (host := "") (Or.inl (hw _ (List.mem_of_getElem? (i := 53) rfl))) Via.refl e15 f17 f16 (Or.inl (hw _ (List.mem_of_getElem? (i := 54) rfl))) (hw _ (List.mem_of_getElem? (i := 37) rfl)) (ty := (.object "java/lang/String")) (by decide) rfl rfl (g := (mkF m 31 #[.val (.ref a), .val (.ref ef), .val (.long pr), .second, .val (.ref nm)] [.null, (.ref a)])) rfl rfl (hb hby d_prog_9_method_3_code_31)
      have k19 : To p.tables e below S0 (T19.setTop (mkF m 34 #[.val (.ref a), .val (.ref ef), .val (.long pr), .second, .val (.ref nm)] [])) := fun tt hq => k18 tt (st19 tt hq)
      have z19 : h19.size = h15.size := W19.size
      have F19 := f17.same W19
      have N19 := Fr.snoc X19 N15 (by omega : n0 ≤ a)
      have f20 : Old Z n0 h19 := (((O0.wr W11 (by omega)).wr W15 (by omega)).wr W19 (by omega))
      have k21 : To p.tables e below S0 (T19.setTop (mkF m 35 #[.val (.ref a), .val (.ref ef), .val (.long pr), .second, .val (.ref nm)] [(.ref ef)])) := fun tt hq => k19 tt (by
        show Steps _ _ _ (T19.setTop (mkF m 34 #[.val (.ref a), .val (.ref ef), .val (.long pr), .second, .val (.ref nm)] [])) _
        refine XS.aloadN X19.here hx rfl (hb hby d_prog_9_method_3_code_34) rfl rfl ?_
        show Steps _ _ _ (T19.setTop (mkF m 35 #[.val (.ref a), .val (.ref ef), .val (.long pr), .second, .val (.ref nm)] [(.ref ef)])) _
        exact hq)
      obtain ⟨T22, X22, e22, st22⟩ := getS2 X19 hx hZ hown (host := "") (Or.inl (hw _ (List.mem_of_getElem? (i := 62) rfl))) Via.refl e19 (staOld S_F f20) (g := (mkF m 35 #[.val (.ref a), .val (.ref ef), .val (.long pr), .second, .val (.ref nm)] [(.ref ef)])) rfl (hb hby d_prog_9_method_3_code_35)
      have k22 : To p.tables e below S0 (T22.setTop (mkF m 38 #[.val (.ref a), .val (.ref ef), .val (.long pr), .second, .val (.ref nm)] [(.ref qF), (.ref ef)])) := fun tt hq => k21 tt (st22 tt hq)
      by_cases hc38_23 : ef = qF
      · -- pc 38, holds
        have k24 : To p.tables e below S0 (T22.setTop (mkF m 43 #[.val (.ref a), .val (.ref ef), .val (.long pr), .second, .val (.ref nm)] [(.ref a), (.ref a)])) := fun tt hq => k22 tt (by
          show Steps _ _ _ (T22.setTop (mkF m 38 #[.val (.ref a), .val (.ref ef), .val (.long pr), .second, .val (.ref nm)] [(.ref qF), (.ref ef)])) _
          refine Jvm.RoadKit.acmp (g := (mkF m 38 #[.val (.ref a), .val (.ref ef), .val (.long pr), .second, .val (.ref nm)] [(.ref qF), (.ref ef)])) X22 hx rfl rfl rfl (pc0 := 38) (pc' := 41) (same := true) rfl (hb hby d_prog_9_method_3_code_38) rfl (decide_eq_true (congrArg Value.ref hc38_23)) (by decide) (by decide) ?_
          show Steps _ _ _ (T22.setTop (mkF m 41 #[.val (.ref a), .val (.ref ef), .val (.long pr), .second, .val (.ref nm)] [])) _
          refine XS.aloadN X22.here hx rfl (hb hby d_prog_9_method_3_code_41) rfl rfl ?_
          show Steps _ _ _ (T22.setTop (mkF m 42 #[.val (.ref a), .val (.ref ef), .val (.long pr), .second, .val (.ref nm)] [(.ref a)])) _
          refine XS.aloadN X22.here hx rfl (hb hby d_prog_9_method_3_code_42) rfl rfl ?_
          show Steps _ _ _ (T22.setTop (mkF m 43 #[.val (.ref a), .val (.ref ef), .val (.long pr), .second, .val (.ref nm)] [(.ref a), (.ref a)])) _
          exact hq)
        obtain ⟨T25, X25, e25, st25⟩ := getF X22 hx hZ hown (host := "") (Or.inl (hw _ (List.mem_of_getElem? (i := 53) rfl))) Via.refl e22 F19 (g := (mkF m 43 #[.val (.ref a), .val (.ref ef), .val (.long pr), .second, .val (.ref nm)] [(.ref a), (.ref a)])) rfl rfl (hb hby d_prog_9_method_3_code_43)
        have k25 : To p.tables e below S0 (T25.setTop (mkF m 46 #[.val (.ref a), .val (.ref ef), .val (.long pr), .second, .val (.ref nm)] [.null, (.ref a)])) := fun tt hq => k24 tt (st25 tt hq)
        have k26 : To p.tables e below S0 (T25.setTop (mkF m 48 #[.val (.ref a), .val (.ref ef), .val (.long pr), .second, .val (.ref nm)] [(.ref nm), .null, (.ref a)])) := fun tt hq => k25 tt (by
          show Steps _ _ _ (T25.setTop (mkF m 46 #[.val (.ref a), .val (.ref ef), .val (.long pr), .second, .val (.ref nm)] [.null, (.ref a)])) _
          refine XS.aload X25.here hx rfl (hb hby d_prog_9_method_3_code_46) rfl rfl ?_
          show Steps _ _ _ (T25.setTop (mkF m 48 #[.val (.ref a), .val (.ref ef), .val (.long pr), .second, .val (.ref nm)] [(.ref nm), .null, (.ref a)])) _
          exact hq)
        have f27 : Sm Z h19 nm := (smWr (smWr (smWr sn W11 P0 (hw _ (List.mem_of_getElem? (i := 37) rfl))) W15 f12 (hw _ (List.mem_of_getElem? (i := 37) rfl))) W19 f16 (hw _ (List.mem_of_getElem? (i := 37) rfl)))
        obtain ⟨_, T28, L28, X28, ⟨x28, rfl, Nq28, eq28, sx28⟩, k28a⟩ := callS' X25 hx hZ (y := (⟨"com/example/huntaway/huntaway/CodePointOrder", "min", "(Ljava/lang/String;Ljava/lang/String;)Ljava/lang/String;"⟩ : MethodName)) hown (hw _ (List.mem_of_getElem? (i := 63) rfl)) (hw _ (List.mem_of_getElem? (i := 64) rfl)) (hw _ (List.mem_of_getElem? (i := 65) rfl)) (hw _ (List.mem_of_getElem? (i := 66) rfl)) (by decide) (backC (W := 1) (rm_minN l Z a0 hw zc fm qF qP qI nm h19 n0 (by omega) S_c hzc S_f hfm S_F S_P S_I A_I f20 f27) hZ (hw _ (List.mem_of_getElem? (i := 66) rfl)) (hw _ (List.mem_of_getElem? (i := 65) rfl)) (by decide) (by decide)) e25 (argsL := [.null, (.ref nm)]) (rest := [(.ref a)]) rfl rfl pd_12 rfl (by rw [hml]; rfl) (hb hby d_prog_9_method_3_code_48) (Nat.le_of_eq rfl) (by decide) (by decide) k26
        have k28 : To p.tables e below S0 (T28.setTop (mkF m 51 #[.val (.ref a), .val (.ref ef), .val (.long pr), .second, .val (.ref nm)] [(.ref x28), (.ref a)])) := k28a
        have N28 := N19.app Nq28
        have e28 : T28.heap = h19 := eq28
        have f29 : Exa Z h19 a "com/example/huntaway/huntaway/Precedence" := (f16.wr W19)
        obtain ⟨T30, h30, X30, e30, W30, st30⟩ := putF X28 hx hZ hown (host := "") (Or.inl (hw _ (List.mem_of_getElem? (i := 53) rfl))) Via.refl e28 F19 f29 (Or.inl (hw _ (List.mem_of_getElem? (i := 54) rfl))) (hw _ (List.mem_of_getElem? (i := 37) rfl)) (ty := (.object "java/lang/String")) (by decide) rfl rfl (g := (mkF m 51 #[.val (.ref a), .val (.ref ef), .val (.long pr), .second, .val (.ref nm)] [(.ref x28), (.ref a)])) rfl rfl (hb hby d_prog_9_method_3_code_51)
        have k30 : To p.tables e below S0 (T30.setTop (mkF m 54 #[.val (.ref a), .val (.ref ef), .val (.long pr), .second, .val (.ref nm)] [])) := fun tt hq => k28 tt (st30 tt hq)
        have z30 : h30.size = h19.size := W30.size
        have F30 := F19.same W30
        have N30 := Fr.snoc X30 N28 (by omega : n0 ≤ a)
        have k31 : To p.tables e below S0 (T30.setTop (mkF m 70 #[.val (.ref a), .val (.ref ef), .val (.long pr), .second, .val (.ref nm)] [])) := fun tt hq => k30 tt (by
          show Steps _ _ _ (T30.setTop (mkF m 54 #[.val (.ref a), .val (.ref ef), .val (.long pr), .second, .val (.ref nm)] [])) _
          refine XS.goto X30.here hx rfl (pc0 := 54) (pc' := 70) rfl (hb hby d_prog_9_method_3_code_54) (by decide) (by decide) ?_
          show Steps _ _ _ (T30.setTop (mkF m 70 #[.val (.ref a), .val (.ref ef), .val (.long pr), .second, .val (.ref nm)] [])) _
          exact hq)
        have f32 : Sm Z h30 x28 := (smWr sx28 W30 f29 (hw _ (List.mem_of_getElem? (i := 37) rfl)))
        have f33 : Exa Z h30 a "com/example/huntaway/huntaway/Precedence" := (f29.wr W30)
        have f34 : Fld Z h30 a "com/example/huntaway/huntaway/Precedence" "highest" "J" (.long pr) := (((F11.other W15 (Or.inr (slot_ne (Or.inl (hw _ (List.mem_of_getElem? (i := 45) rfl))) (Or.inl (hw _ (List.mem_of_getElem? (i := 52) rfl))) (by decide) (t := .long) (t' := (.object "java/lang/String")) (by decide) (by decide)))).other W19 (Or.inr (slot_ne (Or.inl (hw _ (List.mem_of_getElem? (i := 45) rfl))) (Or.inl (hw _ (List.mem_of_getElem? (i := 54) rfl))) (by decide) (t := .long) (t' := (.object "java/lang/String")) (by decide) (by decide)))).other W30 (Or.inr (slot_ne (Or.inl (hw _ (List.mem_of_getElem? (i := 45) rfl))) (Or.inl (hw _ (List.mem_of_getElem? (i := 54) rfl))) (by decide) (t := .long) (t' := (.object "java/lang/String")) (by decide) (by decide))))
        have f35 : Fld Z h30 a "com/example/huntaway/huntaway/Precedence" "permitting" "Ljava/lang/String;" .null := ((F15.other W19 (Or.inr (slot_ne (Or.inl (hw _ (List.mem_of_getElem? (i := 52) rfl))) (Or.inl (hw _ (List.mem_of_getElem? (i := 54) rfl))) (by decide) (t := (.object "java/lang/String")) (t' := (.object "java/lang/String")) (by decide) (by decide)))).other W30 (Or.inr (slot_ne (Or.inl (hw _ (List.mem_of_getElem? (i := 52) rfl))) (Or.inl (hw _ (List.mem_of_getElem? (i := 54) rfl))) (by decide) (t := (.object "java/lang/String")) (t' := (.object "java/lang/String")) (by decide) (by decide))))
        have hE := e30
        refine retVoid X30 hx hret hlk (hb hby d_prog_9_method_3_code_70) k31 ?_ (by decide) (by decide)
        try rw [hE]
        exact ⟨rfl, N30, (((((Keep.refl h0 [a]).wr W11 (Or.inl (by simp))).wr W15 (Or.inl (by simp))).wr W19 (Or.inl (by simp))).wr W30 (Or.inl (by simp))), f33, _, _, _, f34, f35, F30, (Or.inl rfl), (Or.inr ⟨_, rfl, f32⟩), by simp⟩
      · -- pc 38, holds not
        have f36 : Fld Z h19 a "com/example/huntaway/huntaway/Precedence" "permitting" "Ljava/lang/String;" .null := (F15.other W19 (Or.inr (slot_ne (Or.inl (hw _ (List.mem_of_getElem? (i := 52) rfl))) (Or.inl (hw _ (List.mem_of_getElem? (i := 54) rfl))) (by decide) (t := (.object "java/lang/String")) (t' := (.object "java/lang/String")) (by decide) (by decide))))
        have k37 : To p.tables e below S0 (T22.setTop (mkF m 59 #[.val (.ref a), .val (.ref ef), .val (.long pr), .second, .val (.ref nm)] [(.ref a), (.ref a)])) := fun tt hq => k22 tt (by
          show Steps _ _ _ (T22.setTop (mkF m 38 #[.val (.ref a), .val (.ref ef), .val (.long pr), .second, .val (.ref nm)] [(.ref qF), (.ref ef)])) _
          refine Jvm.RoadKit.acmp (g := (mkF m 38 #[.val (.ref a), .val (.ref ef), .val (.long pr), .second, .val (.ref nm)] [(.ref qF), (.ref ef)])) X22 hx rfl rfl rfl (pc0 := 38) (pc' := 57) (same := false) rfl (hb hby d_prog_9_method_3_code_38) rfl (decide_eq_false fun q => hc38_23 (Value.ref.inj q)) (by decide) (by decide) ?_
          show Steps _ _ _ (T22.setTop (mkF m 57 #[.val (.ref a), .val (.ref ef), .val (.long pr), .second, .val (.ref nm)] [])) _
          refine XS.aloadN X22.here hx rfl (hb hby d_prog_9_method_3_code_57) rfl rfl ?_
          show Steps _ _ _ (T22.setTop (mkF m 58 #[.val (.ref a), .val (.ref ef), .val (.long pr), .second, .val (.ref nm)] [(.ref a)])) _
          refine XS.aloadN X22.here hx rfl (hb hby d_prog_9_method_3_code_58) rfl rfl ?_
          show Steps _ _ _ (T22.setTop (mkF m 59 #[.val (.ref a), .val (.ref ef), .val (.long pr), .second, .val (.ref nm)] [(.ref a), (.ref a)])) _
          exact hq)
        obtain ⟨T38, X38, e38, st38⟩ := getF X22 hx hZ hown (host := "") (Or.inl (hw _ (List.mem_of_getElem? (i := 51) rfl))) Via.refl e22 f36 (g := (mkF m 59 #[.val (.ref a), .val (.ref ef), .val (.long pr), .second, .val (.ref nm)] [(.ref a), (.ref a)])) rfl rfl (hb hby d_prog_9_method_3_code_59)
        have k38 : To p.tables e below S0 (T38.setTop (mkF m 62 #[.val (.ref a), .val (.ref ef), .val (.long pr), .second, .val (.ref nm)] [.null, (.ref a)])) := fun tt hq => k37 tt (st38 tt hq)
        have k39 : To p.tables e below S0 (T38.setTop (mkF m 64 #[.val (.ref a), .val (.ref ef), .val (.long pr), .second, .val (.ref nm)] [(.ref nm), .null, (.ref a)])) := fun tt hq => k38 tt (by
          show Steps _ _ _ (T38.setTop (mkF m 62 #[.val (.ref a), .val (.ref ef), .val (.long pr), .second, .val (.ref nm)] [.null, (.ref a)])) _
          refine XS.aload X38.here hx rfl (hb hby d_prog_9_method_3_code_62) rfl rfl ?_
          show Steps _ _ _ (T38.setTop (mkF m 64 #[.val (.ref a), .val (.ref ef), .val (.long pr), .second, .val (.ref nm)] [(.ref nm), .null, (.ref a)])) _
          exact hq)
        have f40 : Sm Z h19 nm := (smWr (smWr (smWr sn W11 P0 (hw _ (List.mem_of_getElem? (i := 37) rfl))) W15 f12 (hw _ (List.mem_of_getElem? (i := 37) rfl))) W19 f16 (hw _ (List.mem_of_getElem? (i := 37) rfl)))
        obtain ⟨_, T41, L41, X41, ⟨x41, rfl, Nq41, eq41, sx41⟩, k41a⟩ := callS' X38 hx hZ (y := (⟨"com/example/huntaway/huntaway/CodePointOrder", "min", "(Ljava/lang/String;Ljava/lang/String;)Ljava/lang/String;"⟩ : MethodName)) hown (hw _ (List.mem_of_getElem? (i := 63) rfl)) (hw _ (List.mem_of_getElem? (i := 64) rfl)) (hw _ (List.mem_of_getElem? (i := 65) rfl)) (hw _ (List.mem_of_getElem? (i := 66) rfl)) (by decide) (backC (W := 1) (rm_minN l Z a0 hw zc fm qF qP qI nm h19 n0 (by omega) S_c hzc S_f hfm S_F S_P S_I A_I f20 f40) hZ (hw _ (List.mem_of_getElem? (i := 66) rfl)) (hw _ (List.mem_of_getElem? (i := 65) rfl)) (by decide) (by decide)) e38 (argsL := [.null, (.ref nm)]) (rest := [(.ref a)]) rfl rfl pd_12 rfl (by rw [hml]; rfl) (hb hby d_prog_9_method_3_code_64) (Nat.le_of_eq rfl) (by decide) (by decide) k39
        have k41 : To p.tables e below S0 (T41.setTop (mkF m 67 #[.val (.ref a), .val (.ref ef), .val (.long pr), .second, .val (.ref nm)] [(.ref x41), (.ref a)])) := k41a
        have N41 := N19.app Nq41
        have e41 : T41.heap = h19 := eq41
        have f42 : Exa Z h19 a "com/example/huntaway/huntaway/Precedence" := (f16.wr W19)
        obtain ⟨T43, h43, X43, e43, W43, st43⟩ := putF X41 hx hZ hown (host := "") (Or.inl (hw _ (List.mem_of_getElem? (i := 51) rfl))) Via.refl e41 f36 f42 (Or.inl (hw _ (List.mem_of_getElem? (i := 52) rfl))) (hw _ (List.mem_of_getElem? (i := 37) rfl)) (ty := (.object "java/lang/String")) (by decide) rfl rfl (g := (mkF m 67 #[.val (.ref a), .val (.ref ef), .val (.long pr), .second, .val (.ref nm)] [(.ref x41), (.ref a)])) rfl rfl (hb hby d_prog_9_method_3_code_67)
        have k43 : To p.tables e below S0 (T43.setTop (mkF m 70 #[.val (.ref a), .val (.ref ef), .val (.long pr), .second, .val (.ref nm)] [])) := fun tt hq => k41 tt (st43 tt hq)
        have z43 : h43.size = h19.size := W43.size
        have F43 := f36.same W43
        have N43 := Fr.snoc X43 N41 (by omega : n0 ≤ a)
        have f44 : Sm Z h43 x41 := (smWr sx41 W43 f42 (hw _ (List.mem_of_getElem? (i := 37) rfl)))
        have f45 : Exa Z h43 a "com/example/huntaway/huntaway/Precedence" := (f42.wr W43)
        have f46 : Fld Z h43 a "com/example/huntaway/huntaway/Precedence" "highest" "J" (.long pr) := (((F11.other W15 (Or.inr (slot_ne (Or.inl (hw _ (List.mem_of_getElem? (i := 45) rfl))) (Or.inl (hw _ (List.mem_of_getElem? (i := 52) rfl))) (by decide) (t := .long) (t' := (.object "java/lang/String")) (by decide) (by decide)))).other W19 (Or.inr (slot_ne (Or.inl (hw _ (List.mem_of_getElem? (i := 45) rfl))) (Or.inl (hw _ (List.mem_of_getElem? (i := 54) rfl))) (by decide) (t := .long) (t' := (.object "java/lang/String")) (by decide) (by decide)))).other W43 (Or.inr (slot_ne (Or.inl (hw _ (List.mem_of_getElem? (i := 45) rfl))) (Or.inl (hw _ (List.mem_of_getElem? (i := 52) rfl))) (by decide) (t := .long) (t' := (.object "java/lang/String")) (by decide) (by decide))))
        have f47 : Fld Z h43 a "com/example/huntaway/huntaway/Precedence" "forbidding" "Ljava/lang/String;" .null := (F19.other W43 (Or.inr (slot_ne (Or.inl (hw _ (List.mem_of_getElem? (i := 54) rfl))) (Or.inl (hw _ (List.mem_of_getElem? (i := 52) rfl))) (by decide) (t := (.object "java/lang/String")) (t' := (.object "java/lang/String")) (by decide) (by decide))))
        have hE := e43
        refine retVoid X43 hx hret hlk (hb hby d_prog_9_method_3_code_70) k43 ?_ (by decide) (by decide)
        try rw [hE]
        exact ⟨rfl, N43, (((((Keep.refl h0 [a]).wr W11 (Or.inl (by simp))).wr W15 (Or.inl (by simp))).wr W19 (Or.inl (by simp))).wr W43 (Or.inl (by simp))), f45, _, _, _, f46, F43, f47, (Or.inr ⟨_, rfl, f44⟩), (Or.inl rfl), by simp⟩
    · -- pc 16, holds not
      have k48 : To p.tables e below S0 (T7.setTop (mkF m 35 #[.val (.ref a), .val (.ref ef), .val (.long pr), .second, .val (.ref nm)] [(.ref ef)])) := fun tt hq => k8 tt (by
        show Steps _ _ _ (T7.setTop (mkF m 16 #[.val (.ref a), .val (.ref ef), .val (.long pr), .second, .val (.ref nm)] [(.int (lcmpW pr hi))])) _
        refine XS.ifYes X7.here hx rfl (pc0 := 16) (pc' := 34) rfl (hb hby d_prog_9_method_3_code_16) rfl ((if0 _ _).trans (flt hc16_9).2.2.2) (by decide) (by decide) ?_
        show Steps _ _ _ (T7.setTop (mkF m 34 #[.val (.ref a), .val (.ref ef), .val (.long pr), .second, .val (.ref nm)] [])) _
        refine XS.aloadN X7.here hx rfl (hb hby d_prog_9_method_3_code_34) rfl rfl ?_
        show Steps _ _ _ (T7.setTop (mkF m 35 #[.val (.ref a), .val (.ref ef), .val (.long pr), .second, .val (.ref nm)] [(.ref ef)])) _
        exact hq)
      obtain ⟨T49, X49, e49, st49⟩ := getS2 X7 hx hZ hown (host := "") (Or.inl (hw _ (List.mem_of_getElem? (i := 62) rfl))) Via.refl e7 (staOld S_F O0) (g := (mkF m 35 #[.val (.ref a), .val (.ref ef), .val (.long pr), .second, .val (.ref nm)] [(.ref ef)])) rfl (hb hby d_prog_9_method_3_code_35)
      have k49 : To p.tables e below S0 (T49.setTop (mkF m 38 #[.val (.ref a), .val (.ref ef), .val (.long pr), .second, .val (.ref nm)] [(.ref qF), (.ref ef)])) := fun tt hq => k48 tt (st49 tt hq)
      by_cases hc38_50 : ef = qF
      · -- pc 38, holds
        have k51 : To p.tables e below S0 (T49.setTop (mkF m 43 #[.val (.ref a), .val (.ref ef), .val (.long pr), .second, .val (.ref nm)] [(.ref a), (.ref a)])) := fun tt hq => k49 tt (by
          show Steps _ _ _ (T49.setTop (mkF m 38 #[.val (.ref a), .val (.ref ef), .val (.long pr), .second, .val (.ref nm)] [(.ref qF), (.ref ef)])) _
          refine Jvm.RoadKit.acmp (g := (mkF m 38 #[.val (.ref a), .val (.ref ef), .val (.long pr), .second, .val (.ref nm)] [(.ref qF), (.ref ef)])) X49 hx rfl rfl rfl (pc0 := 38) (pc' := 41) (same := true) rfl (hb hby d_prog_9_method_3_code_38) rfl (decide_eq_true (congrArg Value.ref hc38_50)) (by decide) (by decide) ?_
          show Steps _ _ _ (T49.setTop (mkF m 41 #[.val (.ref a), .val (.ref ef), .val (.long pr), .second, .val (.ref nm)] [])) _
          refine XS.aloadN X49.here hx rfl (hb hby d_prog_9_method_3_code_41) rfl rfl ?_
          show Steps _ _ _ (T49.setTop (mkF m 42 #[.val (.ref a), .val (.ref ef), .val (.long pr), .second, .val (.ref nm)] [(.ref a)])) _
          refine XS.aloadN X49.here hx rfl (hb hby d_prog_9_method_3_code_42) rfl rfl ?_
          show Steps _ _ _ (T49.setTop (mkF m 43 #[.val (.ref a), .val (.ref ef), .val (.long pr), .second, .val (.ref nm)] [(.ref a), (.ref a)])) _
          exact hq)
        obtain ⟨T52, X52, e52, st52⟩ := getF X49 hx hZ hown (host := "") (Or.inl (hw _ (List.mem_of_getElem? (i := 53) rfl))) Via.refl e49 P3 (g := (mkF m 43 #[.val (.ref a), .val (.ref ef), .val (.long pr), .second, .val (.ref nm)] [(.ref a), (.ref a)])) rfl rfl (hb hby d_prog_9_method_3_code_43)
        have k52 : To p.tables e below S0 (T52.setTop (mkF m 46 #[.val (.ref a), .val (.ref ef), .val (.long pr), .second, .val (.ref nm)] [.null, (.ref a)])) := fun tt hq => k51 tt (st52 tt hq)
        have k53 : To p.tables e below S0 (T52.setTop (mkF m 48 #[.val (.ref a), .val (.ref ef), .val (.long pr), .second, .val (.ref nm)] [(.ref nm), .null, (.ref a)])) := fun tt hq => k52 tt (by
          show Steps _ _ _ (T52.setTop (mkF m 46 #[.val (.ref a), .val (.ref ef), .val (.long pr), .second, .val (.ref nm)] [.null, (.ref a)])) _
          refine XS.aload X52.here hx rfl (hb hby d_prog_9_method_3_code_46) rfl rfl ?_
          show Steps _ _ _ (T52.setTop (mkF m 48 #[.val (.ref a), .val (.ref ef), .val (.long pr), .second, .val (.ref nm)] [(.ref nm), .null, (.ref a)])) _
          exact hq)
        obtain ⟨_, T54, L54, X54, ⟨x54, rfl, Nq54, eq54, sx54⟩, k54a⟩ := callS' X52 hx hZ (y := (⟨"com/example/huntaway/huntaway/CodePointOrder", "min", "(Ljava/lang/String;Ljava/lang/String;)Ljava/lang/String;"⟩ : MethodName)) hown (hw _ (List.mem_of_getElem? (i := 63) rfl)) (hw _ (List.mem_of_getElem? (i := 64) rfl)) (hw _ (List.mem_of_getElem? (i := 65) rfl)) (hw _ (List.mem_of_getElem? (i := 66) rfl)) (by decide) (backC (W := 1) (rm_minN l Z a0 hw zc fm qF qP qI nm h0 n0 (by omega) S_c hzc S_f hfm S_F S_P S_I A_I O0 sn) hZ (hw _ (List.mem_of_getElem? (i := 66) rfl)) (hw _ (List.mem_of_getElem? (i := 65) rfl)) (by decide) (by decide)) e52 (argsL := [.null, (.ref nm)]) (rest := [(.ref a)]) rfl rfl pd_12 rfl (by rw [hml]; rfl) (hb hby d_prog_9_method_3_code_48) (Nat.le_of_eq rfl) (by decide) (by decide) k53
        have k54 : To p.tables e below S0 (T54.setTop (mkF m 51 #[.val (.ref a), .val (.ref ef), .val (.long pr), .second, .val (.ref nm)] [(.ref x54), (.ref a)])) := k54a
        have N54 := N0.app Nq54
        have e54 : T54.heap = h0 := eq54
        obtain ⟨T55, h55, X55, e55, W55, st55⟩ := putF X54 hx hZ hown (host := "") (Or.inl (hw _ (List.mem_of_getElem? (i := 53) rfl))) Via.refl e54 P3 P0 (Or.inl (hw _ (List.mem_of_getElem? (i := 54) rfl))) (hw _ (List.mem_of_getElem? (i := 37) rfl)) (ty := (.object "java/lang/String")) (by decide) rfl rfl (g := (mkF m 51 #[.val (.ref a), .val (.ref ef), .val (.long pr), .second, .val (.ref nm)] [(.ref x54), (.ref a)])) rfl rfl (hb hby d_prog_9_method_3_code_51)
        have k55 : To p.tables e below S0 (T55.setTop (mkF m 54 #[.val (.ref a), .val (.ref ef), .val (.long pr), .second, .val (.ref nm)] [])) := fun tt hq => k54 tt (st55 tt hq)
        have z55 : h55.size = h0.size := W55.size
        have F55 := P3.same W55
        have N55 := Fr.snoc X55 N54 (by omega : n0 ≤ a)
        have k56 : To p.tables e below S0 (T55.setTop (mkF m 70 #[.val (.ref a), .val (.ref ef), .val (.long pr), .second, .val (.ref nm)] [])) := fun tt hq => k55 tt (by
          show Steps _ _ _ (T55.setTop (mkF m 54 #[.val (.ref a), .val (.ref ef), .val (.long pr), .second, .val (.ref nm)] [])) _
          refine XS.goto X55.here hx rfl (pc0 := 54) (pc' := 70) rfl (hb hby d_prog_9_method_3_code_54) (by decide) (by decide) ?_
          show Steps _ _ _ (T55.setTop (mkF m 70 #[.val (.ref a), .val (.ref ef), .val (.long pr), .second, .val (.ref nm)] [])) _
          exact hq)
        have f57 : Sm Z h55 o1 := (smWr so1 W55 P0 (hw _ (List.mem_of_getElem? (i := 37) rfl)))
        have f58 : Sm Z h55 x54 := (smWr sx54 W55 P0 (hw _ (List.mem_of_getElem? (i := 37) rfl)))
        have f59 : Exa Z h55 a "com/example/huntaway/huntaway/Precedence" := (P0.wr W55)
        have f60 : Fld Z h55 a "com/example/huntaway/huntaway/Precedence" "highest" "J" (.long hi) := (P1.other W55 (Or.inr (slot_ne (Or.inl (hw _ (List.mem_of_getElem? (i := 45) rfl))) (Or.inl (hw _ (List.mem_of_getElem? (i := 54) rfl))) (by decide) (t := .long) (t' := (.object "java/lang/String")) (by decide) (by decide))))
        have f61 : Fld Z h55 a "com/example/huntaway/huntaway/Precedence" "permitting" "Ljava/lang/String;" (.ref o1) := (P2.other W55 (Or.inr (slot_ne (Or.inl (hw _ (List.mem_of_getElem? (i := 52) rfl))) (Or.inl (hw _ (List.mem_of_getElem? (i := 54) rfl))) (by decide) (t := (.object "java/lang/String")) (t' := (.object "java/lang/String")) (by decide) (by decide))))
        have hE := e55
        refine retVoid X55 hx hret hlk (hb hby d_prog_9_method_3_code_70) k56 ?_ (by decide) (by decide)
        try rw [hE]
        exact ⟨rfl, N55, ((Keep.refl h0 [a]).wr W55 (Or.inl (by simp))), f59, _, _, _, f60, f61, F55, (Or.inr ⟨_, rfl, f57⟩), (Or.inr ⟨_, rfl, f58⟩), by simp⟩
      · -- pc 38, holds not
        have k62 : To p.tables e below S0 (T49.setTop (mkF m 59 #[.val (.ref a), .val (.ref ef), .val (.long pr), .second, .val (.ref nm)] [(.ref a), (.ref a)])) := fun tt hq => k49 tt (by
          show Steps _ _ _ (T49.setTop (mkF m 38 #[.val (.ref a), .val (.ref ef), .val (.long pr), .second, .val (.ref nm)] [(.ref qF), (.ref ef)])) _
          refine Jvm.RoadKit.acmp (g := (mkF m 38 #[.val (.ref a), .val (.ref ef), .val (.long pr), .second, .val (.ref nm)] [(.ref qF), (.ref ef)])) X49 hx rfl rfl rfl (pc0 := 38) (pc' := 57) (same := false) rfl (hb hby d_prog_9_method_3_code_38) rfl (decide_eq_false fun q => hc38_50 (Value.ref.inj q)) (by decide) (by decide) ?_
          show Steps _ _ _ (T49.setTop (mkF m 57 #[.val (.ref a), .val (.ref ef), .val (.long pr), .second, .val (.ref nm)] [])) _
          refine XS.aloadN X49.here hx rfl (hb hby d_prog_9_method_3_code_57) rfl rfl ?_
          show Steps _ _ _ (T49.setTop (mkF m 58 #[.val (.ref a), .val (.ref ef), .val (.long pr), .second, .val (.ref nm)] [(.ref a)])) _
          refine XS.aloadN X49.here hx rfl (hb hby d_prog_9_method_3_code_58) rfl rfl ?_
          show Steps _ _ _ (T49.setTop (mkF m 59 #[.val (.ref a), .val (.ref ef), .val (.long pr), .second, .val (.ref nm)] [(.ref a), (.ref a)])) _
          exact hq)
        obtain ⟨T63, X63, e63, st63⟩ := getF X49 hx hZ hown (host := "") (Or.inl (hw _ (List.mem_of_getElem? (i := 51) rfl))) Via.refl e49 P2 (g := (mkF m 59 #[.val (.ref a), .val (.ref ef), .val (.long pr), .second, .val (.ref nm)] [(.ref a), (.ref a)])) rfl rfl (hb hby d_prog_9_method_3_code_59)
        have k63 : To p.tables e below S0 (T63.setTop (mkF m 62 #[.val (.ref a), .val (.ref ef), .val (.long pr), .second, .val (.ref nm)] [(.ref o1), (.ref a)])) := fun tt hq => k62 tt (st63 tt hq)
        have k64 : To p.tables e below S0 (T63.setTop (mkF m 64 #[.val (.ref a), .val (.ref ef), .val (.long pr), .second, .val (.ref nm)] [(.ref nm), (.ref o1), (.ref a)])) := fun tt hq => k63 tt (by
          show Steps _ _ _ (T63.setTop (mkF m 62 #[.val (.ref a), .val (.ref ef), .val (.long pr), .second, .val (.ref nm)] [(.ref o1), (.ref a)])) _
          refine XS.aload X63.here hx rfl (hb hby d_prog_9_method_3_code_62) rfl rfl ?_
          show Steps _ _ _ (T63.setTop (mkF m 64 #[.val (.ref a), .val (.ref ef), .val (.long pr), .second, .val (.ref nm)] [(.ref nm), (.ref o1), (.ref a)])) _
          exact hq)
        obtain ⟨_, T65, L65, X65, ⟨x65, rfl, Nq65, eq65, sx65⟩, k65a⟩ := callS' X63 hx hZ (y := (⟨"com/example/huntaway/huntaway/CodePointOrder", "min", "(Ljava/lang/String;Ljava/lang/String;)Ljava/lang/String;"⟩ : MethodName)) hown (hw _ (List.mem_of_getElem? (i := 63) rfl)) (hw _ (List.mem_of_getElem? (i := 64) rfl)) (hw _ (List.mem_of_getElem? (i := 65) rfl)) (hw _ (List.mem_of_getElem? (i := 66) rfl)) (by decide) (backC (W := 1) (rm_minR l Z a0 hw zc fm qF qP qI o1 nm h0 n0 (by omega) S_c hzc S_f hfm S_F S_P S_I A_I O0 so1 sn) hZ (hw _ (List.mem_of_getElem? (i := 66) rfl)) (hw _ (List.mem_of_getElem? (i := 65) rfl)) (by decide) (by decide)) e63 (argsL := [(.ref o1), (.ref nm)]) (rest := [(.ref a)]) rfl rfl pd_12 rfl (by rw [hml]; rfl) (hb hby d_prog_9_method_3_code_64) (Nat.le_of_eq rfl) (by decide) (by decide) k64
        have k65 : To p.tables e below S0 (T65.setTop (mkF m 67 #[.val (.ref a), .val (.ref ef), .val (.long pr), .second, .val (.ref nm)] [(.ref x65), (.ref a)])) := k65a
        have N65 := N0.app Nq65
        have e65 : T65.heap = h0 := eq65
        obtain ⟨T66, h66, X66, e66, W66, st66⟩ := putF X65 hx hZ hown (host := "") (Or.inl (hw _ (List.mem_of_getElem? (i := 51) rfl))) Via.refl e65 P2 P0 (Or.inl (hw _ (List.mem_of_getElem? (i := 52) rfl))) (hw _ (List.mem_of_getElem? (i := 37) rfl)) (ty := (.object "java/lang/String")) (by decide) rfl rfl (g := (mkF m 67 #[.val (.ref a), .val (.ref ef), .val (.long pr), .second, .val (.ref nm)] [(.ref x65), (.ref a)])) rfl rfl (hb hby d_prog_9_method_3_code_67)
        have k66 : To p.tables e below S0 (T66.setTop (mkF m 70 #[.val (.ref a), .val (.ref ef), .val (.long pr), .second, .val (.ref nm)] [])) := fun tt hq => k65 tt (st66 tt hq)
        have z66 : h66.size = h0.size := W66.size
        have F66 := P2.same W66
        have N66 := Fr.snoc X66 N65 (by omega : n0 ≤ a)
        have f67 : Sm Z h66 x65 := (smWr sx65 W66 P0 (hw _ (List.mem_of_getElem? (i := 37) rfl)))
        have f68 : Exa Z h66 a "com/example/huntaway/huntaway/Precedence" := (P0.wr W66)
        have f69 : Fld Z h66 a "com/example/huntaway/huntaway/Precedence" "highest" "J" (.long hi) := (P1.other W66 (Or.inr (slot_ne (Or.inl (hw _ (List.mem_of_getElem? (i := 45) rfl))) (Or.inl (hw _ (List.mem_of_getElem? (i := 52) rfl))) (by decide) (t := .long) (t' := (.object "java/lang/String")) (by decide) (by decide))))
        have f70 : Fld Z h66 a "com/example/huntaway/huntaway/Precedence" "forbidding" "Ljava/lang/String;" .null := (P3.other W66 (Or.inr (slot_ne (Or.inl (hw _ (List.mem_of_getElem? (i := 54) rfl))) (Or.inl (hw _ (List.mem_of_getElem? (i := 52) rfl))) (by decide) (t := (.object "java/lang/String")) (t' := (.object "java/lang/String")) (by decide) (by decide))))
        have hE := e66
        refine retVoid X66 hx hret hlk (hb hby d_prog_9_method_3_code_70) k66 ?_ (by decide) (by decide)
        try rw [hE]
        exact ⟨rfl, N66, ((Keep.refl h0 [a]).wr W66 (Or.inl (by simp))), f68, _, _, _, f69, F66, f70, (Or.inr ⟨_, rfl, f67⟩), (Or.inl rfl), by simp⟩
theorem rm_off (l : Launch) (Z : State) (a0 : Array Value) (hw : ∀ d ∈ tables_1, d.before a0 Z = true) (zc : Int32) (fm : Value) (qF : Addr) (qP : Addr) (qI : Addr) (a : Addr) (ef : Addr) (pr : Int64) (hi : Int64) (nm : Addr) (u1 : Value) (u2 : Value) (h0 : Heap) (n0 : Nat) (hn0 : n0 ≤ h0.size) (S_c : Sta Z Z.heap "java/lang/String" "COMPACT_STRINGS" "Z" (.int zc)) (hzc : ¬ zc = (0 : Int32)) (S_f : Sta Z Z.heap "jdk/internal/util/Preconditions" "SIOOBE_FORMATTER" "Ljava/util/function/BiFunction;" fm) (hfm : fm.isRef = true) (S_F : Sta Z Z.heap "com/example/huntaway/huntaway/Effect" "FORBID" "Lcom/example/huntaway/huntaway/Effect;" (.ref qF)) (S_P : Sta Z Z.heap "com/example/huntaway/huntaway/Effect" "PERMIT" "Lcom/example/huntaway/huntaway/Effect;" (.ref qP)) (S_I : Sta Z Z.heap "com/example/huntaway/huntaway/CodePointOrder" "INSTANCE" "Lcom/example/huntaway/huntaway/CodePointOrder;" (.ref qI)) (A_I : Exa Z Z.heap qI "com/example/huntaway/huntaway/CodePointOrder") (O0 : Old Z n0 h0) (P0 : Exa Z h0 a "com/example/huntaway/huntaway/Precedence") (P1 : Fld Z h0 a "com/example/huntaway/huntaway/Precedence" "highest" "J" (.long hi)) (P2 : Fld Z h0 a "com/example/huntaway/huntaway/Precedence" "permitting" "Ljava/lang/String;" u1) (P3 : Fld Z h0 a "com/example/huntaway/huntaway/Precedence" "forbidding" "Ljava/lang/String;" u2) (sn : Sm Z h0 nm) (ok1 : Ok Z h0 u1) (ok2 : Ok Z h0 u2) (ga : n0 ≤ a) (hne : ¬ (u1 = .null ∧ u2 = .null) ∨ hi = (-9223372036854775808 : Int64)) :
    Con l Z (⟨"com/example/huntaway/huntaway/Precedence", "offer", "(Lcom/example/huntaway/huntaway/Effect;JLjava/lang/String;)V"⟩ : MethodName) prog_9_method_3_code 5 none [] ({ frames := 5, cells := 0, slots := 0, locals := 73 } : Room) #[(.ref a), (.ref ef), (.long pr), (.ref nm)] h0 (fun v h L => v = none ∧ Fr n0 L ∧ Keep h0 h [a] ∧ Exa Z h a "com/example/huntaway/huntaway/Precedence" ∧ ∃ (hj : Int64) (u1 u2 : Value), Fld Z h a "com/example/huntaway/huntaway/Precedence" "highest" "J" (.long hj) ∧ Fld Z h a "com/example/huntaway/huntaway/Precedence" "permitting" "Ljava/lang/String;" u1 ∧ Fld Z h a "com/example/huntaway/huntaway/Precedence" "forbidding" "Ljava/lang/String;" u2 ∧ Ok Z h u1 ∧ Ok Z h u2 ∧ ¬ (u1 = .null ∧ u2 = .null)) := by
  rcases ok1 with rfl | ⟨o1, rfl, so1⟩ <;> rcases ok2 with rfl | ⟨o2, rfl, so2⟩
  · exact rm_offNN l Z a0 hw zc fm qF qP qI a ef pr hi nm h0 n0 hn0 S_c hzc S_f hfm S_F S_P S_I A_I O0 P0 P1 P2 P3 sn ga (hne.resolve_left fun q => q ⟨rfl, rfl⟩)
  · exact rm_offNR l Z a0 hw zc fm qF qP qI a ef pr hi nm o2 h0 n0 hn0 S_c hzc S_f hfm S_F S_P S_I A_I O0 P0 P1 P2 P3 sn so2 ga
  · exact rm_offRN l Z a0 hw zc fm qF qP qI a ef pr hi nm o1 h0 n0 hn0 S_c hzc S_f hfm S_F S_P S_I A_I O0 P0 P1 P2 P3 sn so1 ga
  · exact rm_offRR l Z a0 hw zc fm qF qP qI a ef pr hi nm o1 o2 h0 n0 hn0 S_c hzc S_f hfm S_F S_P S_I A_I O0 P0 P1 P2 P3 sn so1 so2 ga
theorem d_prog_9_method_4_code_0 : decode prog_9_method_4_code 0 = .ok (.aload_n 0, 1) := by decide +kernel
theorem d_prog_9_method_4_code_1 : decode prog_9_method_4_code 1 = .ok (.getfield 17, 3) := by decide +kernel
theorem d_prog_9_method_4_code_4 : decode prog_9_method_4_code 4 = .ok (.ifnonnull 14, 3) := by decide +kernel
theorem d_prog_9_method_4_code_7 : decode prog_9_method_4_code 7 = .ok (.aload_n 0, 1) := by decide +kernel
theorem d_prog_9_method_4_code_8 : decode prog_9_method_4_code 8 = .ok (.getfield 21, 3) := by decide +kernel
theorem d_prog_9_method_4_code_11 : decode prog_9_method_4_code 11 = .ok (.ifnonnull 7, 3) := by decide +kernel
theorem d_prog_9_method_4_code_14 : decode prog_9_method_4_code 14 = .ok (.iconst 1, 1) := by decide +kernel
theorem d_prog_9_method_4_code_15 : decode prog_9_method_4_code 15 = .ok (.goto 4, 3) := by decide +kernel
theorem d_prog_9_method_4_code_18 : decode prog_9_method_4_code 18 = .ok (.iconst 0, 1) := by decide +kernel
theorem d_prog_9_method_4_code_19 : decode prog_9_method_4_code 19 = .ok (.ireturn, 1) := by decide +kernel
set_option maxRecDepth 65536 in
set_option maxHeartbeats 40000000 in
theorem rm_emNN (l : Launch) (Z : State) (a0 : Array Value) (hw : ∀ d ∈ tables_1, d.before a0 Z = true) (a : Addr) (h0 : Heap) (n0 : Nat) (hn0 : n0 ≤ h0.size) (P0 : Fld Z h0 a "com/example/huntaway/huntaway/Precedence" "permitting" "Ljava/lang/String;" .null) (P1 : Fld Z h0 a "com/example/huntaway/huntaway/Precedence" "forbidding" "Ljava/lang/String;" .null) :
    Con l Z (⟨"com/example/huntaway/huntaway/Precedence", "isEmpty", "()Z"⟩ : MethodName) prog_9_method_4_code 1 (some .boolean) [] ({ frames := 0, cells := 0, slots := 0, locals := 0 } : Room) #[(.ref a)] h0 (fun v h L => v = some (.int (1 : Int32)) ∧ Fr n0 L ∧ h = h0) := by
  refine enter (Ls := #[.val (.ref a)]) (plainFor_of_name pn_6) (fun m => by exact entry_eq rfl) ?_
  intro p e s m below meth cd_ s₁ S0 hx hby hml hret hlk hnm hown hZ X0 e0 k0
  have N0 := Fr.nil n0
  have k1 : To p.tables e below S0 (s₁.setTop (mkF m 1 #[.val (.ref a)] [(.ref a)])) := fun tt hq => k0 tt (by
    show Steps _ _ _ (s₁.setTop (mkF m 0 #[.val (.ref a)] [])) _
    refine XS.aloadN X0.here hx rfl (hb hby d_prog_9_method_4_code_0) rfl rfl ?_
    show Steps _ _ _ (s₁.setTop (mkF m 1 #[.val (.ref a)] [(.ref a)])) _
    exact hq)
  obtain ⟨T2, X2, e2, st2⟩ := getF X0 hx hZ hown (host := "") (Or.inl (hw _ (List.mem_of_getElem? (i := 51) rfl))) Via.refl e0 P0 (g := (mkF m 1 #[.val (.ref a)] [(.ref a)])) rfl rfl (hb hby d_prog_9_method_4_code_1)
  have k2 : To p.tables e below S0 (T2.setTop (mkF m 4 #[.val (.ref a)] [.null])) := fun tt hq => k1 tt (st2 tt hq)
  have k3 : To p.tables e below S0 (T2.setTop (mkF m 8 #[.val (.ref a)] [(.ref a)])) := fun tt hq => k2 tt (by
    show Steps _ _ _ (T2.setTop (mkF m 4 #[.val (.ref a)] [.null])) _
    refine XS.ifnonnullNo X2.here hx rfl (hb hby d_prog_9_method_4_code_4) rfl ?_
    show Steps _ _ _ (T2.setTop (mkF m 7 #[.val (.ref a)] [])) _
    refine XS.aloadN X2.here hx rfl (hb hby d_prog_9_method_4_code_7) rfl rfl ?_
    show Steps _ _ _ (T2.setTop (mkF m 8 #[.val (.ref a)] [(.ref a)])) _
    exact hq)
  obtain ⟨T4, X4, e4, st4⟩ := getF X2 hx hZ hown (host := "") (Or.inl (hw _ (List.mem_of_getElem? (i := 53) rfl))) Via.refl e2 P1 (g := (mkF m 8 #[.val (.ref a)] [(.ref a)])) rfl rfl (hb hby d_prog_9_method_4_code_8)
  have k4 : To p.tables e below S0 (T4.setTop (mkF m 11 #[.val (.ref a)] [.null])) := fun tt hq => k3 tt (st4 tt hq)
  have k5 : To p.tables e below S0 (T4.setTop (mkF m 19 #[.val (.ref a)] [(.int (1 : Int32))])) := fun tt hq => k4 tt (by
    show Steps _ _ _ (T4.setTop (mkF m 11 #[.val (.ref a)] [.null])) _
    refine XS.ifnonnullNo X4.here hx rfl (hb hby d_prog_9_method_4_code_11) rfl ?_
    show Steps _ _ _ (T4.setTop (mkF m 14 #[.val (.ref a)] [])) _
    refine XS.iconst X4.here hx rfl (hb hby d_prog_9_method_4_code_14) ?_
    show Steps _ _ _ (T4.setTop (mkF m 15 #[.val (.ref a)] [(.int (1 : Int32))])) _
    refine XS.goto X4.here hx rfl (pc0 := 15) (pc' := 19) rfl (hb hby d_prog_9_method_4_code_15) (by decide) (by decide) ?_
    show Steps _ _ _ (T4.setTop (mkF m 19 #[.val (.ref a)] [(.int (1 : Int32))])) _
    exact hq)
  have hE := e4
  refine retInt X4 hx hret hlk (by simp) rfl (hb hby d_prog_9_method_4_code_19) k5 ?_ (by decide) (by decide)
  try rw [hE]
  exact ⟨rfl, N0, rfl⟩
set_option maxRecDepth 65536 in
set_option maxHeartbeats 40000000 in
theorem rm_emNR (l : Launch) (Z : State) (a0 : Array Value) (hw : ∀ d ∈ tables_1, d.before a0 Z = true) (a : Addr) (o2 : Addr) (h0 : Heap) (n0 : Nat) (hn0 : n0 ≤ h0.size) (P0 : Fld Z h0 a "com/example/huntaway/huntaway/Precedence" "permitting" "Ljava/lang/String;" .null) (P1 : Fld Z h0 a "com/example/huntaway/huntaway/Precedence" "forbidding" "Ljava/lang/String;" (.ref o2)) :
    Con l Z (⟨"com/example/huntaway/huntaway/Precedence", "isEmpty", "()Z"⟩ : MethodName) prog_9_method_4_code 1 (some .boolean) [] ({ frames := 0, cells := 0, slots := 0, locals := 0 } : Room) #[(.ref a)] h0 (fun v h L => v = some (.int (0 : Int32)) ∧ Fr n0 L ∧ h = h0) := by
  refine enter (Ls := #[.val (.ref a)]) (plainFor_of_name pn_6) (fun m => by exact entry_eq rfl) ?_
  intro p e s m below meth cd_ s₁ S0 hx hby hml hret hlk hnm hown hZ X0 e0 k0
  have N0 := Fr.nil n0
  have k1 : To p.tables e below S0 (s₁.setTop (mkF m 1 #[.val (.ref a)] [(.ref a)])) := fun tt hq => k0 tt (by
    show Steps _ _ _ (s₁.setTop (mkF m 0 #[.val (.ref a)] [])) _
    refine XS.aloadN X0.here hx rfl (hb hby d_prog_9_method_4_code_0) rfl rfl ?_
    show Steps _ _ _ (s₁.setTop (mkF m 1 #[.val (.ref a)] [(.ref a)])) _
    exact hq)
  obtain ⟨T2, X2, e2, st2⟩ := getF X0 hx hZ hown (host := "") (Or.inl (hw _ (List.mem_of_getElem? (i := 51) rfl))) Via.refl e0 P0 (g := (mkF m 1 #[.val (.ref a)] [(.ref a)])) rfl rfl (hb hby d_prog_9_method_4_code_1)
  have k2 : To p.tables e below S0 (T2.setTop (mkF m 4 #[.val (.ref a)] [.null])) := fun tt hq => k1 tt (st2 tt hq)
  have k3 : To p.tables e below S0 (T2.setTop (mkF m 8 #[.val (.ref a)] [(.ref a)])) := fun tt hq => k2 tt (by
    show Steps _ _ _ (T2.setTop (mkF m 4 #[.val (.ref a)] [.null])) _
    refine XS.ifnonnullNo X2.here hx rfl (hb hby d_prog_9_method_4_code_4) rfl ?_
    show Steps _ _ _ (T2.setTop (mkF m 7 #[.val (.ref a)] [])) _
    refine XS.aloadN X2.here hx rfl (hb hby d_prog_9_method_4_code_7) rfl rfl ?_
    show Steps _ _ _ (T2.setTop (mkF m 8 #[.val (.ref a)] [(.ref a)])) _
    exact hq)
  obtain ⟨T4, X4, e4, st4⟩ := getF X2 hx hZ hown (host := "") (Or.inl (hw _ (List.mem_of_getElem? (i := 53) rfl))) Via.refl e2 P1 (g := (mkF m 8 #[.val (.ref a)] [(.ref a)])) rfl rfl (hb hby d_prog_9_method_4_code_8)
  have k4 : To p.tables e below S0 (T4.setTop (mkF m 11 #[.val (.ref a)] [(.ref o2)])) := fun tt hq => k3 tt (st4 tt hq)
  have k5 : To p.tables e below S0 (T4.setTop (mkF m 19 #[.val (.ref a)] [(.int (0 : Int32))])) := fun tt hq => k4 tt (by
    show Steps _ _ _ (T4.setTop (mkF m 11 #[.val (.ref a)] [(.ref o2)])) _
    refine XS.ifnonnullYes X4.here hx rfl (pc0 := 11) (pc' := 18) rfl (hb hby d_prog_9_method_4_code_11) rfl (by decide) (by decide) ?_
    show Steps _ _ _ (T4.setTop (mkF m 18 #[.val (.ref a)] [])) _
    refine XS.iconst X4.here hx rfl (hb hby d_prog_9_method_4_code_18) ?_
    show Steps _ _ _ (T4.setTop (mkF m 19 #[.val (.ref a)] [(.int (0 : Int32))])) _
    exact hq)
  have hE := e4
  refine retInt X4 hx hret hlk (by simp) rfl (hb hby d_prog_9_method_4_code_19) k5 ?_ (by decide) (by decide)
  try rw [hE]
  exact ⟨rfl, N0, rfl⟩
set_option maxRecDepth 65536 in
set_option maxHeartbeats 40000000 in
theorem rm_emRN (l : Launch) (Z : State) (a0 : Array Value) (hw : ∀ d ∈ tables_1, d.before a0 Z = true) (a : Addr) (o1 : Addr) (h0 : Heap) (n0 : Nat) (hn0 : n0 ≤ h0.size) (P0 : Fld Z h0 a "com/example/huntaway/huntaway/Precedence" "permitting" "Ljava/lang/String;" (.ref o1)) (P1 : Fld Z h0 a "com/example/huntaway/huntaway/Precedence" "forbidding" "Ljava/lang/String;" .null) :
    Con l Z (⟨"com/example/huntaway/huntaway/Precedence", "isEmpty", "()Z"⟩ : MethodName) prog_9_method_4_code 1 (some .boolean) [] ({ frames := 0, cells := 0, slots := 0, locals := 0 } : Room) #[(.ref a)] h0 (fun v h L => v = some (.int (0 : Int32)) ∧ Fr n0 L ∧ h = h0) := by
  refine enter (Ls := #[.val (.ref a)]) (plainFor_of_name pn_6) (fun m => by exact entry_eq rfl) ?_
  intro p e s m below meth cd_ s₁ S0 hx hby hml hret hlk hnm hown hZ X0 e0 k0
  have N0 := Fr.nil n0
  have k1 : To p.tables e below S0 (s₁.setTop (mkF m 1 #[.val (.ref a)] [(.ref a)])) := fun tt hq => k0 tt (by
    show Steps _ _ _ (s₁.setTop (mkF m 0 #[.val (.ref a)] [])) _
    refine XS.aloadN X0.here hx rfl (hb hby d_prog_9_method_4_code_0) rfl rfl ?_
    show Steps _ _ _ (s₁.setTop (mkF m 1 #[.val (.ref a)] [(.ref a)])) _
    exact hq)
  obtain ⟨T2, X2, e2, st2⟩ := getF X0 hx hZ hown (host := "") (Or.inl (hw _ (List.mem_of_getElem? (i := 51) rfl))) Via.refl e0 P0 (g := (mkF m 1 #[.val (.ref a)] [(.ref a)])) rfl rfl (hb hby d_prog_9_method_4_code_1)
  have k2 : To p.tables e below S0 (T2.setTop (mkF m 4 #[.val (.ref a)] [(.ref o1)])) := fun tt hq => k1 tt (st2 tt hq)
  have k3 : To p.tables e below S0 (T2.setTop (mkF m 19 #[.val (.ref a)] [(.int (0 : Int32))])) := fun tt hq => k2 tt (by
    show Steps _ _ _ (T2.setTop (mkF m 4 #[.val (.ref a)] [(.ref o1)])) _
    refine XS.ifnonnullYes X2.here hx rfl (pc0 := 4) (pc' := 18) rfl (hb hby d_prog_9_method_4_code_4) rfl (by decide) (by decide) ?_
    show Steps _ _ _ (T2.setTop (mkF m 18 #[.val (.ref a)] [])) _
    refine XS.iconst X2.here hx rfl (hb hby d_prog_9_method_4_code_18) ?_
    show Steps _ _ _ (T2.setTop (mkF m 19 #[.val (.ref a)] [(.int (0 : Int32))])) _
    exact hq)
  have hE := e2
  refine retInt X2 hx hret hlk (by simp) rfl (hb hby d_prog_9_method_4_code_19) k3 ?_ (by decide) (by decide)
  try rw [hE]
  exact ⟨rfl, N0, rfl⟩
set_option maxRecDepth 65536 in
set_option maxHeartbeats 40000000 in
theorem rm_emRR (l : Launch) (Z : State) (a0 : Array Value) (hw : ∀ d ∈ tables_1, d.before a0 Z = true) (a : Addr) (o1 : Addr) (o2 : Addr) (h0 : Heap) (n0 : Nat) (hn0 : n0 ≤ h0.size) (P0 : Fld Z h0 a "com/example/huntaway/huntaway/Precedence" "permitting" "Ljava/lang/String;" (.ref o1)) (P1 : Fld Z h0 a "com/example/huntaway/huntaway/Precedence" "forbidding" "Ljava/lang/String;" (.ref o2)) :
    Con l Z (⟨"com/example/huntaway/huntaway/Precedence", "isEmpty", "()Z"⟩ : MethodName) prog_9_method_4_code 1 (some .boolean) [] ({ frames := 0, cells := 0, slots := 0, locals := 0 } : Room) #[(.ref a)] h0 (fun v h L => v = some (.int (0 : Int32)) ∧ Fr n0 L ∧ h = h0) := by
  refine enter (Ls := #[.val (.ref a)]) (plainFor_of_name pn_6) (fun m => by exact entry_eq rfl) ?_
  intro p e s m below meth cd_ s₁ S0 hx hby hml hret hlk hnm hown hZ X0 e0 k0
  have N0 := Fr.nil n0
  have k1 : To p.tables e below S0 (s₁.setTop (mkF m 1 #[.val (.ref a)] [(.ref a)])) := fun tt hq => k0 tt (by
    show Steps _ _ _ (s₁.setTop (mkF m 0 #[.val (.ref a)] [])) _
    refine XS.aloadN X0.here hx rfl (hb hby d_prog_9_method_4_code_0) rfl rfl ?_
    show Steps _ _ _ (s₁.setTop (mkF m 1 #[.val (.ref a)] [(.ref a)])) _
    exact hq)
  obtain ⟨T2, X2, e2, st2⟩ := getF X0 hx hZ hown (host := "") (Or.inl (hw _ (List.mem_of_getElem? (i := 51) rfl))) Via.refl e0 P0 (g := (mkF m 1 #[.val (.ref a)] [(.ref a)])) rfl rfl (hb hby d_prog_9_method_4_code_1)
  have k2 : To p.tables e below S0 (T2.setTop (mkF m 4 #[.val (.ref a)] [(.ref o1)])) := fun tt hq => k1 tt (st2 tt hq)
  have k3 : To p.tables e below S0 (T2.setTop (mkF m 19 #[.val (.ref a)] [(.int (0 : Int32))])) := fun tt hq => k2 tt (by
    show Steps _ _ _ (T2.setTop (mkF m 4 #[.val (.ref a)] [(.ref o1)])) _
    refine XS.ifnonnullYes X2.here hx rfl (pc0 := 4) (pc' := 18) rfl (hb hby d_prog_9_method_4_code_4) rfl (by decide) (by decide) ?_
    show Steps _ _ _ (T2.setTop (mkF m 18 #[.val (.ref a)] [])) _
    refine XS.iconst X2.here hx rfl (hb hby d_prog_9_method_4_code_18) ?_
    show Steps _ _ _ (T2.setTop (mkF m 19 #[.val (.ref a)] [(.int (0 : Int32))])) _
    exact hq)
  have hE := e2
  refine retInt X2 hx hret hlk (by simp) rfl (hb hby d_prog_9_method_4_code_19) k3 ?_ (by decide) (by decide)
  try rw [hE]
  exact ⟨rfl, N0, rfl⟩
theorem rm_em (l : Launch) (Z : State) (a0 : Array Value) (hw : ∀ d ∈ tables_1, d.before a0 Z = true) (a : Addr) (u1 : Value) (u2 : Value) (h0 : Heap) (n0 : Nat) (hn0 : n0 ≤ h0.size) (P0 : Fld Z h0 a "com/example/huntaway/huntaway/Precedence" "permitting" "Ljava/lang/String;" u1) (P1 : Fld Z h0 a "com/example/huntaway/huntaway/Precedence" "forbidding" "Ljava/lang/String;" u2) (r1 : u1.isRef = true) (r2 : u2.isRef = true) (nn : ¬ (u1 = .null ∧ u2 = .null)) :
    Con l Z (⟨"com/example/huntaway/huntaway/Precedence", "isEmpty", "()Z"⟩ : MethodName) prog_9_method_4_code 1 (some .boolean) [] ({ frames := 0, cells := 0, slots := 0, locals := 0 } : Room) #[(.ref a)] h0 (fun v h L => v = some (.int (0 : Int32)) ∧ Fr n0 L ∧ h = h0) := by
  rcases ref_cases r1 with rfl | ⟨o1, rfl⟩ <;> rcases ref_cases r2 with rfl | ⟨o2, rfl⟩
  · exact absurd ⟨rfl, rfl⟩ nn
  · exact rm_emNR l Z a0 hw a o2 h0 n0 hn0 P0 P1
  · exact rm_emRN l Z a0 hw a o1 h0 n0 hn0 P0 P1
  · exact rm_emRR l Z a0 hw a o1 o2 h0 n0 hn0 P0 P1
theorem d_method_3_code_0 : decode method_3_code 0 = .ok (.iload_n 0, 1) := by decide +kernel
theorem d_method_3_code_1 : decode method_3_code 1 = .ok (.ifCond .eq 9, 3) := by decide +kernel
theorem d_method_3_code_4 : decode method_3_code 4 = .ok (.getstatic 16, 3) := by decide +kernel
theorem d_method_3_code_7 : decode method_3_code 7 = .ok (.goto 6, 3) := by decide +kernel
theorem d_method_3_code_10 : decode method_3_code 10 = .ok (.getstatic 22, 3) := by decide +kernel
theorem d_method_3_code_13 : decode method_3_code 13 = .ok (.areturn, 1) := by decide +kernel
theorem pn_7 : plainName "com/example/huntaway/huntaway/PrecedenceIsEmptyPinLaw" = true := by first | (simp [plainName, overriddenIn]; done) | decide +kernel
set_option maxRecDepth 65536 in
set_option maxHeartbeats 40000000 in
theorem rm_eff (l : Launch) (Z : State) (a0 : Array Value) (hw : ∀ d ∈ tables_1, d.before a0 Z = true) (zc : Int32) (fm : Value) (qF : Addr) (qP : Addr) (qI : Addr) (z : Int32) (h0 : Heap) (n0 : Nat) (hn0 : n0 ≤ h0.size) (S_c : Sta Z Z.heap "java/lang/String" "COMPACT_STRINGS" "Z" (.int zc)) (hzc : ¬ zc = (0 : Int32)) (S_f : Sta Z Z.heap "jdk/internal/util/Preconditions" "SIOOBE_FORMATTER" "Ljava/util/function/BiFunction;" fm) (hfm : fm.isRef = true) (S_F : Sta Z Z.heap "com/example/huntaway/huntaway/Effect" "FORBID" "Lcom/example/huntaway/huntaway/Effect;" (.ref qF)) (S_P : Sta Z Z.heap "com/example/huntaway/huntaway/Effect" "PERMIT" "Lcom/example/huntaway/huntaway/Effect;" (.ref qP)) (S_I : Sta Z Z.heap "com/example/huntaway/huntaway/CodePointOrder" "INSTANCE" "Lcom/example/huntaway/huntaway/CodePointOrder;" (.ref qI)) (A_I : Exa Z Z.heap qI "com/example/huntaway/huntaway/CodePointOrder") (O0 : Old Z n0 h0) :
    Con l Z (⟨"com/example/huntaway/huntaway/PrecedenceIsEmptyPinLaw", "effect", "(Z)Lcom/example/huntaway/huntaway/Effect;"⟩ : MethodName) method_3_code 1 (some (.object "com/example/huntaway/huntaway/Effect")) [] ({ frames := 0, cells := 0, slots := 0, locals := 0 } : Room) #[(.int z)] h0 (fun v h L => v = some (.ref (if z = (0 : Int32) then qP else qF)) ∧ Fr n0 L ∧ h = h0) := by
  refine enter (Ls := #[.val (.int z)]) (plainFor_of_name pn_7) (fun m => by exact entry_eq rfl) ?_
  intro p e s m below meth cd_ s₁ S0 hx hby hml hret hlk hnm hown hZ X0 e0 k0
  have N0 := Fr.nil n0
  have k1 : To p.tables e below S0 (s₁.setTop (mkF m 1 #[.val (.int z)] [(.int z)])) := fun tt hq => k0 tt (by
    show Steps _ _ _ (s₁.setTop (mkF m 0 #[.val (.int z)] [])) _
    refine XS.iloadN X0.here hx rfl (hb hby d_method_3_code_0) rfl ?_
    show Steps _ _ _ (s₁.setTop (mkF m 1 #[.val (.int z)] [(.int z)])) _
    exact hq)
  by_cases hc1_2 : z = (0 : Int32)
  · -- pc 1, holds
    have k3 : To p.tables e below S0 (s₁.setTop (mkF m 10 #[.val (.int z)] [])) := fun tt hq => k1 tt (by
      show Steps _ _ _ (s₁.setTop (mkF m 1 #[.val (.int z)] [(.int z)])) _
      refine XS.ifYes X0.here hx rfl (pc0 := 1) (pc' := 10) rfl (hb hby d_method_3_code_1) rfl ((if0 _ _).trans (teq hc1_2).1) (by decide) (by decide) ?_
      show Steps _ _ _ (s₁.setTop (mkF m 10 #[.val (.int z)] [])) _
      exact hq)
    obtain ⟨T4, X4, e4, st4⟩ := getS2 X0 hx hZ hown (host := "") (Or.inl (hw _ (List.mem_of_getElem? (i := 4) rfl))) Via.refl e0 (staOld S_P O0) (g := (mkF m 10 #[.val (.int z)] [])) rfl (hb hby d_method_3_code_10)
    have k4 : To p.tables e below S0 (T4.setTop (mkF m 13 #[.val (.int z)] [(.ref qP)])) := fun tt hq => k3 tt (st4 tt hq)
    have hE := e4
    refine retRef X4 hx hret hlk rfl rfl (hb hby d_method_3_code_13) k4 ?_ (by decide) (by decide)
    try rw [hE]
    exact ⟨by rw [if_pos hc1_2], N0, rfl⟩
  · -- pc 1, holds not
    have k5 : To p.tables e below S0 (s₁.setTop (mkF m 4 #[.val (.int z)] [])) := fun tt hq => k1 tt (by
      show Steps _ _ _ (s₁.setTop (mkF m 1 #[.val (.int z)] [(.int z)])) _
      refine XS.ifNo X0.here hx rfl (hb hby d_method_3_code_1) rfl ((if0 _ _).trans (feq hc1_2).1) ?_
      show Steps _ _ _ (s₁.setTop (mkF m 4 #[.val (.int z)] [])) _
      exact hq)
    obtain ⟨T6, X6, e6, st6⟩ := getS2 X0 hx hZ hown (host := "") (Or.inl (hw _ (List.mem_of_getElem? (i := 55) rfl))) Via.refl e0 (staOld S_F O0) (g := (mkF m 4 #[.val (.int z)] [])) rfl (hb hby d_method_3_code_4)
    have k6 : To p.tables e below S0 (T6.setTop (mkF m 7 #[.val (.int z)] [(.ref qF)])) := fun tt hq => k5 tt (st6 tt hq)
    have k7 : To p.tables e below S0 (T6.setTop (mkF m 13 #[.val (.int z)] [(.ref qF)])) := fun tt hq => k6 tt (by
      show Steps _ _ _ (T6.setTop (mkF m 7 #[.val (.int z)] [(.ref qF)])) _
      refine XS.goto X6.here hx rfl (pc0 := 7) (pc' := 13) rfl (hb hby d_method_3_code_7) (by decide) (by decide) ?_
      show Steps _ _ _ (T6.setTop (mkF m 13 #[.val (.int z)] [(.ref qF)])) _
      exact hq)
    have hE := e6
    refine retRef X6 hx hret hlk rfl rfl (hb hby d_method_3_code_13) k7 ?_ (by decide) (by decide)
    try rw [hE]
    exact ⟨by rw [if_neg hc1_2], N0, rfl⟩
theorem d_method_2_code_0 : decode method_2_code 0 = .ok (.iload_n 1, 1) := by decide +kernel
theorem d_method_2_code_1 : decode method_2_code 1 = .ok (.ifCond .eq 14, 3) := by decide +kernel
theorem d_method_2_code_4 : decode method_2_code 4 = .ok (.new 7, 3) := by decide +kernel
theorem d_method_2_code_7 : decode method_2_code 7 = .ok (.dup, 1) := by decide +kernel
theorem d_method_2_code_8 : decode method_2_code 8 = .ok (.iconst 0, 1) := by decide +kernel
theorem d_method_2_code_9 : decode method_2_code 9 = .ok (.newarray .char, 2) := by decide +kernel
theorem d_method_2_code_11 : decode method_2_code 11 = .ok (.invokespecial 9, 3) := by decide +kernel
theorem d_method_2_code_14 : decode method_2_code 14 = .ok (.areturn, 1) := by decide +kernel
theorem d_method_2_code_15 : decode method_2_code 15 = .ok (.iload_n 0, 1) := by decide +kernel
theorem d_method_2_code_16 : decode method_2_code 16 = .ok (.sipush 255, 3) := by decide +kernel
theorem d_method_2_code_19 : decode method_2_code 19 = .ok (.iand, 1) := by decide +kernel
theorem d_method_2_code_20 : decode method_2_code 20 = .ok (.i2c, 1) := by decide +kernel
theorem d_method_2_code_21 : decode method_2_code 21 = .ok (.invokestatic 12, 3) := by decide +kernel
theorem d_method_2_code_24 : decode method_2_code 24 = .ok (.areturn, 1) := by decide +kernel
theorem pd_13 : parseMethodDescriptor "(C)Ljava/lang/String;" = some ⟨[.char], some (.object "java/lang/String")⟩ := by decide +kernel
theorem pd_14 : parseMethodDescriptor "([C)V" = some ⟨[(.array .char)], none⟩ := by decide +kernel
set_option maxRecDepth 65536 in
set_option maxHeartbeats 40000000 in
theorem rm_name (l : Launch) (Z : State) (a0 : Array Value) (hw : ∀ d ∈ tables_1, d.before a0 Z = true) (zc : Int32) (fm : Value) (qF : Addr) (qP : Addr) (qI : Addr) (i : Int32) (z : Int32) (h0 : Heap) (n0 : Nat) (hn0 : n0 ≤ h0.size) (S_c : Sta Z Z.heap "java/lang/String" "COMPACT_STRINGS" "Z" (.int zc)) (hzc : ¬ zc = (0 : Int32)) (S_f : Sta Z Z.heap "jdk/internal/util/Preconditions" "SIOOBE_FORMATTER" "Ljava/util/function/BiFunction;" fm) (hfm : fm.isRef = true) (S_F : Sta Z Z.heap "com/example/huntaway/huntaway/Effect" "FORBID" "Lcom/example/huntaway/huntaway/Effect;" (.ref qF)) (S_P : Sta Z Z.heap "com/example/huntaway/huntaway/Effect" "PERMIT" "Lcom/example/huntaway/huntaway/Effect;" (.ref qP)) (S_I : Sta Z Z.heap "com/example/huntaway/huntaway/CodePointOrder" "INSTANCE" "Lcom/example/huntaway/huntaway/CodePointOrder;" (.ref qI)) (A_I : Exa Z Z.heap qI "com/example/huntaway/huntaway/CodePointOrder") (O0 : Old Z n0 h0) :
    ConW l Z own_EL (⟨"com/example/huntaway/huntaway/PrecedenceIsEmptyPinLaw", "name", "(IZ)Ljava/lang/String;"⟩ : MethodName) method_2_code 2 (some (.object "java/lang/String")) [] ({ frames := 3, cells := 6, slots := 12, locals := 43 } : Room) #[(.int i), (.int z)] h0 [] (fun v h L => ∃ a : Addr, v = some (.ref a) ∧ Fr n0 L ∧ h0.size ≤ a ∧ Keep h0 h [] ∧ Sm Z h a) := by
  refine enterW (Ls := #[.val (.int i), .val (.int z)]) (plainFor_of_name pn_7) (fun m => by exact entry_eq rfl) ?_
  intro p e s m below meth cd_ s₁ S0 vm0 hx hby hml hret hlk hnm hown hZ X0 e0 k0 C0 hsf hS0
  have N0 := Fr.nil n0
  have k1 : To p.tables e below S0 (s₁.setTop (mkF m 1 #[.val (.int i), .val (.int z)] [(.int z)])) := fun tt hq => k0 tt (by
    show Steps _ _ _ (s₁.setTop (mkF m 0 #[.val (.int i), .val (.int z)] [])) _
    refine XS.iloadN X0.here hx rfl (hb hby d_method_2_code_0) rfl ?_
    show Steps _ _ _ (s₁.setTop (mkF m 1 #[.val (.int i), .val (.int z)] [(.int z)])) _
    exact hq)
  by_cases hc1_2 : z = (0 : Int32)
  · -- pc 1, holds
    have k3 : To p.tables e below S0 (s₁.setTop (mkF m 21 #[.val (.int i), .val (.int z)] [(.int ((i &&& (255 : Int32)).toUInt32.toUInt16.toUInt32.toInt32))])) := fun tt hq => k1 tt (by
      show Steps _ _ _ (s₁.setTop (mkF m 1 #[.val (.int i), .val (.int z)] [(.int z)])) _
      refine XS.ifYes X0.here hx rfl (pc0 := 1) (pc' := 15) rfl (hb hby d_method_2_code_1) rfl ((if0 _ _).trans (teq hc1_2).1) (by decide) (by decide) ?_
      show Steps _ _ _ (s₁.setTop (mkF m 15 #[.val (.int i), .val (.int z)] [])) _
      refine XS.iloadN X0.here hx rfl (hb hby d_method_2_code_15) rfl ?_
      show Steps _ _ _ (s₁.setTop (mkF m 16 #[.val (.int i), .val (.int z)] [(.int i)])) _
      refine XS.sipush X0.here hx rfl (hb hby d_method_2_code_16) ?_
      show Steps _ _ _ (s₁.setTop (mkF m 19 #[.val (.int i), .val (.int z)] [(.int (255 : Int32)), (.int i)])) _
      refine XS.iand X0.here hx rfl (hb hby d_method_2_code_19) rfl ?_
      show Steps _ _ _ (s₁.setTop (mkF m 20 #[.val (.int i), .val (.int z)] [(.int (i &&& (255 : Int32)))])) _
      refine XS.i2c X0.here hx rfl (hb hby d_method_2_code_20) rfl ?_
      show Steps _ _ _ (s₁.setTop (mkF m 21 #[.val (.int i), .val (.int z)] [(.int ((i &&& (255 : Int32)).toUInt32.toUInt16.toUInt32.toInt32))])) _
      exact hq)
    have k4 : To p.tables e below S0 (s₁.setTop (mkF m 21 #[.val (.int i), .val (.int z)] [(.int (i &&& (255 : Int32)))])) := by have hq := k3; rw [i2c_mask] at hq; exact hq
    obtain ⟨_, T5, L5, X5, ⟨a5, t5, k5x, rfl, Nq5, ga5, gt5, Kq5, P50, P51, P52, P53⟩, k5a⟩ := callS' X0 hx hZ (y := (⟨"java/lang/String", "valueOf", "(C)Ljava/lang/String;"⟩ : MethodName)) hown (hw _ (List.mem_of_getElem? (i := 10) rfl)) (hw _ (List.mem_of_getElem? (i := 11) rfl)) (hw _ (List.mem_of_getElem? (i := 12) rfl)) (hw _ (List.mem_of_getElem? (i := 13) rfl)) (by decide) (backC (W := 0) (rm_vof l Z a0 hw zc (i &&& (255 : Int32)) h0 n0 (by omega) S_c hzc O0 (own_m255 _).2) hZ (hw _ (List.mem_of_getElem? (i := 13) rfl)) (hw _ (List.mem_of_getElem? (i := 12) rfl)) (by decide) (by decide)) e0 (argsL := [(.int (i &&& (255 : Int32)))]) (rest := []) rfl rfl pd_13 rfl (by rw [hml]; rfl) (hb hby d_method_2_code_21) (Nat.le_of_eq rfl) (by decide) (by decide) k4
    have k5 : To p.tables e below S0 (T5.setTop (mkF m 24 #[.val (.int i), .val (.int z)] [(.ref a5)])) := k5a
    have N5 := N0.app Nq5
    obtain ⟨h5, e5⟩ : ∃ z, T5.heap = z := ⟨_, rfl⟩
    rw [e5] at Kq5 P50 P51 P52 P53
    have z5 : h0.size ≤ h5.size := Kq5.1
    have C5 := C0.trans (CHr.keep Kq5 sf0 C0.1)
    have ya5 : @LT.lt Nat instLTNat a5 h5.size := P50.lt
    have yt5 : @LT.lt Nat instLTNat t5 h5.size := P53.lt
    refine retRefW X5 hx hZ (own_EW hw) hS0 (by omega) C5 e5 hret hlk rfl rfl (hb hby d_method_2_code_24) k5 ?_ (by decide) (by decide)
    exact ⟨_, rfl, N5, (by omega), ((Keep.refl h0 []).trans Kq5 all0), P50, _, _, P51, P52, Or.inr ⟨_, P53⟩⟩
  · -- pc 1, holds not
    have k6 : To p.tables e below S0 (s₁.setTop (mkF m 4 #[.val (.int i), .val (.int z)] [])) := fun tt hq => k1 tt (by
      show Steps _ _ _ (s₁.setTop (mkF m 1 #[.val (.int i), .val (.int z)] [(.int z)])) _
      refine XS.ifNo X0.here hx rfl (hb hby d_method_2_code_1) rfl ((if0 _ _).trans (feq hc1_2).1) ?_
      show Steps _ _ _ (s₁.setTop (mkF m 4 #[.val (.int i), .val (.int z)] [])) _
      exact hq)
    obtain ⟨T7, h7, X7, e7, E7, A7, D7, -, st7⟩ := newO X0 hx hZ hown (hw _ (List.mem_of_getElem? (i := 67) rfl)) (hw _ (List.mem_of_getElem? (i := 20) rfl)) (hw _ (List.mem_of_getElem? (i := 12) rfl)) e0 (g := (mkF m 4 #[.val (.int i), .val (.int z)] [])) rfl (hb hby d_method_2_code_4) (by decide) (by decide)
    obtain ⟨b7, g7⟩ : ∃ z, z = h0.size := ⟨_, rfl⟩
    rw [← g7] at A7 D7 st7
    have k7 : To p.tables e below S0 (T7.setTop (mkF m 7 #[.val (.int i), .val (.int z)] [(.ref b7)])) := fun tt hq => k6 tt (st7 tt hq)
    have z7 : h0.size ≤ h7.size := E7.1
    have y7 : @LT.lt Nat instLTNat b7 h7.size := A7.lt
    have C7 := C0.trans (CHr.ext E7 C0.1)
    have Sf7 : Safe Z own_EL vm0 h7 b7 := Safe.ext E7 C0.1 (Safe.new (by omega))
    have F7_value : Fld Z h7 b7 "java/lang/String" "value" "[B" .null := D7 (Or.inr (hw _ (List.mem_of_getElem? (i := 33) rfl))) (ty := (.array .byte)) (by decide)
    have F7_coder : Fld Z h7 b7 "java/lang/String" "coder" "B" (.int (0 : Int32)) := D7 (Or.inr (hw _ (List.mem_of_getElem? (i := 35) rfl))) (ty := .byte) (by decide)
    have k8 : To p.tables e below S0 (T7.setTop (mkF m 9 #[.val (.int i), .val (.int z)] [(.int (0 : Int32)), (.ref b7), (.ref b7)])) := fun tt hq => k7 tt (by
      show Steps _ _ _ (T7.setTop (mkF m 7 #[.val (.int i), .val (.int z)] [(.ref b7)])) _
      refine XS.dup X7.here hx rfl (hb hby d_method_2_code_7) rfl rfl ?_
      show Steps _ _ _ (T7.setTop (mkF m 8 #[.val (.int i), .val (.int z)] [(.ref b7), (.ref b7)])) _
      refine XS.iconst X7.here hx rfl (hb hby d_method_2_code_8) ?_
      show Steps _ _ _ (T7.setTop (mkF m 9 #[.val (.int i), .val (.int z)] [(.int (0 : Int32)), (.ref b7), (.ref b7)])) _
      exact hq)
    obtain ⟨T9, h9, c9, X9, e9, E9, A9, st9⟩ := newP X7 hx hZ (hw _ (List.mem_of_getElem? (i := 68) rfl)) e7 (g := (mkF m 9 #[.val (.int i), .val (.int z)] [(.int (0 : Int32)), (.ref b7), (.ref b7)])) rfl (hb hby d_method_2_code_9) rfl (by decide) (cap := 0) (by decide) (by decide) (by decide) (by decide)
    obtain ⟨b9, g9⟩ : ∃ z, z = h7.size := ⟨_, rfl⟩
    rw [← g9] at A9 st9
    have k9 : To p.tables e below S0 (T9.setTop (mkF m 11 #[.val (.int i), .val (.int z)] [(.ref b9), (.ref b7), (.ref b7)])) := fun tt hq => k8 tt (st9 tt hq)
    have z9 : h7.size ≤ h9.size := E9.1
    have C9 := C7.trans (CHr.ext E9 C7.1)
    have V9 : Arv Z h9 b9 c9 .char (0 : Int32) [] (.int (0 : Int32)) := (Arv.new A9 (by decide)).pad (pad_rep [] (.int (0 : Int32)) 0)
    have y9 : @LT.lt Nat instLTNat b9 h9.size := V9.lt
    have f10 : Exa Z h9 b7 "java/lang/String" := (A7.ext E9)
    have f11 : Fld Z h9 b7 "java/lang/String" "value" "[B" .null := (F7_value.ext E9)
    have f12 : Fld Z h9 b7 "java/lang/String" "coder" "B" (.int (0 : Int32)) := (F7_coder.ext E9)
    have f14 : Safe Z own_EL vm0 h9 b7 := (Safe.ext E9 C7.1 Sf7)
    obtain ⟨_, T13, L13, X13, ⟨rfl, Nq13, Kq13, t13, kt13, gt13, P130, P131, P132, P133⟩, k13a, Cq13, hS13, hZ13, hown13⟩ := callCW X9 hx hZ (y := (⟨"java/lang/String", "<init>", "([C)V"⟩ : MethodName)) rfl hown hS0 (by omega) (hw _ (List.mem_of_getElem? (i := 69) rfl)) (hw _ (List.mem_of_getElem? (i := 70) rfl)) (hw _ (List.mem_of_getElem? (i := 71) rfl)) (by decide) (backOfW (W := 1) (rm_n1_0 l Z a0 hw b7 b9 c9 .null (.int (0 : Int32)) h9 n0 (by omega) f10 f11 f12 V9 (by omega) (by omega)) hZ (hw _ (List.mem_of_getElem? (i := 71) rfl)) (hw _ (List.mem_of_getElem? (i := 12) rfl)) (by decide) (by decide) (own_EW hw) C9.1 (allS ⟨adr_lt (by omega), f14⟩ all0)) e9 (argsL := [(.ref b9)]) (rest := [(.ref b7)]) rfl rfl pd_14 rfl (by rw [hml]; rfl) (hb hby d_method_2_code_11) (Nat.le_of_eq rfl) (by decide) (by decide) k9
    have k13 : To p.tables e below S0 (T13.setTop (mkF m 14 #[.val (.int i), .val (.int z)] [(.ref b7)])) := k13a
    have N13 := N0.app Nq13
    obtain ⟨h13, e13⟩ : ∃ z, T13.heap = z := ⟨_, rfl⟩
    rw [e13] at Kq13 gt13 P130 P131 P132 P133 Cq13 hS13
    have z13 : h9.size ≤ h13.size := Kq13.1
    have C13 := C9.trans Cq13
    refine retRefW X13 hx hZ13 (own_EW hw) hS13 (by omega) C13 e13 hret hlk rfl rfl (hb hby d_method_2_code_14) k13 ?_ (by decide) (by decide)
    exact ⟨_, rfl, N13, (by omega), ((((Keep.refl h0 []).ext E7).ext E9).trans Kq13 (allS (Or.inr (by omega)) all0)), P130, _, _, P131, P132, Or.inl P133⟩
theorem own_and3 (k : Int32) : (k &&& (3 : Int32)) = (0 : Int32) ∨ (k &&& (3 : Int32)) = (1 : Int32) ∨ (k &&& (3 : Int32)) = (2 : Int32) ∨ (k &&& (3 : Int32)) = (3 : Int32) := by
  have h : (k &&& 3).toBitVec.toNat ≤ 3 := by
    rw [Int32.toBitVec_and, BitVec.toNat_and]; exact Nat.and_le_right
  simp only [← Int32.toBitVec_inj, ← BitVec.toNat_inj, show (0 : Int32).toBitVec.toNat = 0 from rfl, show (1 : Int32).toBitVec.toNat = 1 from rfl, show (2 : Int32).toBitVec.toNat = 2 from rfl, show (3 : Int32).toBitVec.toNat = 3 from rfl]
  omega
theorem pd_15 : parseMethodDescriptor "(Z)Lcom/example/huntaway/huntaway/Effect;" = some ⟨[.boolean], some (.object "com/example/huntaway/huntaway/Effect")⟩ := by decide +kernel
theorem pd_16 : parseMethodDescriptor "(IZ)Ljava/lang/String;" = some ⟨[.int, .boolean], some (.object "java/lang/String")⟩ := by decide +kernel
theorem pd_17 : parseMethodDescriptor "()V" = some ⟨[], none⟩ := by decide +kernel
theorem pd_18 : parseMethodDescriptor "(Lcom/example/huntaway/huntaway/Effect;JLjava/lang/String;)V" = some ⟨[(.object "com/example/huntaway/huntaway/Effect"), .long, (.object "java/lang/String")], none⟩ := by decide +kernel
set_option maxRecDepth 65536 in
set_option maxHeartbeats 40000000 in
theorem rm0 (l : Launch) (Z : State) (a0 : Array Value) (hw : ∀ d ∈ tables_1, d.before a0 Z = true) (zc : Int32) (fm : Value) (qF : Addr) (qP : Addr) (qI : Addr) (q : Int32) (a : Int64) (b : Int64) (d : Int64) (f : Int32) (h0 : Heap) (n0 : Nat) (hn0 : n0 ≤ h0.size) (S_c : Sta Z Z.heap "java/lang/String" "COMPACT_STRINGS" "Z" (.int zc)) (hzc : ¬ zc = (0 : Int32)) (S_f : Sta Z Z.heap "jdk/internal/util/Preconditions" "SIOOBE_FORMATTER" "Ljava/util/function/BiFunction;" fm) (hfm : fm.isRef = true) (S_F : Sta Z Z.heap "com/example/huntaway/huntaway/Effect" "FORBID" "Lcom/example/huntaway/huntaway/Effect;" (.ref qF)) (S_P : Sta Z Z.heap "com/example/huntaway/huntaway/Effect" "PERMIT" "Lcom/example/huntaway/huntaway/Effect;" (.ref qP)) (S_I : Sta Z Z.heap "com/example/huntaway/huntaway/CodePointOrder" "INSTANCE" "Lcom/example/huntaway/huntaway/CodePointOrder;" (.ref qI)) (A_I : Exa Z Z.heap qI "com/example/huntaway/huntaway/CodePointOrder") (O0 : Old Z n0 h0) :
    ConW l Z own_EL x code maxLocals ret tables_1 room_1 #[(.int q), (.long a), (.long b), (.long d), (.int f)] h0 [] (fun v h L => v = some (.int 1) ∧ Fr n0 L) := by
  refine enterW (Ls := #[.val (.int q), .val (.long a), .second, .val (.long b), .second, .val (.long d), .second, .val (.int f), .unset, .unset, .unset, .unset, .unset, .unset, .unset, .unset, .unset]) (plainFor_of_name pn_7) (fun m => by exact entry_eq rfl) ?_
  intro p e s m below meth cd_ s₁ S0 vm0 hx hby hml hret hlk hnm hown hZ X0 e0 k0 C0 hsf hS0
  have N0 := Fr.nil n0
  let l1 : Array Slot := #[.val (.int q), .val (.long a), .second, .val (.long b), .second, .val (.long d), .second, .val (.int f), .unset, .unset, .unset, .unset, .unset, .unset, .unset, .unset, .unset]
  have k2 : To p.tables e below S0 (s₁.setTop (mkF m 3 l1 [(.int (q &&& (3 : Int32)))])) := fun tt hq => k0 tt (by
    show Steps _ _ _ (s₁.setTop (mkF m 0 l1 [])) _
    refine XS.iloadN X0.here hx rfl (hb hby at_0) rfl ?_
    show Steps _ _ _ (s₁.setTop (mkF m 1 l1 [(.int q)])) _
    refine XS.iconst X0.here hx rfl (hb hby at_1) ?_
    show Steps _ _ _ (s₁.setTop (mkF m 2 l1 [(.int (3 : Int32)), (.int q)])) _
    refine XS.iand X0.here hx rfl (hb hby at_2) rfl ?_
    show Steps _ _ _ (s₁.setTop (mkF m 3 l1 [(.int (q &&& (3 : Int32)))])) _
    exact hq)
  rcases own_and3 q with ht3 | ht3 | ht3 | ht3
  · -- pc 3: (0 : Int32)
    have k4 : To p.tables e below S0 (s₁.setTop (mkF m 3 l1 [(.int (0 : Int32))])) := by have hq := k2; rw [ht3] at hq; exact hq
    let l5 : Array Slot := #[.val (.int q), .val (.long a), .second, .val (.long b), .second, .val (.long d), .second, .val (.int f), .val (.int (0 : Int32)), .unset, .unset, .unset, .unset, .unset, .unset, .unset, .unset]
    have k6 : To p.tables e below S0 (s₁.setTop (mkF m 8 l5 [(.int (q &&& (4 : Int32)))])) := fun tt hq => k4 tt (by
      show Steps _ _ _ (s₁.setTop (mkF m 3 l1 [(.int (0 : Int32))])) _
      refine XS.istore X0.here hx rfl (hb hby at_3) rfl (l' := l5) rfl ?_
      show Steps _ _ _ (s₁.setTop (mkF m 5 l5 [])) _
      refine XS.iloadN X0.here hx rfl (hb hby at_5) rfl ?_
      show Steps _ _ _ (s₁.setTop (mkF m 6 l5 [(.int q)])) _
      refine XS.iconst X0.here hx rfl (hb hby at_6) ?_
      show Steps _ _ _ (s₁.setTop (mkF m 7 l5 [(.int (4 : Int32)), (.int q)])) _
      refine XS.iand X0.here hx rfl (hb hby at_7) rfl ?_
      show Steps _ _ _ (s₁.setTop (mkF m 8 l5 [(.int (q &&& (4 : Int32)))])) _
      exact hq)
    refine joinT (S0 := S0) X0 e0 (mkF m 16 l5 [(.int (if (q &&& (4 : Int32)) = (0 : Int32) then (0 : Int32) else (1 : Int32)))]) (fun kont => ?_) (fun T7 X7 e7 k7 => ?_)
    · -- the roads to pc 16
      by_cases hc8_8 : (q &&& (4 : Int32)) = (0 : Int32)
      · -- pc 8, holds
        have k9 : To p.tables e below S0 (s₁.setTop (mkF m 16 l5 [(.int (0 : Int32))])) := fun tt hq => k6 tt (by
          show Steps _ _ _ (s₁.setTop (mkF m 8 l5 [(.int (q &&& (4 : Int32)))])) _
          refine XS.ifYes X0.here hx rfl (pc0 := 8) (pc' := 15) rfl (hb hby at_8) rfl ((if0 _ _).trans (teq hc8_8).1) (by decide) (by decide) ?_
          show Steps _ _ _ (s₁.setTop (mkF m 15 l5 [])) _
          refine XS.iconst X0.here hx rfl (hb hby at_15) ?_
          show Steps _ _ _ (s₁.setTop (mkF m 16 l5 [(.int (0 : Int32))])) _
          exact hq)
        exact kont s₁ X0 e0 (fun tt hq => k9 tt (by simpa only [if_pos hc8_8, l5] using hq))
      · -- pc 8, holds not
        have k10 : To p.tables e below S0 (s₁.setTop (mkF m 16 l5 [(.int (1 : Int32))])) := fun tt hq => k6 tt (by
          show Steps _ _ _ (s₁.setTop (mkF m 8 l5 [(.int (q &&& (4 : Int32)))])) _
          refine XS.ifNo X0.here hx rfl (hb hby at_8) rfl ((if0 _ _).trans (feq hc8_8).1) ?_
          show Steps _ _ _ (s₁.setTop (mkF m 11 l5 [])) _
          refine XS.iconst X0.here hx rfl (hb hby at_11) ?_
          show Steps _ _ _ (s₁.setTop (mkF m 12 l5 [(.int (1 : Int32))])) _
          refine XS.goto X0.here hx rfl (pc0 := 12) (pc' := 16) rfl (hb hby at_12) (by decide) (by decide) ?_
          show Steps _ _ _ (s₁.setTop (mkF m 16 l5 [(.int (1 : Int32))])) _
          exact hq)
        exact kont s₁ X0 e0 (fun tt hq => k10 tt (by simpa only [if_neg hc8_8, l5] using hq))
    obtain ⟨_, T11, L11, X11, ⟨rfl, Nq11, eq11⟩, k11a⟩ := callS' X7 hx hZ (y := (⟨"com/example/huntaway/huntaway/PrecedenceIsEmptyPinLaw", "effect", "(Z)Lcom/example/huntaway/huntaway/Effect;"⟩ : MethodName)) hown (hw _ (List.mem_of_getElem? (i := 0) rfl)) (hw _ (List.mem_of_getElem? (i := 1) rfl)) (hw _ (List.mem_of_getElem? (i := 2) rfl)) (hw _ (List.mem_of_getElem? (i := 3) rfl)) (by decide) (backC (W := 0) (rm_eff l Z a0 hw zc fm qF qP qI (if (q &&& (4 : Int32)) = (0 : Int32) then (0 : Int32) else (1 : Int32)) h0 n0 (by omega) S_c hzc S_f hfm S_F S_P S_I A_I O0) hZ (hw _ (List.mem_of_getElem? (i := 3) rfl)) (hw _ (List.mem_of_getElem? (i := 2) rfl)) (by decide) (by decide)) e7 (argsL := [(.int (if (q &&& (4 : Int32)) = (0 : Int32) then (0 : Int32) else (1 : Int32)))]) (rest := []) rfl rfl pd_15 rfl (by rw [hml]; rfl) (hb hby at_16) (Nat.le_of_eq rfl) (by decide) (by decide) k7
    have k11 : To p.tables e below S0 (T11.setTop (mkF m 19 l5 [(.ref (if (if (q &&& (4 : Int32)) = (0 : Int32) then (0 : Int32) else (1 : Int32)) = (0 : Int32) then qP else qF))])) := k11a
    have N11 := N0.app Nq11
    have e11 : T11.heap = h0 := eq11
    let l12 : Array Slot := #[.val (.int q), .val (.long a), .second, .val (.long b), .second, .val (.long d), .second, .val (.int f), .val (.int (0 : Int32)), .val (.ref (if (if (q &&& (4 : Int32)) = (0 : Int32) then (0 : Int32) else (1 : Int32)) = (0 : Int32) then qP else qF)), .unset, .unset, .unset, .unset, .unset, .unset, .unset]
    have k13 : To p.tables e below S0 (T11.setTop (mkF m 25 l12 [(.int (q &&& (8 : Int32)))])) := fun tt hq => k11 tt (by
      show Steps _ _ _ (T11.setTop (mkF m 19 l5 [(.ref (if (if (q &&& (4 : Int32)) = (0 : Int32) then (0 : Int32) else (1 : Int32)) = (0 : Int32) then qP else qF))])) _
      refine XS.astore X11.here hx rfl (hb hby at_19) rfl rfl (l' := l12) rfl ?_
      show Steps _ _ _ (T11.setTop (mkF m 21 l12 [])) _
      refine XS.iloadN X11.here hx rfl (hb hby at_21) rfl ?_
      show Steps _ _ _ (T11.setTop (mkF m 22 l12 [(.int q)])) _
      refine XS.bipush X11.here hx rfl (hb hby at_22) ?_
      show Steps _ _ _ (T11.setTop (mkF m 24 l12 [(.int (8 : Int32)), (.int q)])) _
      refine XS.iand X11.here hx rfl (hb hby at_24) rfl ?_
      show Steps _ _ _ (T11.setTop (mkF m 25 l12 [(.int (q &&& (8 : Int32)))])) _
      exact hq)
    refine joinT (S0 := S0) X11 e11 (mkF m 33 l12 [(.int (if (q &&& (8 : Int32)) = (0 : Int32) then (0 : Int32) else (1 : Int32)))]) (fun kont => ?_) (fun T14 X14 e14 k14 => ?_)
    · -- the roads to pc 33
      by_cases hc25_15 : (q &&& (8 : Int32)) = (0 : Int32)
      · -- pc 25, holds
        have k16 : To p.tables e below S0 (T11.setTop (mkF m 33 l12 [(.int (0 : Int32))])) := fun tt hq => k13 tt (by
          show Steps _ _ _ (T11.setTop (mkF m 25 l12 [(.int (q &&& (8 : Int32)))])) _
          refine XS.ifYes X11.here hx rfl (pc0 := 25) (pc' := 32) rfl (hb hby at_25) rfl ((if0 _ _).trans (teq hc25_15).1) (by decide) (by decide) ?_
          show Steps _ _ _ (T11.setTop (mkF m 32 l12 [])) _
          refine XS.iconst X11.here hx rfl (hb hby at_32) ?_
          show Steps _ _ _ (T11.setTop (mkF m 33 l12 [(.int (0 : Int32))])) _
          exact hq)
        exact kont T11 X11 e11 (fun tt hq => k16 tt (by simpa only [if_pos hc25_15, l12] using hq))
      · -- pc 25, holds not
        have k17 : To p.tables e below S0 (T11.setTop (mkF m 33 l12 [(.int (1 : Int32))])) := fun tt hq => k13 tt (by
          show Steps _ _ _ (T11.setTop (mkF m 25 l12 [(.int (q &&& (8 : Int32)))])) _
          refine XS.ifNo X11.here hx rfl (hb hby at_25) rfl ((if0 _ _).trans (feq hc25_15).1) ?_
          show Steps _ _ _ (T11.setTop (mkF m 28 l12 [])) _
          refine XS.iconst X11.here hx rfl (hb hby at_28) ?_
          show Steps _ _ _ (T11.setTop (mkF m 29 l12 [(.int (1 : Int32))])) _
          refine XS.goto X11.here hx rfl (pc0 := 29) (pc' := 33) rfl (hb hby at_29) (by decide) (by decide) ?_
          show Steps _ _ _ (T11.setTop (mkF m 33 l12 [(.int (1 : Int32))])) _
          exact hq)
        exact kont T11 X11 e11 (fun tt hq => k17 tt (by simpa only [if_neg hc25_15, l12] using hq))
    obtain ⟨_, T18, L18, X18, ⟨rfl, Nq18, eq18⟩, k18a⟩ := callS' X14 hx hZ (y := (⟨"com/example/huntaway/huntaway/PrecedenceIsEmptyPinLaw", "effect", "(Z)Lcom/example/huntaway/huntaway/Effect;"⟩ : MethodName)) hown (hw _ (List.mem_of_getElem? (i := 0) rfl)) (hw _ (List.mem_of_getElem? (i := 1) rfl)) (hw _ (List.mem_of_getElem? (i := 2) rfl)) (hw _ (List.mem_of_getElem? (i := 3) rfl)) (by decide) (backC (W := 0) (rm_eff l Z a0 hw zc fm qF qP qI (if (q &&& (8 : Int32)) = (0 : Int32) then (0 : Int32) else (1 : Int32)) h0 n0 (by omega) S_c hzc S_f hfm S_F S_P S_I A_I O0) hZ (hw _ (List.mem_of_getElem? (i := 3) rfl)) (hw _ (List.mem_of_getElem? (i := 2) rfl)) (by decide) (by decide)) e14 (argsL := [(.int (if (q &&& (8 : Int32)) = (0 : Int32) then (0 : Int32) else (1 : Int32)))]) (rest := []) rfl rfl pd_15 rfl (by rw [hml]; rfl) (hb hby at_33) (Nat.le_of_eq rfl) (by decide) (by decide) k14
    have k18 : To p.tables e below S0 (T18.setTop (mkF m 36 l12 [(.ref (if (if (q &&& (8 : Int32)) = (0 : Int32) then (0 : Int32) else (1 : Int32)) = (0 : Int32) then qP else qF))])) := k18a
    have N18 := N11.app Nq18
    have e18 : T18.heap = h0 := eq18
    let l19 : Array Slot := #[.val (.int q), .val (.long a), .second, .val (.long b), .second, .val (.long d), .second, .val (.int f), .val (.int (0 : Int32)), .val (.ref (if (if (q &&& (4 : Int32)) = (0 : Int32) then (0 : Int32) else (1 : Int32)) = (0 : Int32) then qP else qF)), .val (.ref (if (if (q &&& (8 : Int32)) = (0 : Int32) then (0 : Int32) else (1 : Int32)) = (0 : Int32) then qP else qF)), .unset, .unset, .unset, .unset, .unset, .unset]
    have k20 : To p.tables e below S0 (T18.setTop (mkF m 42 l19 [(.int (q &&& (16 : Int32)))])) := fun tt hq => k18 tt (by
      show Steps _ _ _ (T18.setTop (mkF m 36 l12 [(.ref (if (if (q &&& (8 : Int32)) = (0 : Int32) then (0 : Int32) else (1 : Int32)) = (0 : Int32) then qP else qF))])) _
      refine XS.astore X18.here hx rfl (hb hby at_36) rfl rfl (l' := l19) rfl ?_
      show Steps _ _ _ (T18.setTop (mkF m 38 l19 [])) _
      refine XS.iloadN X18.here hx rfl (hb hby at_38) rfl ?_
      show Steps _ _ _ (T18.setTop (mkF m 39 l19 [(.int q)])) _
      refine XS.bipush X18.here hx rfl (hb hby at_39) ?_
      show Steps _ _ _ (T18.setTop (mkF m 41 l19 [(.int (16 : Int32)), (.int q)])) _
      refine XS.iand X18.here hx rfl (hb hby at_41) rfl ?_
      show Steps _ _ _ (T18.setTop (mkF m 42 l19 [(.int (q &&& (16 : Int32)))])) _
      exact hq)
    refine joinT (S0 := S0) X18 e18 (mkF m 50 l19 [(.int (if (q &&& (16 : Int32)) = (0 : Int32) then (0 : Int32) else (1 : Int32)))]) (fun kont => ?_) (fun T21 X21 e21 k21 => ?_)
    · -- the roads to pc 50
      by_cases hc42_22 : (q &&& (16 : Int32)) = (0 : Int32)
      · -- pc 42, holds
        have k23 : To p.tables e below S0 (T18.setTop (mkF m 50 l19 [(.int (0 : Int32))])) := fun tt hq => k20 tt (by
          show Steps _ _ _ (T18.setTop (mkF m 42 l19 [(.int (q &&& (16 : Int32)))])) _
          refine XS.ifYes X18.here hx rfl (pc0 := 42) (pc' := 49) rfl (hb hby at_42) rfl ((if0 _ _).trans (teq hc42_22).1) (by decide) (by decide) ?_
          show Steps _ _ _ (T18.setTop (mkF m 49 l19 [])) _
          refine XS.iconst X18.here hx rfl (hb hby at_49) ?_
          show Steps _ _ _ (T18.setTop (mkF m 50 l19 [(.int (0 : Int32))])) _
          exact hq)
        exact kont T18 X18 e18 (fun tt hq => k23 tt (by simpa only [if_pos hc42_22, l19] using hq))
      · -- pc 42, holds not
        have k24 : To p.tables e below S0 (T18.setTop (mkF m 50 l19 [(.int (1 : Int32))])) := fun tt hq => k20 tt (by
          show Steps _ _ _ (T18.setTop (mkF m 42 l19 [(.int (q &&& (16 : Int32)))])) _
          refine XS.ifNo X18.here hx rfl (hb hby at_42) rfl ((if0 _ _).trans (feq hc42_22).1) ?_
          show Steps _ _ _ (T18.setTop (mkF m 45 l19 [])) _
          refine XS.iconst X18.here hx rfl (hb hby at_45) ?_
          show Steps _ _ _ (T18.setTop (mkF m 46 l19 [(.int (1 : Int32))])) _
          refine XS.goto X18.here hx rfl (pc0 := 46) (pc' := 50) rfl (hb hby at_46) (by decide) (by decide) ?_
          show Steps _ _ _ (T18.setTop (mkF m 50 l19 [(.int (1 : Int32))])) _
          exact hq)
        exact kont T18 X18 e18 (fun tt hq => k24 tt (by simpa only [if_neg hc42_22, l19] using hq))
    obtain ⟨_, T25, L25, X25, ⟨rfl, Nq25, eq25⟩, k25a⟩ := callS' X21 hx hZ (y := (⟨"com/example/huntaway/huntaway/PrecedenceIsEmptyPinLaw", "effect", "(Z)Lcom/example/huntaway/huntaway/Effect;"⟩ : MethodName)) hown (hw _ (List.mem_of_getElem? (i := 0) rfl)) (hw _ (List.mem_of_getElem? (i := 1) rfl)) (hw _ (List.mem_of_getElem? (i := 2) rfl)) (hw _ (List.mem_of_getElem? (i := 3) rfl)) (by decide) (backC (W := 0) (rm_eff l Z a0 hw zc fm qF qP qI (if (q &&& (16 : Int32)) = (0 : Int32) then (0 : Int32) else (1 : Int32)) h0 n0 (by omega) S_c hzc S_f hfm S_F S_P S_I A_I O0) hZ (hw _ (List.mem_of_getElem? (i := 3) rfl)) (hw _ (List.mem_of_getElem? (i := 2) rfl)) (by decide) (by decide)) e21 (argsL := [(.int (if (q &&& (16 : Int32)) = (0 : Int32) then (0 : Int32) else (1 : Int32)))]) (rest := []) rfl rfl pd_15 rfl (by rw [hml]; rfl) (hb hby at_50) (Nat.le_of_eq rfl) (by decide) (by decide) k21
    have k25 : To p.tables e below S0 (T25.setTop (mkF m 53 l19 [(.ref (if (if (q &&& (16 : Int32)) = (0 : Int32) then (0 : Int32) else (1 : Int32)) = (0 : Int32) then qP else qF))])) := k25a
    have N25 := N18.app Nq25
    have e25 : T25.heap = h0 := eq25
    let l26 : Array Slot := #[.val (.int q), .val (.long a), .second, .val (.long b), .second, .val (.long d), .second, .val (.int f), .val (.int (0 : Int32)), .val (.ref (if (if (q &&& (4 : Int32)) = (0 : Int32) then (0 : Int32) else (1 : Int32)) = (0 : Int32) then qP else qF)), .val (.ref (if (if (q &&& (8 : Int32)) = (0 : Int32) then (0 : Int32) else (1 : Int32)) = (0 : Int32) then qP else qF)), .val (.ref (if (if (q &&& (16 : Int32)) = (0 : Int32) then (0 : Int32) else (1 : Int32)) = (0 : Int32) then qP else qF)), .unset, .unset, .unset, .unset, .unset]
    have k27 : To p.tables e below S0 (T25.setTop (mkF m 61 l26 [(.int (q &&& (32 : Int32))), (.int f)])) := fun tt hq => k25 tt (by
      show Steps _ _ _ (T25.setTop (mkF m 53 l19 [(.ref (if (if (q &&& (16 : Int32)) = (0 : Int32) then (0 : Int32) else (1 : Int32)) = (0 : Int32) then qP else qF))])) _
      refine XS.astore X25.here hx rfl (hb hby at_53) rfl rfl (l' := l26) rfl ?_
      show Steps _ _ _ (T25.setTop (mkF m 55 l26 [])) _
      refine XS.iload X25.here hx rfl (hb hby at_55) rfl ?_
      show Steps _ _ _ (T25.setTop (mkF m 57 l26 [(.int f)])) _
      refine XS.iloadN X25.here hx rfl (hb hby at_57) rfl ?_
      show Steps _ _ _ (T25.setTop (mkF m 58 l26 [(.int q), (.int f)])) _
      refine XS.bipush X25.here hx rfl (hb hby at_58) ?_
      show Steps _ _ _ (T25.setTop (mkF m 60 l26 [(.int (32 : Int32)), (.int q), (.int f)])) _
      refine XS.iand X25.here hx rfl (hb hby at_60) rfl ?_
      show Steps _ _ _ (T25.setTop (mkF m 61 l26 [(.int (q &&& (32 : Int32))), (.int f)])) _
      exact hq)
    refine joinT (S0 := S0) X25 e25 (mkF m 69 l26 [(.int (if (q &&& (32 : Int32)) = (0 : Int32) then (0 : Int32) else (1 : Int32))), (.int f)]) (fun kont => ?_) (fun T28 X28 e28 k28 => ?_)
    · -- the roads to pc 69
      by_cases hc61_29 : (q &&& (32 : Int32)) = (0 : Int32)
      · -- pc 61, holds
        have k30 : To p.tables e below S0 (T25.setTop (mkF m 69 l26 [(.int (0 : Int32)), (.int f)])) := fun tt hq => k27 tt (by
          show Steps _ _ _ (T25.setTop (mkF m 61 l26 [(.int (q &&& (32 : Int32))), (.int f)])) _
          refine XS.ifYes X25.here hx rfl (pc0 := 61) (pc' := 68) rfl (hb hby at_61) rfl ((if0 _ _).trans (teq hc61_29).1) (by decide) (by decide) ?_
          show Steps _ _ _ (T25.setTop (mkF m 68 l26 [(.int f)])) _
          refine XS.iconst X25.here hx rfl (hb hby at_68) ?_
          show Steps _ _ _ (T25.setTop (mkF m 69 l26 [(.int (0 : Int32)), (.int f)])) _
          exact hq)
        exact kont T25 X25 e25 (fun tt hq => k30 tt (by simpa only [if_pos hc61_29, l26] using hq))
      · -- pc 61, holds not
        have k31 : To p.tables e below S0 (T25.setTop (mkF m 69 l26 [(.int (1 : Int32)), (.int f)])) := fun tt hq => k27 tt (by
          show Steps _ _ _ (T25.setTop (mkF m 61 l26 [(.int (q &&& (32 : Int32))), (.int f)])) _
          refine XS.ifNo X25.here hx rfl (hb hby at_61) rfl ((if0 _ _).trans (feq hc61_29).1) ?_
          show Steps _ _ _ (T25.setTop (mkF m 64 l26 [(.int f)])) _
          refine XS.iconst X25.here hx rfl (hb hby at_64) ?_
          show Steps _ _ _ (T25.setTop (mkF m 65 l26 [(.int (1 : Int32)), (.int f)])) _
          refine XS.goto X25.here hx rfl (pc0 := 65) (pc' := 69) rfl (hb hby at_65) (by decide) (by decide) ?_
          show Steps _ _ _ (T25.setTop (mkF m 69 l26 [(.int (1 : Int32)), (.int f)])) _
          exact hq)
        exact kont T25 X25 e25 (fun tt hq => k31 tt (by simpa only [if_neg hc61_29, l26] using hq))
    obtain ⟨_, T32, L32, X32, ⟨a32, rfl, Nq32, ga32, Kq32, S32⟩, k32a, Cq32, hS32, hZ32, hown32⟩ := callSW X28 hx hZ (y := (⟨"com/example/huntaway/huntaway/PrecedenceIsEmptyPinLaw", "name", "(IZ)Ljava/lang/String;"⟩ : MethodName)) hown hS0 (by omega) (hw _ (List.mem_of_getElem? (i := 7) rfl)) (hw _ (List.mem_of_getElem? (i := 8) rfl)) (hw _ (List.mem_of_getElem? (i := 2) rfl)) (hw _ (List.mem_of_getElem? (i := 9) rfl)) (by decide) (backOfW (W := 0) (rm_name l Z a0 hw zc fm qF qP qI f (if (q &&& (32 : Int32)) = (0 : Int32) then (0 : Int32) else (1 : Int32)) h0 n0 (by omega) S_c hzc S_f hfm S_F S_P S_I A_I O0) hZ (hw _ (List.mem_of_getElem? (i := 9) rfl)) (hw _ (List.mem_of_getElem? (i := 2) rfl)) (by decide) (by decide) (own_EW hw) C0.1 all0) e28 (argsL := [(.int f), (.int (if (q &&& (32 : Int32)) = (0 : Int32) then (0 : Int32) else (1 : Int32)))]) (rest := []) rfl rfl pd_16 rfl (by rw [hml]; rfl) (hb hby at_69) (Nat.le_of_eq rfl) (by decide) (by decide) k28
    have k32 : To p.tables e below S0 (T32.setTop (mkF m 72 l26 [(.ref a32)])) := k32a
    have N32 := N25.app Nq32
    obtain ⟨h32, e32⟩ : ∃ z, T32.heap = z := ⟨_, rfl⟩
    rw [e32] at Kq32 S32 Cq32 hS32
    have z32 : h0.size ≤ h32.size := Kq32.1
    have C32 := C0.trans Cq32
    have y32 : @LT.lt Nat instLTNat a32 h32.size := S32.1.lt
    let l33 : Array Slot := #[.val (.int q), .val (.long a), .second, .val (.long b), .second, .val (.long d), .second, .val (.int f), .val (.int (0 : Int32)), .val (.ref (if (if (q &&& (4 : Int32)) = (0 : Int32) then (0 : Int32) else (1 : Int32)) = (0 : Int32) then qP else qF)), .val (.ref (if (if (q &&& (8 : Int32)) = (0 : Int32) then (0 : Int32) else (1 : Int32)) = (0 : Int32) then qP else qF)), .val (.ref (if (if (q &&& (16 : Int32)) = (0 : Int32) then (0 : Int32) else (1 : Int32)) = (0 : Int32) then qP else qF)), .val (.ref a32), .unset, .unset, .unset, .unset]
    have k34 : To p.tables e below S0 (T32.setTop (mkF m 83 l33 [(.int (q &&& (64 : Int32))), (.int ((f.toUInt32 >>> ((8 : Int32) &&& 31).toUInt32).toInt32))])) := fun tt hq => k32 tt (by
      show Steps _ _ _ (T32.setTop (mkF m 72 l26 [(.ref a32)])) _
      refine XS.astore X32.here hx rfl (hb hby at_72) rfl rfl (l' := l33) rfl ?_
      show Steps _ _ _ (T32.setTop (mkF m 74 l33 [])) _
      refine XS.iload X32.here hx rfl (hb hby at_74) rfl ?_
      show Steps _ _ _ (T32.setTop (mkF m 76 l33 [(.int f)])) _
      refine XS.bipush X32.here hx rfl (hb hby at_76) ?_
      show Steps _ _ _ (T32.setTop (mkF m 78 l33 [(.int (8 : Int32)), (.int f)])) _
      refine XS.iushr X32.here hx rfl (hb hby at_78) rfl ?_
      show Steps _ _ _ (T32.setTop (mkF m 79 l33 [(.int ((f.toUInt32 >>> ((8 : Int32) &&& 31).toUInt32).toInt32))])) _
      refine XS.iloadN X32.here hx rfl (hb hby at_79) rfl ?_
      show Steps _ _ _ (T32.setTop (mkF m 80 l33 [(.int q), (.int ((f.toUInt32 >>> ((8 : Int32) &&& 31).toUInt32).toInt32))])) _
      refine XS.bipush X32.here hx rfl (hb hby at_80) ?_
      show Steps _ _ _ (T32.setTop (mkF m 82 l33 [(.int (64 : Int32)), (.int q), (.int ((f.toUInt32 >>> ((8 : Int32) &&& 31).toUInt32).toInt32))])) _
      refine XS.iand X32.here hx rfl (hb hby at_82) rfl ?_
      show Steps _ _ _ (T32.setTop (mkF m 83 l33 [(.int (q &&& (64 : Int32))), (.int ((f.toUInt32 >>> ((8 : Int32) &&& 31).toUInt32).toInt32))])) _
      exact hq)
    refine joinT (S0 := S0) X32 e32 (mkF m 91 l33 [(.int (if (q &&& (64 : Int32)) = (0 : Int32) then (0 : Int32) else (1 : Int32))), (.int ((f.toUInt32 >>> ((8 : Int32) &&& 31).toUInt32).toInt32))]) (fun kont => ?_) (fun T35 X35 e35 k35 => ?_)
    · -- the roads to pc 91
      by_cases hc83_36 : (q &&& (64 : Int32)) = (0 : Int32)
      · -- pc 83, holds
        have k37 : To p.tables e below S0 (T32.setTop (mkF m 91 l33 [(.int (0 : Int32)), (.int ((f.toUInt32 >>> ((8 : Int32) &&& 31).toUInt32).toInt32))])) := fun tt hq => k34 tt (by
          show Steps _ _ _ (T32.setTop (mkF m 83 l33 [(.int (q &&& (64 : Int32))), (.int ((f.toUInt32 >>> ((8 : Int32) &&& 31).toUInt32).toInt32))])) _
          refine XS.ifYes X32.here hx rfl (pc0 := 83) (pc' := 90) rfl (hb hby at_83) rfl ((if0 _ _).trans (teq hc83_36).1) (by decide) (by decide) ?_
          show Steps _ _ _ (T32.setTop (mkF m 90 l33 [(.int ((f.toUInt32 >>> ((8 : Int32) &&& 31).toUInt32).toInt32))])) _
          refine XS.iconst X32.here hx rfl (hb hby at_90) ?_
          show Steps _ _ _ (T32.setTop (mkF m 91 l33 [(.int (0 : Int32)), (.int ((f.toUInt32 >>> ((8 : Int32) &&& 31).toUInt32).toInt32))])) _
          exact hq)
        exact kont T32 X32 e32 (fun tt hq => k37 tt (by simpa only [if_pos hc83_36, l33] using hq))
      · -- pc 83, holds not
        have k38 : To p.tables e below S0 (T32.setTop (mkF m 91 l33 [(.int (1 : Int32)), (.int ((f.toUInt32 >>> ((8 : Int32) &&& 31).toUInt32).toInt32))])) := fun tt hq => k34 tt (by
          show Steps _ _ _ (T32.setTop (mkF m 83 l33 [(.int (q &&& (64 : Int32))), (.int ((f.toUInt32 >>> ((8 : Int32) &&& 31).toUInt32).toInt32))])) _
          refine XS.ifNo X32.here hx rfl (hb hby at_83) rfl ((if0 _ _).trans (feq hc83_36).1) ?_
          show Steps _ _ _ (T32.setTop (mkF m 86 l33 [(.int ((f.toUInt32 >>> ((8 : Int32) &&& 31).toUInt32).toInt32))])) _
          refine XS.iconst X32.here hx rfl (hb hby at_86) ?_
          show Steps _ _ _ (T32.setTop (mkF m 87 l33 [(.int (1 : Int32)), (.int ((f.toUInt32 >>> ((8 : Int32) &&& 31).toUInt32).toInt32))])) _
          refine XS.goto X32.here hx rfl (pc0 := 87) (pc' := 91) rfl (hb hby at_87) (by decide) (by decide) ?_
          show Steps _ _ _ (T32.setTop (mkF m 91 l33 [(.int (1 : Int32)), (.int ((f.toUInt32 >>> ((8 : Int32) &&& 31).toUInt32).toInt32))])) _
          exact hq)
        exact kont T32 X32 e32 (fun tt hq => k38 tt (by simpa only [if_neg hc83_36, l33] using hq))
    have f39 : Old Z n0 h32 := (O0.keep Kq32 all0)
    obtain ⟨_, T40, L40, X40, ⟨a40, rfl, Nq40, ga40, Kq40, S40⟩, k40a, Cq40, hS40, hZ40, hown40⟩ := callSW X35 hx hZ32 (y := (⟨"com/example/huntaway/huntaway/PrecedenceIsEmptyPinLaw", "name", "(IZ)Ljava/lang/String;"⟩ : MethodName)) hown32 hS32 (by omega) (hw _ (List.mem_of_getElem? (i := 7) rfl)) (hw _ (List.mem_of_getElem? (i := 8) rfl)) (hw _ (List.mem_of_getElem? (i := 2) rfl)) (hw _ (List.mem_of_getElem? (i := 9) rfl)) (by decide) (backOfW (W := 0) (rm_name l Z a0 hw zc fm qF qP qI ((f.toUInt32 >>> ((8 : Int32) &&& 31).toUInt32).toInt32) (if (q &&& (64 : Int32)) = (0 : Int32) then (0 : Int32) else (1 : Int32)) h32 n0 (by omega) S_c hzc S_f hfm S_F S_P S_I A_I f39) hZ32 (hw _ (List.mem_of_getElem? (i := 9) rfl)) (hw _ (List.mem_of_getElem? (i := 2) rfl)) (by decide) (by decide) (own_EW hw) C32.1 all0) e35 (argsL := [(.int ((f.toUInt32 >>> ((8 : Int32) &&& 31).toUInt32).toInt32)), (.int (if (q &&& (64 : Int32)) = (0 : Int32) then (0 : Int32) else (1 : Int32)))]) (rest := []) rfl rfl pd_16 rfl (by rw [hml]; rfl) (hb hby at_91) (Nat.le_of_eq rfl) (by decide) (by decide) k35
    have k40 : To p.tables e below S0 (T40.setTop (mkF m 94 l33 [(.ref a40)])) := k40a
    have N40 := N32.app Nq40
    obtain ⟨h40, e40⟩ : ∃ z, T40.heap = z := ⟨_, rfl⟩
    rw [e40] at Kq40 S40 Cq40 hS40
    have z40 : h32.size ≤ h40.size := Kq40.1
    have C40 := C32.trans Cq40
    have y40 : @LT.lt Nat instLTNat a40 h40.size := S40.1.lt
    let l41 : Array Slot := #[.val (.int q), .val (.long a), .second, .val (.long b), .second, .val (.long d), .second, .val (.int f), .val (.int (0 : Int32)), .val (.ref (if (if (q &&& (4 : Int32)) = (0 : Int32) then (0 : Int32) else (1 : Int32)) = (0 : Int32) then qP else qF)), .val (.ref (if (if (q &&& (8 : Int32)) = (0 : Int32) then (0 : Int32) else (1 : Int32)) = (0 : Int32) then qP else qF)), .val (.ref (if (if (q &&& (16 : Int32)) = (0 : Int32) then (0 : Int32) else (1 : Int32)) = (0 : Int32) then qP else qF)), .val (.ref a32), .val (.ref a40), .unset, .unset, .unset]
    have k42 : To p.tables e below S0 (T40.setTop (mkF m 106 l41 [(.int (q &&& (128 : Int32))), (.int ((f.toUInt32 >>> ((16 : Int32) &&& 31).toUInt32).toInt32))])) := fun tt hq => k40 tt (by
      show Steps _ _ _ (T40.setTop (mkF m 94 l33 [(.ref a40)])) _
      refine XS.astore X40.here hx rfl (hb hby at_94) rfl rfl (l' := l41) rfl ?_
      show Steps _ _ _ (T40.setTop (mkF m 96 l41 [])) _
      refine XS.iload X40.here hx rfl (hb hby at_96) rfl ?_
      show Steps _ _ _ (T40.setTop (mkF m 98 l41 [(.int f)])) _
      refine XS.bipush X40.here hx rfl (hb hby at_98) ?_
      show Steps _ _ _ (T40.setTop (mkF m 100 l41 [(.int (16 : Int32)), (.int f)])) _
      refine XS.iushr X40.here hx rfl (hb hby at_100) rfl ?_
      show Steps _ _ _ (T40.setTop (mkF m 101 l41 [(.int ((f.toUInt32 >>> ((16 : Int32) &&& 31).toUInt32).toInt32))])) _
      refine XS.iloadN X40.here hx rfl (hb hby at_101) rfl ?_
      show Steps _ _ _ (T40.setTop (mkF m 102 l41 [(.int q), (.int ((f.toUInt32 >>> ((16 : Int32) &&& 31).toUInt32).toInt32))])) _
      refine XS.sipush X40.here hx rfl (hb hby at_102) ?_
      show Steps _ _ _ (T40.setTop (mkF m 105 l41 [(.int (128 : Int32)), (.int q), (.int ((f.toUInt32 >>> ((16 : Int32) &&& 31).toUInt32).toInt32))])) _
      refine XS.iand X40.here hx rfl (hb hby at_105) rfl ?_
      show Steps _ _ _ (T40.setTop (mkF m 106 l41 [(.int (q &&& (128 : Int32))), (.int ((f.toUInt32 >>> ((16 : Int32) &&& 31).toUInt32).toInt32))])) _
      exact hq)
    refine joinT (S0 := S0) X40 e40 (mkF m 114 l41 [(.int (if (q &&& (128 : Int32)) = (0 : Int32) then (0 : Int32) else (1 : Int32))), (.int ((f.toUInt32 >>> ((16 : Int32) &&& 31).toUInt32).toInt32))]) (fun kont => ?_) (fun T43 X43 e43 k43 => ?_)
    · -- the roads to pc 114
      by_cases hc106_44 : (q &&& (128 : Int32)) = (0 : Int32)
      · -- pc 106, holds
        have k45 : To p.tables e below S0 (T40.setTop (mkF m 114 l41 [(.int (0 : Int32)), (.int ((f.toUInt32 >>> ((16 : Int32) &&& 31).toUInt32).toInt32))])) := fun tt hq => k42 tt (by
          show Steps _ _ _ (T40.setTop (mkF m 106 l41 [(.int (q &&& (128 : Int32))), (.int ((f.toUInt32 >>> ((16 : Int32) &&& 31).toUInt32).toInt32))])) _
          refine XS.ifYes X40.here hx rfl (pc0 := 106) (pc' := 113) rfl (hb hby at_106) rfl ((if0 _ _).trans (teq hc106_44).1) (by decide) (by decide) ?_
          show Steps _ _ _ (T40.setTop (mkF m 113 l41 [(.int ((f.toUInt32 >>> ((16 : Int32) &&& 31).toUInt32).toInt32))])) _
          refine XS.iconst X40.here hx rfl (hb hby at_113) ?_
          show Steps _ _ _ (T40.setTop (mkF m 114 l41 [(.int (0 : Int32)), (.int ((f.toUInt32 >>> ((16 : Int32) &&& 31).toUInt32).toInt32))])) _
          exact hq)
        exact kont T40 X40 e40 (fun tt hq => k45 tt (by simpa only [if_pos hc106_44, l41] using hq))
      · -- pc 106, holds not
        have k46 : To p.tables e below S0 (T40.setTop (mkF m 114 l41 [(.int (1 : Int32)), (.int ((f.toUInt32 >>> ((16 : Int32) &&& 31).toUInt32).toInt32))])) := fun tt hq => k42 tt (by
          show Steps _ _ _ (T40.setTop (mkF m 106 l41 [(.int (q &&& (128 : Int32))), (.int ((f.toUInt32 >>> ((16 : Int32) &&& 31).toUInt32).toInt32))])) _
          refine XS.ifNo X40.here hx rfl (hb hby at_106) rfl ((if0 _ _).trans (feq hc106_44).1) ?_
          show Steps _ _ _ (T40.setTop (mkF m 109 l41 [(.int ((f.toUInt32 >>> ((16 : Int32) &&& 31).toUInt32).toInt32))])) _
          refine XS.iconst X40.here hx rfl (hb hby at_109) ?_
          show Steps _ _ _ (T40.setTop (mkF m 110 l41 [(.int (1 : Int32)), (.int ((f.toUInt32 >>> ((16 : Int32) &&& 31).toUInt32).toInt32))])) _
          refine XS.goto X40.here hx rfl (pc0 := 110) (pc' := 114) rfl (hb hby at_110) (by decide) (by decide) ?_
          show Steps _ _ _ (T40.setTop (mkF m 114 l41 [(.int (1 : Int32)), (.int ((f.toUInt32 >>> ((16 : Int32) &&& 31).toUInt32).toInt32))])) _
          exact hq)
        exact kont T40 X40 e40 (fun tt hq => k46 tt (by simpa only [if_neg hc106_44, l41] using hq))
    have f47 : Old Z n0 h40 := (f39.keep Kq40 all0)
    obtain ⟨_, T48, L48, X48, ⟨a48, rfl, Nq48, ga48, Kq48, S48⟩, k48a, Cq48, hS48, hZ48, hown48⟩ := callSW X43 hx hZ40 (y := (⟨"com/example/huntaway/huntaway/PrecedenceIsEmptyPinLaw", "name", "(IZ)Ljava/lang/String;"⟩ : MethodName)) hown40 hS40 (by omega) (hw _ (List.mem_of_getElem? (i := 7) rfl)) (hw _ (List.mem_of_getElem? (i := 8) rfl)) (hw _ (List.mem_of_getElem? (i := 2) rfl)) (hw _ (List.mem_of_getElem? (i := 9) rfl)) (by decide) (backOfW (W := 0) (rm_name l Z a0 hw zc fm qF qP qI ((f.toUInt32 >>> ((16 : Int32) &&& 31).toUInt32).toInt32) (if (q &&& (128 : Int32)) = (0 : Int32) then (0 : Int32) else (1 : Int32)) h40 n0 (by omega) S_c hzc S_f hfm S_F S_P S_I A_I f47) hZ40 (hw _ (List.mem_of_getElem? (i := 9) rfl)) (hw _ (List.mem_of_getElem? (i := 2) rfl)) (by decide) (by decide) (own_EW hw) C40.1 all0) e43 (argsL := [(.int ((f.toUInt32 >>> ((16 : Int32) &&& 31).toUInt32).toInt32)), (.int (if (q &&& (128 : Int32)) = (0 : Int32) then (0 : Int32) else (1 : Int32)))]) (rest := []) rfl rfl pd_16 rfl (by rw [hml]; rfl) (hb hby at_114) (Nat.le_of_eq rfl) (by decide) (by decide) k43
    have k48 : To p.tables e below S0 (T48.setTop (mkF m 117 l41 [(.ref a48)])) := k48a
    have N48 := N40.app Nq48
    obtain ⟨h48, e48⟩ : ∃ z, T48.heap = z := ⟨_, rfl⟩
    rw [e48] at Kq48 S48 Cq48 hS48
    have z48 : h40.size ≤ h48.size := Kq48.1
    have C48 := C40.trans Cq48
    have y48 : @LT.lt Nat instLTNat a48 h48.size := S48.1.lt
    let l49 : Array Slot := #[.val (.int q), .val (.long a), .second, .val (.long b), .second, .val (.long d), .second, .val (.int f), .val (.int (0 : Int32)), .val (.ref (if (if (q &&& (4 : Int32)) = (0 : Int32) then (0 : Int32) else (1 : Int32)) = (0 : Int32) then qP else qF)), .val (.ref (if (if (q &&& (8 : Int32)) = (0 : Int32) then (0 : Int32) else (1 : Int32)) = (0 : Int32) then qP else qF)), .val (.ref (if (if (q &&& (16 : Int32)) = (0 : Int32) then (0 : Int32) else (1 : Int32)) = (0 : Int32) then qP else qF)), .val (.ref a32), .val (.ref a40), .val (.ref a48), .unset, .unset]
    have k50 : To p.tables e below S0 (T48.setTop (mkF m 119 l49 [])) := fun tt hq => k48 tt (by
      show Steps _ _ _ (T48.setTop (mkF m 117 l41 [(.ref a48)])) _
      refine XS.astore X48.here hx rfl (hb hby at_117) rfl rfl (l' := l49) rfl ?_
      show Steps _ _ _ (T48.setTop (mkF m 119 l49 [])) _
      exact hq)
    obtain ⟨T51, h51, X51, e51, E51, A51, D51, -, st51⟩ := newO X48 hx hZ48 hown48 (hw _ (List.mem_of_getElem? (i := 36) rfl)) (hw _ (List.mem_of_getElem? (i := 37) rfl)) (hw _ (List.mem_of_getElem? (i := 38) rfl)) e48 (g := (mkF m 119 l49 [])) rfl (hb hby at_119) (by decide) (by decide)
    obtain ⟨b51, g51⟩ : ∃ z, z = h48.size := ⟨_, rfl⟩
    rw [← g51] at A51 D51 st51
    have k51 : To p.tables e below S0 (T51.setTop (mkF m 122 l49 [(.ref b51)])) := fun tt hq => k50 tt (st51 tt hq)
    have z51 : h48.size ≤ h51.size := E51.1
    have y51 : @LT.lt Nat instLTNat b51 h51.size := A51.lt
    have C51 := C48.trans (CHr.ext E51 C48.1)
    have F51_highest : Fld Z h51 b51 "com/example/huntaway/huntaway/Precedence" "highest" "J" (.long (0 : Int64)) := D51 (Or.inl (hw _ (List.mem_of_getElem? (i := 45) rfl))) (ty := .long) (by decide)
    have F51_permitting : Fld Z h51 b51 "com/example/huntaway/huntaway/Precedence" "permitting" "Ljava/lang/String;" .null := D51 (Or.inl (hw _ (List.mem_of_getElem? (i := 52) rfl))) (ty := (.object "java/lang/String")) (by decide)
    have F51_forbidding : Fld Z h51 b51 "com/example/huntaway/huntaway/Precedence" "forbidding" "Ljava/lang/String;" .null := D51 (Or.inl (hw _ (List.mem_of_getElem? (i := 54) rfl))) (ty := (.object "java/lang/String")) (by decide)
    have k52 : To p.tables e below S0 (T51.setTop (mkF m 123 l49 [(.ref b51), (.ref b51)])) := fun tt hq => k51 tt (by
      show Steps _ _ _ (T51.setTop (mkF m 122 l49 [(.ref b51)])) _
      refine XS.dup X51.here hx rfl (hb hby at_122) rfl rfl ?_
      show Steps _ _ _ (T51.setTop (mkF m 123 l49 [(.ref b51), (.ref b51)])) _
      exact hq)
    obtain ⟨_, T53, L53, X53, ⟨rfl, Nq53, Kq53, P530, P531, P532, P533⟩, k53a⟩ := callC' X51 hx hZ48 (y := (⟨"com/example/huntaway/huntaway/Precedence", "<init>", "()V"⟩ : MethodName)) rfl hown48 (hw _ (List.mem_of_getElem? (i := 39) rfl)) (hw _ (List.mem_of_getElem? (i := 40) rfl)) (hw _ (List.mem_of_getElem? (i := 41) rfl)) (by decide) (backC (W := 1) (rm_pinit l Z a0 hw b51 h51 n0 (by omega) A51 F51_highest F51_permitting F51_forbidding (by omega)) hZ48 (hw _ (List.mem_of_getElem? (i := 41) rfl)) (hw _ (List.mem_of_getElem? (i := 38) rfl)) (by decide) (by decide)) e51 (argsL := []) (rest := [(.ref b51)]) rfl rfl pd_17 rfl (by rw [hml]; rfl) (hb hby at_123) (Nat.le_of_eq rfl) (by decide) (by decide) k52
    have k53 : To p.tables e below S0 (T53.setTop (mkF m 126 l49 [(.ref b51)])) := k53a
    have N53 := N48.app Nq53
    obtain ⟨h53, e53⟩ : ∃ z, T53.heap = z := ⟨_, rfl⟩
    rw [e53] at Kq53 P530 P531 P532 P533
    have z53 : h51.size ≤ h53.size := Kq53.1
    have C53 := C51.trans (CHr.keep Kq53 (sfS (Safe.exa hZ48.alike A51 (by decide) (by decide)) sf0) C51.1)
    let l54 : Array Slot := #[.val (.int q), .val (.long a), .second, .val (.long b), .second, .val (.long d), .second, .val (.int f), .val (.int (0 : Int32)), .val (.ref (if (if (q &&& (4 : Int32)) = (0 : Int32) then (0 : Int32) else (1 : Int32)) = (0 : Int32) then qP else qF)), .val (.ref (if (if (q &&& (8 : Int32)) = (0 : Int32) then (0 : Int32) else (1 : Int32)) = (0 : Int32) then qP else qF)), .val (.ref (if (if (q &&& (16 : Int32)) = (0 : Int32) then (0 : Int32) else (1 : Int32)) = (0 : Int32) then qP else qF)), .val (.ref a32), .val (.ref a40), .val (.ref a48), .val (.ref b51), .unset]
    have k55 : To p.tables e below S0 (T53.setTop (mkF m 130 l54 [(.ref b51)])) := fun tt hq => k53 tt (by
      show Steps _ _ _ (T53.setTop (mkF m 126 l49 [(.ref b51)])) _
      refine XS.astore X53.here hx rfl (hb hby at_126) rfl rfl (l' := l54) rfl ?_
      show Steps _ _ _ (T53.setTop (mkF m 128 l54 [])) _
      refine XS.aload X53.here hx rfl (hb hby at_128) rfl rfl ?_
      show Steps _ _ _ (T53.setTop (mkF m 130 l54 [(.ref b51)])) _
      exact hq)
    obtain ⟨_, T56, L56, X56, ⟨rfl, Nq56, eq56⟩, k56a⟩ := callV' X53 hx hZ48 (y := (⟨"com/example/huntaway/huntaway/Precedence", "isEmpty", "()Z"⟩ : MethodName)) (z := (⟨"com/example/huntaway/huntaway/Precedence", "isEmpty", "()Z"⟩ : MethodName)) hown48 (hw _ (List.mem_of_getElem? (i := 46) rfl)) (hw _ (List.mem_of_getElem? (i := 47) rfl)) (notFace_of_selects (args := #[]) (mvT hZ48 (hw _ (List.mem_of_getElem? (i := 49) rfl)))) (hw _ (List.mem_of_getElem? (i := 49) rfl)) (hw _ (List.mem_of_getElem? (i := 48) rfl)) (by decide) P530 (backC (W := 0) (rm_emNN l Z a0 hw b51 h53 n0 (by omega) P532 P533) hZ48 (hw _ (List.mem_of_getElem? (i := 50) rfl)) (hw _ (List.mem_of_getElem? (i := 38) rfl)) (by decide) (by decide)) e53 (argsL := []) (rest := []) rfl rfl pd_6 rfl (by rw [hml]; rfl) (hb hby at_130) (Nat.le_of_eq rfl) (by decide) (by decide) k55
    have k56 : To p.tables e below S0 (T56.setTop (mkF m 133 l54 [(.int (1 : Int32))])) := k56a
    have N56 := N53.app Nq56
    have e56 : T56.heap = h53 := eq56
    let l57 : Array Slot := #[.val (.int q), .val (.long a), .second, .val (.long b), .second, .val (.long d), .second, .val (.int f), .val (.int (0 : Int32)), .val (.ref (if (if (q &&& (4 : Int32)) = (0 : Int32) then (0 : Int32) else (1 : Int32)) = (0 : Int32) then qP else qF)), .val (.ref (if (if (q &&& (8 : Int32)) = (0 : Int32) then (0 : Int32) else (1 : Int32)) = (0 : Int32) then qP else qF)), .val (.ref (if (if (q &&& (16 : Int32)) = (0 : Int32) then (0 : Int32) else (1 : Int32)) = (0 : Int32) then qP else qF)), .val (.ref a32), .val (.ref a40), .val (.ref a48), .val (.ref b51), .val (.int (1 : Int32))]
    have k58 : To p.tables e below S0 (T56.setTop (mkF m 251 l57 [(.ref b51)])) := fun tt hq => k56 tt (by
      show Steps _ _ _ (T56.setTop (mkF m 133 l54 [(.int (1 : Int32))])) _
      refine XS.istore X56.here hx rfl (hb hby at_133) rfl (l' := l57) rfl ?_
      show Steps _ _ _ (T56.setTop (mkF m 135 l57 [])) _
      refine XS.iload X56.here hx rfl (hb hby at_135) rfl ?_
      show Steps _ _ _ (T56.setTop (mkF m 137 l57 [(.int (0 : Int32))])) _
      refine XS.iconst X56.here hx rfl (hb hby at_137) ?_
      show Steps _ _ _ (T56.setTop (mkF m 138 l57 [(.int (1 : Int32)), (.int (0 : Int32))])) _
      refine XS.icmpYes X56.here hx rfl (pc0 := 138) (pc' := 171) rfl (hb hby at_138) rfl (tlt (by decide)).1 (by decide) (by decide) ?_
      show Steps _ _ _ (T56.setTop (mkF m 171 l57 [])) _
      refine XS.iload X56.here hx rfl (hb hby at_171) rfl ?_
      show Steps _ _ _ (T56.setTop (mkF m 173 l57 [(.int (0 : Int32))])) _
      refine XS.iconst X56.here hx rfl (hb hby at_173) ?_
      show Steps _ _ _ (T56.setTop (mkF m 174 l57 [(.int (2 : Int32)), (.int (0 : Int32))])) _
      refine XS.icmpYes X56.here hx rfl (pc0 := 174) (pc' := 207) rfl (hb hby at_174) rfl (tlt (by decide)).1 (by decide) (by decide) ?_
      show Steps _ _ _ (T56.setTop (mkF m 207 l57 [])) _
      refine XS.iload X56.here hx rfl (hb hby at_207) rfl ?_
      show Steps _ _ _ (T56.setTop (mkF m 209 l57 [(.int (0 : Int32))])) _
      refine XS.iconst X56.here hx rfl (hb hby at_209) ?_
      show Steps _ _ _ (T56.setTop (mkF m 210 l57 [(.int (3 : Int32)), (.int (0 : Int32))])) _
      refine XS.icmpYes X56.here hx rfl (pc0 := 210) (pc' := 244) rfl (hb hby at_210) rfl (tlt (by decide)).1 (by decide) (by decide) ?_
      show Steps _ _ _ (T56.setTop (mkF m 244 l57 [])) _
      refine XS.iload X56.here hx rfl (hb hby at_244) rfl ?_
      show Steps _ _ _ (T56.setTop (mkF m 246 l57 [(.int (1 : Int32))])) _
      refine XS.ifNo X56.here hx rfl (hb hby at_246) rfl ((if0 _ _).trans (feq (by decide)).1) ?_
      show Steps _ _ _ (T56.setTop (mkF m 249 l57 [])) _
      refine XS.aload X56.here hx rfl (hb hby at_249) rfl rfl ?_
      show Steps _ _ _ (T56.setTop (mkF m 251 l57 [(.ref b51)])) _
      exact hq)
    obtain ⟨_, T59, L59, X59, ⟨rfl, Nq59, eq59⟩, k59a⟩ := callV' X56 hx hZ48 (y := (⟨"com/example/huntaway/huntaway/Precedence", "isEmpty", "()Z"⟩ : MethodName)) (z := (⟨"com/example/huntaway/huntaway/Precedence", "isEmpty", "()Z"⟩ : MethodName)) hown48 (hw _ (List.mem_of_getElem? (i := 46) rfl)) (hw _ (List.mem_of_getElem? (i := 47) rfl)) (notFace_of_selects (args := #[]) (mvT hZ48 (hw _ (List.mem_of_getElem? (i := 49) rfl)))) (hw _ (List.mem_of_getElem? (i := 49) rfl)) (hw _ (List.mem_of_getElem? (i := 48) rfl)) (by decide) P530 (backC (W := 0) (rm_emNN l Z a0 hw b51 h53 n0 (by omega) P532 P533) hZ48 (hw _ (List.mem_of_getElem? (i := 50) rfl)) (hw _ (List.mem_of_getElem? (i := 38) rfl)) (by decide) (by decide)) e56 (argsL := []) (rest := []) rfl rfl pd_6 rfl (by rw [hml]; rfl) (hb hby at_251) (Nat.le_of_eq rfl) (by decide) (by decide) k58
    have k59 : To p.tables e below S0 (T59.setTop (mkF m 254 l57 [(.int (1 : Int32))])) := k59a
    have N59 := N56.app Nq59
    have e59 : T59.heap = h53 := eq59
    have k60 : To p.tables e below S0 (T59.setTop (mkF m 276 l57 [(.int (1 : Int32))])) := fun tt hq => k59 tt (by
      show Steps _ _ _ (T59.setTop (mkF m 254 l57 [(.int (1 : Int32))])) _
      refine XS.iload X59.here hx rfl (hb hby at_254) rfl ?_
      show Steps _ _ _ (T59.setTop (mkF m 256 l57 [(.int (0 : Int32)), (.int (1 : Int32))])) _
      refine XS.ifNo X59.here hx rfl (hb hby at_256) rfl ((if0 _ _).trans (teq (by decide)).2) ?_
      show Steps _ _ _ (T59.setTop (mkF m 259 l57 [(.int (1 : Int32))])) _
      refine XS.iconst X59.here hx rfl (hb hby at_259) ?_
      show Steps _ _ _ (T59.setTop (mkF m 260 l57 [(.int (1 : Int32)), (.int (1 : Int32))])) _
      refine XS.goto X59.here hx rfl (pc0 := 260) (pc' := 264) rfl (hb hby at_260) (by decide) (by decide) ?_
      show Steps _ _ _ (T59.setTop (mkF m 264 l57 [(.int (1 : Int32)), (.int (1 : Int32))])) _
      refine XS.icmpNo X59.here hx rfl (hb hby at_264) rfl (teq (by decide)).2 ?_
      show Steps _ _ _ (T59.setTop (mkF m 267 l57 [])) _
      refine XS.iconst X59.here hx rfl (hb hby at_267) ?_
      show Steps _ _ _ (T59.setTop (mkF m 268 l57 [(.int (1 : Int32))])) _
      refine XS.goto X59.here hx rfl (pc0 := 268) (pc' := 272) rfl (hb hby at_268) (by decide) (by decide) ?_
      show Steps _ _ _ (T59.setTop (mkF m 272 l57 [(.int (1 : Int32))])) _
      refine XS.istore X59.here hx rfl (hb hby at_272) rfl (l' := l57) rfl ?_
      show Steps _ _ _ (T59.setTop (mkF m 274 l57 [])) _
      refine XS.iload X59.here hx rfl (hb hby at_274) rfl ?_
      show Steps _ _ _ (T59.setTop (mkF m 276 l57 [(.int (1 : Int32))])) _
      exact hq)
    refine retIntW X59 hx hZ48 (own_EW hw) hS48 (by omega) C53 e59 hret hlk (by simp) rfl (hb hby at_276) k60 ?_ (by decide) (by decide)
    exact ⟨rfl, N59⟩
  · -- pc 3: (1 : Int32)
    have k61 : To p.tables e below S0 (s₁.setTop (mkF m 3 l1 [(.int (1 : Int32))])) := by have hq := k2; rw [ht3] at hq; exact hq
    let l62 : Array Slot := #[.val (.int q), .val (.long a), .second, .val (.long b), .second, .val (.long d), .second, .val (.int f), .val (.int (1 : Int32)), .unset, .unset, .unset, .unset, .unset, .unset, .unset, .unset]
    have k63 : To p.tables e below S0 (s₁.setTop (mkF m 8 l62 [(.int (q &&& (4 : Int32)))])) := fun tt hq => k61 tt (by
      show Steps _ _ _ (s₁.setTop (mkF m 3 l1 [(.int (1 : Int32))])) _
      refine XS.istore X0.here hx rfl (hb hby at_3) rfl (l' := l62) rfl ?_
      show Steps _ _ _ (s₁.setTop (mkF m 5 l62 [])) _
      refine XS.iloadN X0.here hx rfl (hb hby at_5) rfl ?_
      show Steps _ _ _ (s₁.setTop (mkF m 6 l62 [(.int q)])) _
      refine XS.iconst X0.here hx rfl (hb hby at_6) ?_
      show Steps _ _ _ (s₁.setTop (mkF m 7 l62 [(.int (4 : Int32)), (.int q)])) _
      refine XS.iand X0.here hx rfl (hb hby at_7) rfl ?_
      show Steps _ _ _ (s₁.setTop (mkF m 8 l62 [(.int (q &&& (4 : Int32)))])) _
      exact hq)
    refine joinT (S0 := S0) X0 e0 (mkF m 16 l62 [(.int (if (q &&& (4 : Int32)) = (0 : Int32) then (0 : Int32) else (1 : Int32)))]) (fun kont => ?_) (fun T64 X64 e64 k64 => ?_)
    · -- the roads to pc 16
      by_cases hc8_65 : (q &&& (4 : Int32)) = (0 : Int32)
      · -- pc 8, holds
        have k66 : To p.tables e below S0 (s₁.setTop (mkF m 16 l62 [(.int (0 : Int32))])) := fun tt hq => k63 tt (by
          show Steps _ _ _ (s₁.setTop (mkF m 8 l62 [(.int (q &&& (4 : Int32)))])) _
          refine XS.ifYes X0.here hx rfl (pc0 := 8) (pc' := 15) rfl (hb hby at_8) rfl ((if0 _ _).trans (teq hc8_65).1) (by decide) (by decide) ?_
          show Steps _ _ _ (s₁.setTop (mkF m 15 l62 [])) _
          refine XS.iconst X0.here hx rfl (hb hby at_15) ?_
          show Steps _ _ _ (s₁.setTop (mkF m 16 l62 [(.int (0 : Int32))])) _
          exact hq)
        exact kont s₁ X0 e0 (fun tt hq => k66 tt (by simpa only [if_pos hc8_65, l62] using hq))
      · -- pc 8, holds not
        have k67 : To p.tables e below S0 (s₁.setTop (mkF m 16 l62 [(.int (1 : Int32))])) := fun tt hq => k63 tt (by
          show Steps _ _ _ (s₁.setTop (mkF m 8 l62 [(.int (q &&& (4 : Int32)))])) _
          refine XS.ifNo X0.here hx rfl (hb hby at_8) rfl ((if0 _ _).trans (feq hc8_65).1) ?_
          show Steps _ _ _ (s₁.setTop (mkF m 11 l62 [])) _
          refine XS.iconst X0.here hx rfl (hb hby at_11) ?_
          show Steps _ _ _ (s₁.setTop (mkF m 12 l62 [(.int (1 : Int32))])) _
          refine XS.goto X0.here hx rfl (pc0 := 12) (pc' := 16) rfl (hb hby at_12) (by decide) (by decide) ?_
          show Steps _ _ _ (s₁.setTop (mkF m 16 l62 [(.int (1 : Int32))])) _
          exact hq)
        exact kont s₁ X0 e0 (fun tt hq => k67 tt (by simpa only [if_neg hc8_65, l62] using hq))
    obtain ⟨_, T68, L68, X68, ⟨rfl, Nq68, eq68⟩, k68a⟩ := callS' X64 hx hZ (y := (⟨"com/example/huntaway/huntaway/PrecedenceIsEmptyPinLaw", "effect", "(Z)Lcom/example/huntaway/huntaway/Effect;"⟩ : MethodName)) hown (hw _ (List.mem_of_getElem? (i := 0) rfl)) (hw _ (List.mem_of_getElem? (i := 1) rfl)) (hw _ (List.mem_of_getElem? (i := 2) rfl)) (hw _ (List.mem_of_getElem? (i := 3) rfl)) (by decide) (backC (W := 0) (rm_eff l Z a0 hw zc fm qF qP qI (if (q &&& (4 : Int32)) = (0 : Int32) then (0 : Int32) else (1 : Int32)) h0 n0 (by omega) S_c hzc S_f hfm S_F S_P S_I A_I O0) hZ (hw _ (List.mem_of_getElem? (i := 3) rfl)) (hw _ (List.mem_of_getElem? (i := 2) rfl)) (by decide) (by decide)) e64 (argsL := [(.int (if (q &&& (4 : Int32)) = (0 : Int32) then (0 : Int32) else (1 : Int32)))]) (rest := []) rfl rfl pd_15 rfl (by rw [hml]; rfl) (hb hby at_16) (Nat.le_of_eq rfl) (by decide) (by decide) k64
    have k68 : To p.tables e below S0 (T68.setTop (mkF m 19 l62 [(.ref (if (if (q &&& (4 : Int32)) = (0 : Int32) then (0 : Int32) else (1 : Int32)) = (0 : Int32) then qP else qF))])) := k68a
    have N68 := N0.app Nq68
    have e68 : T68.heap = h0 := eq68
    let l69 : Array Slot := #[.val (.int q), .val (.long a), .second, .val (.long b), .second, .val (.long d), .second, .val (.int f), .val (.int (1 : Int32)), .val (.ref (if (if (q &&& (4 : Int32)) = (0 : Int32) then (0 : Int32) else (1 : Int32)) = (0 : Int32) then qP else qF)), .unset, .unset, .unset, .unset, .unset, .unset, .unset]
    have k70 : To p.tables e below S0 (T68.setTop (mkF m 25 l69 [(.int (q &&& (8 : Int32)))])) := fun tt hq => k68 tt (by
      show Steps _ _ _ (T68.setTop (mkF m 19 l62 [(.ref (if (if (q &&& (4 : Int32)) = (0 : Int32) then (0 : Int32) else (1 : Int32)) = (0 : Int32) then qP else qF))])) _
      refine XS.astore X68.here hx rfl (hb hby at_19) rfl rfl (l' := l69) rfl ?_
      show Steps _ _ _ (T68.setTop (mkF m 21 l69 [])) _
      refine XS.iloadN X68.here hx rfl (hb hby at_21) rfl ?_
      show Steps _ _ _ (T68.setTop (mkF m 22 l69 [(.int q)])) _
      refine XS.bipush X68.here hx rfl (hb hby at_22) ?_
      show Steps _ _ _ (T68.setTop (mkF m 24 l69 [(.int (8 : Int32)), (.int q)])) _
      refine XS.iand X68.here hx rfl (hb hby at_24) rfl ?_
      show Steps _ _ _ (T68.setTop (mkF m 25 l69 [(.int (q &&& (8 : Int32)))])) _
      exact hq)
    refine joinT (S0 := S0) X68 e68 (mkF m 33 l69 [(.int (if (q &&& (8 : Int32)) = (0 : Int32) then (0 : Int32) else (1 : Int32)))]) (fun kont => ?_) (fun T71 X71 e71 k71 => ?_)
    · -- the roads to pc 33
      by_cases hc25_72 : (q &&& (8 : Int32)) = (0 : Int32)
      · -- pc 25, holds
        have k73 : To p.tables e below S0 (T68.setTop (mkF m 33 l69 [(.int (0 : Int32))])) := fun tt hq => k70 tt (by
          show Steps _ _ _ (T68.setTop (mkF m 25 l69 [(.int (q &&& (8 : Int32)))])) _
          refine XS.ifYes X68.here hx rfl (pc0 := 25) (pc' := 32) rfl (hb hby at_25) rfl ((if0 _ _).trans (teq hc25_72).1) (by decide) (by decide) ?_
          show Steps _ _ _ (T68.setTop (mkF m 32 l69 [])) _
          refine XS.iconst X68.here hx rfl (hb hby at_32) ?_
          show Steps _ _ _ (T68.setTop (mkF m 33 l69 [(.int (0 : Int32))])) _
          exact hq)
        exact kont T68 X68 e68 (fun tt hq => k73 tt (by simpa only [if_pos hc25_72, l69] using hq))
      · -- pc 25, holds not
        have k74 : To p.tables e below S0 (T68.setTop (mkF m 33 l69 [(.int (1 : Int32))])) := fun tt hq => k70 tt (by
          show Steps _ _ _ (T68.setTop (mkF m 25 l69 [(.int (q &&& (8 : Int32)))])) _
          refine XS.ifNo X68.here hx rfl (hb hby at_25) rfl ((if0 _ _).trans (feq hc25_72).1) ?_
          show Steps _ _ _ (T68.setTop (mkF m 28 l69 [])) _
          refine XS.iconst X68.here hx rfl (hb hby at_28) ?_
          show Steps _ _ _ (T68.setTop (mkF m 29 l69 [(.int (1 : Int32))])) _
          refine XS.goto X68.here hx rfl (pc0 := 29) (pc' := 33) rfl (hb hby at_29) (by decide) (by decide) ?_
          show Steps _ _ _ (T68.setTop (mkF m 33 l69 [(.int (1 : Int32))])) _
          exact hq)
        exact kont T68 X68 e68 (fun tt hq => k74 tt (by simpa only [if_neg hc25_72, l69] using hq))
    obtain ⟨_, T75, L75, X75, ⟨rfl, Nq75, eq75⟩, k75a⟩ := callS' X71 hx hZ (y := (⟨"com/example/huntaway/huntaway/PrecedenceIsEmptyPinLaw", "effect", "(Z)Lcom/example/huntaway/huntaway/Effect;"⟩ : MethodName)) hown (hw _ (List.mem_of_getElem? (i := 0) rfl)) (hw _ (List.mem_of_getElem? (i := 1) rfl)) (hw _ (List.mem_of_getElem? (i := 2) rfl)) (hw _ (List.mem_of_getElem? (i := 3) rfl)) (by decide) (backC (W := 0) (rm_eff l Z a0 hw zc fm qF qP qI (if (q &&& (8 : Int32)) = (0 : Int32) then (0 : Int32) else (1 : Int32)) h0 n0 (by omega) S_c hzc S_f hfm S_F S_P S_I A_I O0) hZ (hw _ (List.mem_of_getElem? (i := 3) rfl)) (hw _ (List.mem_of_getElem? (i := 2) rfl)) (by decide) (by decide)) e71 (argsL := [(.int (if (q &&& (8 : Int32)) = (0 : Int32) then (0 : Int32) else (1 : Int32)))]) (rest := []) rfl rfl pd_15 rfl (by rw [hml]; rfl) (hb hby at_33) (Nat.le_of_eq rfl) (by decide) (by decide) k71
    have k75 : To p.tables e below S0 (T75.setTop (mkF m 36 l69 [(.ref (if (if (q &&& (8 : Int32)) = (0 : Int32) then (0 : Int32) else (1 : Int32)) = (0 : Int32) then qP else qF))])) := k75a
    have N75 := N68.app Nq75
    have e75 : T75.heap = h0 := eq75
    let l76 : Array Slot := #[.val (.int q), .val (.long a), .second, .val (.long b), .second, .val (.long d), .second, .val (.int f), .val (.int (1 : Int32)), .val (.ref (if (if (q &&& (4 : Int32)) = (0 : Int32) then (0 : Int32) else (1 : Int32)) = (0 : Int32) then qP else qF)), .val (.ref (if (if (q &&& (8 : Int32)) = (0 : Int32) then (0 : Int32) else (1 : Int32)) = (0 : Int32) then qP else qF)), .unset, .unset, .unset, .unset, .unset, .unset]
    have k77 : To p.tables e below S0 (T75.setTop (mkF m 42 l76 [(.int (q &&& (16 : Int32)))])) := fun tt hq => k75 tt (by
      show Steps _ _ _ (T75.setTop (mkF m 36 l69 [(.ref (if (if (q &&& (8 : Int32)) = (0 : Int32) then (0 : Int32) else (1 : Int32)) = (0 : Int32) then qP else qF))])) _
      refine XS.astore X75.here hx rfl (hb hby at_36) rfl rfl (l' := l76) rfl ?_
      show Steps _ _ _ (T75.setTop (mkF m 38 l76 [])) _
      refine XS.iloadN X75.here hx rfl (hb hby at_38) rfl ?_
      show Steps _ _ _ (T75.setTop (mkF m 39 l76 [(.int q)])) _
      refine XS.bipush X75.here hx rfl (hb hby at_39) ?_
      show Steps _ _ _ (T75.setTop (mkF m 41 l76 [(.int (16 : Int32)), (.int q)])) _
      refine XS.iand X75.here hx rfl (hb hby at_41) rfl ?_
      show Steps _ _ _ (T75.setTop (mkF m 42 l76 [(.int (q &&& (16 : Int32)))])) _
      exact hq)
    refine joinT (S0 := S0) X75 e75 (mkF m 50 l76 [(.int (if (q &&& (16 : Int32)) = (0 : Int32) then (0 : Int32) else (1 : Int32)))]) (fun kont => ?_) (fun T78 X78 e78 k78 => ?_)
    · -- the roads to pc 50
      by_cases hc42_79 : (q &&& (16 : Int32)) = (0 : Int32)
      · -- pc 42, holds
        have k80 : To p.tables e below S0 (T75.setTop (mkF m 50 l76 [(.int (0 : Int32))])) := fun tt hq => k77 tt (by
          show Steps _ _ _ (T75.setTop (mkF m 42 l76 [(.int (q &&& (16 : Int32)))])) _
          refine XS.ifYes X75.here hx rfl (pc0 := 42) (pc' := 49) rfl (hb hby at_42) rfl ((if0 _ _).trans (teq hc42_79).1) (by decide) (by decide) ?_
          show Steps _ _ _ (T75.setTop (mkF m 49 l76 [])) _
          refine XS.iconst X75.here hx rfl (hb hby at_49) ?_
          show Steps _ _ _ (T75.setTop (mkF m 50 l76 [(.int (0 : Int32))])) _
          exact hq)
        exact kont T75 X75 e75 (fun tt hq => k80 tt (by simpa only [if_pos hc42_79, l76] using hq))
      · -- pc 42, holds not
        have k81 : To p.tables e below S0 (T75.setTop (mkF m 50 l76 [(.int (1 : Int32))])) := fun tt hq => k77 tt (by
          show Steps _ _ _ (T75.setTop (mkF m 42 l76 [(.int (q &&& (16 : Int32)))])) _
          refine XS.ifNo X75.here hx rfl (hb hby at_42) rfl ((if0 _ _).trans (feq hc42_79).1) ?_
          show Steps _ _ _ (T75.setTop (mkF m 45 l76 [])) _
          refine XS.iconst X75.here hx rfl (hb hby at_45) ?_
          show Steps _ _ _ (T75.setTop (mkF m 46 l76 [(.int (1 : Int32))])) _
          refine XS.goto X75.here hx rfl (pc0 := 46) (pc' := 50) rfl (hb hby at_46) (by decide) (by decide) ?_
          show Steps _ _ _ (T75.setTop (mkF m 50 l76 [(.int (1 : Int32))])) _
          exact hq)
        exact kont T75 X75 e75 (fun tt hq => k81 tt (by simpa only [if_neg hc42_79, l76] using hq))
    obtain ⟨_, T82, L82, X82, ⟨rfl, Nq82, eq82⟩, k82a⟩ := callS' X78 hx hZ (y := (⟨"com/example/huntaway/huntaway/PrecedenceIsEmptyPinLaw", "effect", "(Z)Lcom/example/huntaway/huntaway/Effect;"⟩ : MethodName)) hown (hw _ (List.mem_of_getElem? (i := 0) rfl)) (hw _ (List.mem_of_getElem? (i := 1) rfl)) (hw _ (List.mem_of_getElem? (i := 2) rfl)) (hw _ (List.mem_of_getElem? (i := 3) rfl)) (by decide) (backC (W := 0) (rm_eff l Z a0 hw zc fm qF qP qI (if (q &&& (16 : Int32)) = (0 : Int32) then (0 : Int32) else (1 : Int32)) h0 n0 (by omega) S_c hzc S_f hfm S_F S_P S_I A_I O0) hZ (hw _ (List.mem_of_getElem? (i := 3) rfl)) (hw _ (List.mem_of_getElem? (i := 2) rfl)) (by decide) (by decide)) e78 (argsL := [(.int (if (q &&& (16 : Int32)) = (0 : Int32) then (0 : Int32) else (1 : Int32)))]) (rest := []) rfl rfl pd_15 rfl (by rw [hml]; rfl) (hb hby at_50) (Nat.le_of_eq rfl) (by decide) (by decide) k78
    have k82 : To p.tables e below S0 (T82.setTop (mkF m 53 l76 [(.ref (if (if (q &&& (16 : Int32)) = (0 : Int32) then (0 : Int32) else (1 : Int32)) = (0 : Int32) then qP else qF))])) := k82a
    have N82 := N75.app Nq82
    have e82 : T82.heap = h0 := eq82
    let l83 : Array Slot := #[.val (.int q), .val (.long a), .second, .val (.long b), .second, .val (.long d), .second, .val (.int f), .val (.int (1 : Int32)), .val (.ref (if (if (q &&& (4 : Int32)) = (0 : Int32) then (0 : Int32) else (1 : Int32)) = (0 : Int32) then qP else qF)), .val (.ref (if (if (q &&& (8 : Int32)) = (0 : Int32) then (0 : Int32) else (1 : Int32)) = (0 : Int32) then qP else qF)), .val (.ref (if (if (q &&& (16 : Int32)) = (0 : Int32) then (0 : Int32) else (1 : Int32)) = (0 : Int32) then qP else qF)), .unset, .unset, .unset, .unset, .unset]
    have k84 : To p.tables e below S0 (T82.setTop (mkF m 61 l83 [(.int (q &&& (32 : Int32))), (.int f)])) := fun tt hq => k82 tt (by
      show Steps _ _ _ (T82.setTop (mkF m 53 l76 [(.ref (if (if (q &&& (16 : Int32)) = (0 : Int32) then (0 : Int32) else (1 : Int32)) = (0 : Int32) then qP else qF))])) _
      refine XS.astore X82.here hx rfl (hb hby at_53) rfl rfl (l' := l83) rfl ?_
      show Steps _ _ _ (T82.setTop (mkF m 55 l83 [])) _
      refine XS.iload X82.here hx rfl (hb hby at_55) rfl ?_
      show Steps _ _ _ (T82.setTop (mkF m 57 l83 [(.int f)])) _
      refine XS.iloadN X82.here hx rfl (hb hby at_57) rfl ?_
      show Steps _ _ _ (T82.setTop (mkF m 58 l83 [(.int q), (.int f)])) _
      refine XS.bipush X82.here hx rfl (hb hby at_58) ?_
      show Steps _ _ _ (T82.setTop (mkF m 60 l83 [(.int (32 : Int32)), (.int q), (.int f)])) _
      refine XS.iand X82.here hx rfl (hb hby at_60) rfl ?_
      show Steps _ _ _ (T82.setTop (mkF m 61 l83 [(.int (q &&& (32 : Int32))), (.int f)])) _
      exact hq)
    refine joinT (S0 := S0) X82 e82 (mkF m 69 l83 [(.int (if (q &&& (32 : Int32)) = (0 : Int32) then (0 : Int32) else (1 : Int32))), (.int f)]) (fun kont => ?_) (fun T85 X85 e85 k85 => ?_)
    · -- the roads to pc 69
      by_cases hc61_86 : (q &&& (32 : Int32)) = (0 : Int32)
      · -- pc 61, holds
        have k87 : To p.tables e below S0 (T82.setTop (mkF m 69 l83 [(.int (0 : Int32)), (.int f)])) := fun tt hq => k84 tt (by
          show Steps _ _ _ (T82.setTop (mkF m 61 l83 [(.int (q &&& (32 : Int32))), (.int f)])) _
          refine XS.ifYes X82.here hx rfl (pc0 := 61) (pc' := 68) rfl (hb hby at_61) rfl ((if0 _ _).trans (teq hc61_86).1) (by decide) (by decide) ?_
          show Steps _ _ _ (T82.setTop (mkF m 68 l83 [(.int f)])) _
          refine XS.iconst X82.here hx rfl (hb hby at_68) ?_
          show Steps _ _ _ (T82.setTop (mkF m 69 l83 [(.int (0 : Int32)), (.int f)])) _
          exact hq)
        exact kont T82 X82 e82 (fun tt hq => k87 tt (by simpa only [if_pos hc61_86, l83] using hq))
      · -- pc 61, holds not
        have k88 : To p.tables e below S0 (T82.setTop (mkF m 69 l83 [(.int (1 : Int32)), (.int f)])) := fun tt hq => k84 tt (by
          show Steps _ _ _ (T82.setTop (mkF m 61 l83 [(.int (q &&& (32 : Int32))), (.int f)])) _
          refine XS.ifNo X82.here hx rfl (hb hby at_61) rfl ((if0 _ _).trans (feq hc61_86).1) ?_
          show Steps _ _ _ (T82.setTop (mkF m 64 l83 [(.int f)])) _
          refine XS.iconst X82.here hx rfl (hb hby at_64) ?_
          show Steps _ _ _ (T82.setTop (mkF m 65 l83 [(.int (1 : Int32)), (.int f)])) _
          refine XS.goto X82.here hx rfl (pc0 := 65) (pc' := 69) rfl (hb hby at_65) (by decide) (by decide) ?_
          show Steps _ _ _ (T82.setTop (mkF m 69 l83 [(.int (1 : Int32)), (.int f)])) _
          exact hq)
        exact kont T82 X82 e82 (fun tt hq => k88 tt (by simpa only [if_neg hc61_86, l83] using hq))
    obtain ⟨_, T89, L89, X89, ⟨a89, rfl, Nq89, ga89, Kq89, S89⟩, k89a, Cq89, hS89, hZ89, hown89⟩ := callSW X85 hx hZ (y := (⟨"com/example/huntaway/huntaway/PrecedenceIsEmptyPinLaw", "name", "(IZ)Ljava/lang/String;"⟩ : MethodName)) hown hS0 (by omega) (hw _ (List.mem_of_getElem? (i := 7) rfl)) (hw _ (List.mem_of_getElem? (i := 8) rfl)) (hw _ (List.mem_of_getElem? (i := 2) rfl)) (hw _ (List.mem_of_getElem? (i := 9) rfl)) (by decide) (backOfW (W := 0) (rm_name l Z a0 hw zc fm qF qP qI f (if (q &&& (32 : Int32)) = (0 : Int32) then (0 : Int32) else (1 : Int32)) h0 n0 (by omega) S_c hzc S_f hfm S_F S_P S_I A_I O0) hZ (hw _ (List.mem_of_getElem? (i := 9) rfl)) (hw _ (List.mem_of_getElem? (i := 2) rfl)) (by decide) (by decide) (own_EW hw) C0.1 all0) e85 (argsL := [(.int f), (.int (if (q &&& (32 : Int32)) = (0 : Int32) then (0 : Int32) else (1 : Int32)))]) (rest := []) rfl rfl pd_16 rfl (by rw [hml]; rfl) (hb hby at_69) (Nat.le_of_eq rfl) (by decide) (by decide) k85
    have k89 : To p.tables e below S0 (T89.setTop (mkF m 72 l83 [(.ref a89)])) := k89a
    have N89 := N82.app Nq89
    obtain ⟨h89, e89⟩ : ∃ z, T89.heap = z := ⟨_, rfl⟩
    rw [e89] at Kq89 S89 Cq89 hS89
    have z89 : h0.size ≤ h89.size := Kq89.1
    have C89 := C0.trans Cq89
    have y89 : @LT.lt Nat instLTNat a89 h89.size := S89.1.lt
    let l90 : Array Slot := #[.val (.int q), .val (.long a), .second, .val (.long b), .second, .val (.long d), .second, .val (.int f), .val (.int (1 : Int32)), .val (.ref (if (if (q &&& (4 : Int32)) = (0 : Int32) then (0 : Int32) else (1 : Int32)) = (0 : Int32) then qP else qF)), .val (.ref (if (if (q &&& (8 : Int32)) = (0 : Int32) then (0 : Int32) else (1 : Int32)) = (0 : Int32) then qP else qF)), .val (.ref (if (if (q &&& (16 : Int32)) = (0 : Int32) then (0 : Int32) else (1 : Int32)) = (0 : Int32) then qP else qF)), .val (.ref a89), .unset, .unset, .unset, .unset]
    have k91 : To p.tables e below S0 (T89.setTop (mkF m 83 l90 [(.int (q &&& (64 : Int32))), (.int ((f.toUInt32 >>> ((8 : Int32) &&& 31).toUInt32).toInt32))])) := fun tt hq => k89 tt (by
      show Steps _ _ _ (T89.setTop (mkF m 72 l83 [(.ref a89)])) _
      refine XS.astore X89.here hx rfl (hb hby at_72) rfl rfl (l' := l90) rfl ?_
      show Steps _ _ _ (T89.setTop (mkF m 74 l90 [])) _
      refine XS.iload X89.here hx rfl (hb hby at_74) rfl ?_
      show Steps _ _ _ (T89.setTop (mkF m 76 l90 [(.int f)])) _
      refine XS.bipush X89.here hx rfl (hb hby at_76) ?_
      show Steps _ _ _ (T89.setTop (mkF m 78 l90 [(.int (8 : Int32)), (.int f)])) _
      refine XS.iushr X89.here hx rfl (hb hby at_78) rfl ?_
      show Steps _ _ _ (T89.setTop (mkF m 79 l90 [(.int ((f.toUInt32 >>> ((8 : Int32) &&& 31).toUInt32).toInt32))])) _
      refine XS.iloadN X89.here hx rfl (hb hby at_79) rfl ?_
      show Steps _ _ _ (T89.setTop (mkF m 80 l90 [(.int q), (.int ((f.toUInt32 >>> ((8 : Int32) &&& 31).toUInt32).toInt32))])) _
      refine XS.bipush X89.here hx rfl (hb hby at_80) ?_
      show Steps _ _ _ (T89.setTop (mkF m 82 l90 [(.int (64 : Int32)), (.int q), (.int ((f.toUInt32 >>> ((8 : Int32) &&& 31).toUInt32).toInt32))])) _
      refine XS.iand X89.here hx rfl (hb hby at_82) rfl ?_
      show Steps _ _ _ (T89.setTop (mkF m 83 l90 [(.int (q &&& (64 : Int32))), (.int ((f.toUInt32 >>> ((8 : Int32) &&& 31).toUInt32).toInt32))])) _
      exact hq)
    refine joinT (S0 := S0) X89 e89 (mkF m 91 l90 [(.int (if (q &&& (64 : Int32)) = (0 : Int32) then (0 : Int32) else (1 : Int32))), (.int ((f.toUInt32 >>> ((8 : Int32) &&& 31).toUInt32).toInt32))]) (fun kont => ?_) (fun T92 X92 e92 k92 => ?_)
    · -- the roads to pc 91
      by_cases hc83_93 : (q &&& (64 : Int32)) = (0 : Int32)
      · -- pc 83, holds
        have k94 : To p.tables e below S0 (T89.setTop (mkF m 91 l90 [(.int (0 : Int32)), (.int ((f.toUInt32 >>> ((8 : Int32) &&& 31).toUInt32).toInt32))])) := fun tt hq => k91 tt (by
          show Steps _ _ _ (T89.setTop (mkF m 83 l90 [(.int (q &&& (64 : Int32))), (.int ((f.toUInt32 >>> ((8 : Int32) &&& 31).toUInt32).toInt32))])) _
          refine XS.ifYes X89.here hx rfl (pc0 := 83) (pc' := 90) rfl (hb hby at_83) rfl ((if0 _ _).trans (teq hc83_93).1) (by decide) (by decide) ?_
          show Steps _ _ _ (T89.setTop (mkF m 90 l90 [(.int ((f.toUInt32 >>> ((8 : Int32) &&& 31).toUInt32).toInt32))])) _
          refine XS.iconst X89.here hx rfl (hb hby at_90) ?_
          show Steps _ _ _ (T89.setTop (mkF m 91 l90 [(.int (0 : Int32)), (.int ((f.toUInt32 >>> ((8 : Int32) &&& 31).toUInt32).toInt32))])) _
          exact hq)
        exact kont T89 X89 e89 (fun tt hq => k94 tt (by simpa only [if_pos hc83_93, l90] using hq))
      · -- pc 83, holds not
        have k95 : To p.tables e below S0 (T89.setTop (mkF m 91 l90 [(.int (1 : Int32)), (.int ((f.toUInt32 >>> ((8 : Int32) &&& 31).toUInt32).toInt32))])) := fun tt hq => k91 tt (by
          show Steps _ _ _ (T89.setTop (mkF m 83 l90 [(.int (q &&& (64 : Int32))), (.int ((f.toUInt32 >>> ((8 : Int32) &&& 31).toUInt32).toInt32))])) _
          refine XS.ifNo X89.here hx rfl (hb hby at_83) rfl ((if0 _ _).trans (feq hc83_93).1) ?_
          show Steps _ _ _ (T89.setTop (mkF m 86 l90 [(.int ((f.toUInt32 >>> ((8 : Int32) &&& 31).toUInt32).toInt32))])) _
          refine XS.iconst X89.here hx rfl (hb hby at_86) ?_
          show Steps _ _ _ (T89.setTop (mkF m 87 l90 [(.int (1 : Int32)), (.int ((f.toUInt32 >>> ((8 : Int32) &&& 31).toUInt32).toInt32))])) _
          refine XS.goto X89.here hx rfl (pc0 := 87) (pc' := 91) rfl (hb hby at_87) (by decide) (by decide) ?_
          show Steps _ _ _ (T89.setTop (mkF m 91 l90 [(.int (1 : Int32)), (.int ((f.toUInt32 >>> ((8 : Int32) &&& 31).toUInt32).toInt32))])) _
          exact hq)
        exact kont T89 X89 e89 (fun tt hq => k95 tt (by simpa only [if_neg hc83_93, l90] using hq))
    have f96 : Old Z n0 h89 := (O0.keep Kq89 all0)
    obtain ⟨_, T97, L97, X97, ⟨a97, rfl, Nq97, ga97, Kq97, S97⟩, k97a, Cq97, hS97, hZ97, hown97⟩ := callSW X92 hx hZ89 (y := (⟨"com/example/huntaway/huntaway/PrecedenceIsEmptyPinLaw", "name", "(IZ)Ljava/lang/String;"⟩ : MethodName)) hown89 hS89 (by omega) (hw _ (List.mem_of_getElem? (i := 7) rfl)) (hw _ (List.mem_of_getElem? (i := 8) rfl)) (hw _ (List.mem_of_getElem? (i := 2) rfl)) (hw _ (List.mem_of_getElem? (i := 9) rfl)) (by decide) (backOfW (W := 0) (rm_name l Z a0 hw zc fm qF qP qI ((f.toUInt32 >>> ((8 : Int32) &&& 31).toUInt32).toInt32) (if (q &&& (64 : Int32)) = (0 : Int32) then (0 : Int32) else (1 : Int32)) h89 n0 (by omega) S_c hzc S_f hfm S_F S_P S_I A_I f96) hZ89 (hw _ (List.mem_of_getElem? (i := 9) rfl)) (hw _ (List.mem_of_getElem? (i := 2) rfl)) (by decide) (by decide) (own_EW hw) C89.1 all0) e92 (argsL := [(.int ((f.toUInt32 >>> ((8 : Int32) &&& 31).toUInt32).toInt32)), (.int (if (q &&& (64 : Int32)) = (0 : Int32) then (0 : Int32) else (1 : Int32)))]) (rest := []) rfl rfl pd_16 rfl (by rw [hml]; rfl) (hb hby at_91) (Nat.le_of_eq rfl) (by decide) (by decide) k92
    have k97 : To p.tables e below S0 (T97.setTop (mkF m 94 l90 [(.ref a97)])) := k97a
    have N97 := N89.app Nq97
    obtain ⟨h97, e97⟩ : ∃ z, T97.heap = z := ⟨_, rfl⟩
    rw [e97] at Kq97 S97 Cq97 hS97
    have z97 : h89.size ≤ h97.size := Kq97.1
    have C97 := C89.trans Cq97
    have y97 : @LT.lt Nat instLTNat a97 h97.size := S97.1.lt
    let l98 : Array Slot := #[.val (.int q), .val (.long a), .second, .val (.long b), .second, .val (.long d), .second, .val (.int f), .val (.int (1 : Int32)), .val (.ref (if (if (q &&& (4 : Int32)) = (0 : Int32) then (0 : Int32) else (1 : Int32)) = (0 : Int32) then qP else qF)), .val (.ref (if (if (q &&& (8 : Int32)) = (0 : Int32) then (0 : Int32) else (1 : Int32)) = (0 : Int32) then qP else qF)), .val (.ref (if (if (q &&& (16 : Int32)) = (0 : Int32) then (0 : Int32) else (1 : Int32)) = (0 : Int32) then qP else qF)), .val (.ref a89), .val (.ref a97), .unset, .unset, .unset]
    have k99 : To p.tables e below S0 (T97.setTop (mkF m 106 l98 [(.int (q &&& (128 : Int32))), (.int ((f.toUInt32 >>> ((16 : Int32) &&& 31).toUInt32).toInt32))])) := fun tt hq => k97 tt (by
      show Steps _ _ _ (T97.setTop (mkF m 94 l90 [(.ref a97)])) _
      refine XS.astore X97.here hx rfl (hb hby at_94) rfl rfl (l' := l98) rfl ?_
      show Steps _ _ _ (T97.setTop (mkF m 96 l98 [])) _
      refine XS.iload X97.here hx rfl (hb hby at_96) rfl ?_
      show Steps _ _ _ (T97.setTop (mkF m 98 l98 [(.int f)])) _
      refine XS.bipush X97.here hx rfl (hb hby at_98) ?_
      show Steps _ _ _ (T97.setTop (mkF m 100 l98 [(.int (16 : Int32)), (.int f)])) _
      refine XS.iushr X97.here hx rfl (hb hby at_100) rfl ?_
      show Steps _ _ _ (T97.setTop (mkF m 101 l98 [(.int ((f.toUInt32 >>> ((16 : Int32) &&& 31).toUInt32).toInt32))])) _
      refine XS.iloadN X97.here hx rfl (hb hby at_101) rfl ?_
      show Steps _ _ _ (T97.setTop (mkF m 102 l98 [(.int q), (.int ((f.toUInt32 >>> ((16 : Int32) &&& 31).toUInt32).toInt32))])) _
      refine XS.sipush X97.here hx rfl (hb hby at_102) ?_
      show Steps _ _ _ (T97.setTop (mkF m 105 l98 [(.int (128 : Int32)), (.int q), (.int ((f.toUInt32 >>> ((16 : Int32) &&& 31).toUInt32).toInt32))])) _
      refine XS.iand X97.here hx rfl (hb hby at_105) rfl ?_
      show Steps _ _ _ (T97.setTop (mkF m 106 l98 [(.int (q &&& (128 : Int32))), (.int ((f.toUInt32 >>> ((16 : Int32) &&& 31).toUInt32).toInt32))])) _
      exact hq)
    refine joinT (S0 := S0) X97 e97 (mkF m 114 l98 [(.int (if (q &&& (128 : Int32)) = (0 : Int32) then (0 : Int32) else (1 : Int32))), (.int ((f.toUInt32 >>> ((16 : Int32) &&& 31).toUInt32).toInt32))]) (fun kont => ?_) (fun T100 X100 e100 k100 => ?_)
    · -- the roads to pc 114
      by_cases hc106_101 : (q &&& (128 : Int32)) = (0 : Int32)
      · -- pc 106, holds
        have k102 : To p.tables e below S0 (T97.setTop (mkF m 114 l98 [(.int (0 : Int32)), (.int ((f.toUInt32 >>> ((16 : Int32) &&& 31).toUInt32).toInt32))])) := fun tt hq => k99 tt (by
          show Steps _ _ _ (T97.setTop (mkF m 106 l98 [(.int (q &&& (128 : Int32))), (.int ((f.toUInt32 >>> ((16 : Int32) &&& 31).toUInt32).toInt32))])) _
          refine XS.ifYes X97.here hx rfl (pc0 := 106) (pc' := 113) rfl (hb hby at_106) rfl ((if0 _ _).trans (teq hc106_101).1) (by decide) (by decide) ?_
          show Steps _ _ _ (T97.setTop (mkF m 113 l98 [(.int ((f.toUInt32 >>> ((16 : Int32) &&& 31).toUInt32).toInt32))])) _
          refine XS.iconst X97.here hx rfl (hb hby at_113) ?_
          show Steps _ _ _ (T97.setTop (mkF m 114 l98 [(.int (0 : Int32)), (.int ((f.toUInt32 >>> ((16 : Int32) &&& 31).toUInt32).toInt32))])) _
          exact hq)
        exact kont T97 X97 e97 (fun tt hq => k102 tt (by simpa only [if_pos hc106_101, l98] using hq))
      · -- pc 106, holds not
        have k103 : To p.tables e below S0 (T97.setTop (mkF m 114 l98 [(.int (1 : Int32)), (.int ((f.toUInt32 >>> ((16 : Int32) &&& 31).toUInt32).toInt32))])) := fun tt hq => k99 tt (by
          show Steps _ _ _ (T97.setTop (mkF m 106 l98 [(.int (q &&& (128 : Int32))), (.int ((f.toUInt32 >>> ((16 : Int32) &&& 31).toUInt32).toInt32))])) _
          refine XS.ifNo X97.here hx rfl (hb hby at_106) rfl ((if0 _ _).trans (feq hc106_101).1) ?_
          show Steps _ _ _ (T97.setTop (mkF m 109 l98 [(.int ((f.toUInt32 >>> ((16 : Int32) &&& 31).toUInt32).toInt32))])) _
          refine XS.iconst X97.here hx rfl (hb hby at_109) ?_
          show Steps _ _ _ (T97.setTop (mkF m 110 l98 [(.int (1 : Int32)), (.int ((f.toUInt32 >>> ((16 : Int32) &&& 31).toUInt32).toInt32))])) _
          refine XS.goto X97.here hx rfl (pc0 := 110) (pc' := 114) rfl (hb hby at_110) (by decide) (by decide) ?_
          show Steps _ _ _ (T97.setTop (mkF m 114 l98 [(.int (1 : Int32)), (.int ((f.toUInt32 >>> ((16 : Int32) &&& 31).toUInt32).toInt32))])) _
          exact hq)
        exact kont T97 X97 e97 (fun tt hq => k103 tt (by simpa only [if_neg hc106_101, l98] using hq))
    have f104 : Old Z n0 h97 := (f96.keep Kq97 all0)
    obtain ⟨_, T105, L105, X105, ⟨a105, rfl, Nq105, ga105, Kq105, S105⟩, k105a, Cq105, hS105, hZ105, hown105⟩ := callSW X100 hx hZ97 (y := (⟨"com/example/huntaway/huntaway/PrecedenceIsEmptyPinLaw", "name", "(IZ)Ljava/lang/String;"⟩ : MethodName)) hown97 hS97 (by omega) (hw _ (List.mem_of_getElem? (i := 7) rfl)) (hw _ (List.mem_of_getElem? (i := 8) rfl)) (hw _ (List.mem_of_getElem? (i := 2) rfl)) (hw _ (List.mem_of_getElem? (i := 9) rfl)) (by decide) (backOfW (W := 0) (rm_name l Z a0 hw zc fm qF qP qI ((f.toUInt32 >>> ((16 : Int32) &&& 31).toUInt32).toInt32) (if (q &&& (128 : Int32)) = (0 : Int32) then (0 : Int32) else (1 : Int32)) h97 n0 (by omega) S_c hzc S_f hfm S_F S_P S_I A_I f104) hZ97 (hw _ (List.mem_of_getElem? (i := 9) rfl)) (hw _ (List.mem_of_getElem? (i := 2) rfl)) (by decide) (by decide) (own_EW hw) C97.1 all0) e100 (argsL := [(.int ((f.toUInt32 >>> ((16 : Int32) &&& 31).toUInt32).toInt32)), (.int (if (q &&& (128 : Int32)) = (0 : Int32) then (0 : Int32) else (1 : Int32)))]) (rest := []) rfl rfl pd_16 rfl (by rw [hml]; rfl) (hb hby at_114) (Nat.le_of_eq rfl) (by decide) (by decide) k100
    have k105 : To p.tables e below S0 (T105.setTop (mkF m 117 l98 [(.ref a105)])) := k105a
    have N105 := N97.app Nq105
    obtain ⟨h105, e105⟩ : ∃ z, T105.heap = z := ⟨_, rfl⟩
    rw [e105] at Kq105 S105 Cq105 hS105
    have z105 : h97.size ≤ h105.size := Kq105.1
    have C105 := C97.trans Cq105
    have y105 : @LT.lt Nat instLTNat a105 h105.size := S105.1.lt
    let l106 : Array Slot := #[.val (.int q), .val (.long a), .second, .val (.long b), .second, .val (.long d), .second, .val (.int f), .val (.int (1 : Int32)), .val (.ref (if (if (q &&& (4 : Int32)) = (0 : Int32) then (0 : Int32) else (1 : Int32)) = (0 : Int32) then qP else qF)), .val (.ref (if (if (q &&& (8 : Int32)) = (0 : Int32) then (0 : Int32) else (1 : Int32)) = (0 : Int32) then qP else qF)), .val (.ref (if (if (q &&& (16 : Int32)) = (0 : Int32) then (0 : Int32) else (1 : Int32)) = (0 : Int32) then qP else qF)), .val (.ref a89), .val (.ref a97), .val (.ref a105), .unset, .unset]
    have k107 : To p.tables e below S0 (T105.setTop (mkF m 119 l106 [])) := fun tt hq => k105 tt (by
      show Steps _ _ _ (T105.setTop (mkF m 117 l98 [(.ref a105)])) _
      refine XS.astore X105.here hx rfl (hb hby at_117) rfl rfl (l' := l106) rfl ?_
      show Steps _ _ _ (T105.setTop (mkF m 119 l106 [])) _
      exact hq)
    obtain ⟨T108, h108, X108, e108, E108, A108, D108, -, st108⟩ := newO X105 hx hZ105 hown105 (hw _ (List.mem_of_getElem? (i := 36) rfl)) (hw _ (List.mem_of_getElem? (i := 37) rfl)) (hw _ (List.mem_of_getElem? (i := 38) rfl)) e105 (g := (mkF m 119 l106 [])) rfl (hb hby at_119) (by decide) (by decide)
    obtain ⟨b108, g108⟩ : ∃ z, z = h105.size := ⟨_, rfl⟩
    rw [← g108] at A108 D108 st108
    have k108 : To p.tables e below S0 (T108.setTop (mkF m 122 l106 [(.ref b108)])) := fun tt hq => k107 tt (st108 tt hq)
    have z108 : h105.size ≤ h108.size := E108.1
    have y108 : @LT.lt Nat instLTNat b108 h108.size := A108.lt
    have C108 := C105.trans (CHr.ext E108 C105.1)
    have F108_highest : Fld Z h108 b108 "com/example/huntaway/huntaway/Precedence" "highest" "J" (.long (0 : Int64)) := D108 (Or.inl (hw _ (List.mem_of_getElem? (i := 45) rfl))) (ty := .long) (by decide)
    have F108_permitting : Fld Z h108 b108 "com/example/huntaway/huntaway/Precedence" "permitting" "Ljava/lang/String;" .null := D108 (Or.inl (hw _ (List.mem_of_getElem? (i := 52) rfl))) (ty := (.object "java/lang/String")) (by decide)
    have F108_forbidding : Fld Z h108 b108 "com/example/huntaway/huntaway/Precedence" "forbidding" "Ljava/lang/String;" .null := D108 (Or.inl (hw _ (List.mem_of_getElem? (i := 54) rfl))) (ty := (.object "java/lang/String")) (by decide)
    have k109 : To p.tables e below S0 (T108.setTop (mkF m 123 l106 [(.ref b108), (.ref b108)])) := fun tt hq => k108 tt (by
      show Steps _ _ _ (T108.setTop (mkF m 122 l106 [(.ref b108)])) _
      refine XS.dup X108.here hx rfl (hb hby at_122) rfl rfl ?_
      show Steps _ _ _ (T108.setTop (mkF m 123 l106 [(.ref b108), (.ref b108)])) _
      exact hq)
    obtain ⟨_, T110, L110, X110, ⟨rfl, Nq110, Kq110, P1100, P1101, P1102, P1103⟩, k110a⟩ := callC' X108 hx hZ105 (y := (⟨"com/example/huntaway/huntaway/Precedence", "<init>", "()V"⟩ : MethodName)) rfl hown105 (hw _ (List.mem_of_getElem? (i := 39) rfl)) (hw _ (List.mem_of_getElem? (i := 40) rfl)) (hw _ (List.mem_of_getElem? (i := 41) rfl)) (by decide) (backC (W := 1) (rm_pinit l Z a0 hw b108 h108 n0 (by omega) A108 F108_highest F108_permitting F108_forbidding (by omega)) hZ105 (hw _ (List.mem_of_getElem? (i := 41) rfl)) (hw _ (List.mem_of_getElem? (i := 38) rfl)) (by decide) (by decide)) e108 (argsL := []) (rest := [(.ref b108)]) rfl rfl pd_17 rfl (by rw [hml]; rfl) (hb hby at_123) (Nat.le_of_eq rfl) (by decide) (by decide) k109
    have k110 : To p.tables e below S0 (T110.setTop (mkF m 126 l106 [(.ref b108)])) := k110a
    have N110 := N105.app Nq110
    obtain ⟨h110, e110⟩ : ∃ z, T110.heap = z := ⟨_, rfl⟩
    rw [e110] at Kq110 P1100 P1101 P1102 P1103
    have z110 : h108.size ≤ h110.size := Kq110.1
    have C110 := C108.trans (CHr.keep Kq110 (sfS (Safe.exa hZ105.alike A108 (by decide) (by decide)) sf0) C108.1)
    let l111 : Array Slot := #[.val (.int q), .val (.long a), .second, .val (.long b), .second, .val (.long d), .second, .val (.int f), .val (.int (1 : Int32)), .val (.ref (if (if (q &&& (4 : Int32)) = (0 : Int32) then (0 : Int32) else (1 : Int32)) = (0 : Int32) then qP else qF)), .val (.ref (if (if (q &&& (8 : Int32)) = (0 : Int32) then (0 : Int32) else (1 : Int32)) = (0 : Int32) then qP else qF)), .val (.ref (if (if (q &&& (16 : Int32)) = (0 : Int32) then (0 : Int32) else (1 : Int32)) = (0 : Int32) then qP else qF)), .val (.ref a89), .val (.ref a97), .val (.ref a105), .val (.ref b108), .unset]
    have k112 : To p.tables e below S0 (T110.setTop (mkF m 130 l111 [(.ref b108)])) := fun tt hq => k110 tt (by
      show Steps _ _ _ (T110.setTop (mkF m 126 l106 [(.ref b108)])) _
      refine XS.astore X110.here hx rfl (hb hby at_126) rfl rfl (l' := l111) rfl ?_
      show Steps _ _ _ (T110.setTop (mkF m 128 l111 [])) _
      refine XS.aload X110.here hx rfl (hb hby at_128) rfl rfl ?_
      show Steps _ _ _ (T110.setTop (mkF m 130 l111 [(.ref b108)])) _
      exact hq)
    obtain ⟨_, T113, L113, X113, ⟨rfl, Nq113, eq113⟩, k113a⟩ := callV' X110 hx hZ105 (y := (⟨"com/example/huntaway/huntaway/Precedence", "isEmpty", "()Z"⟩ : MethodName)) (z := (⟨"com/example/huntaway/huntaway/Precedence", "isEmpty", "()Z"⟩ : MethodName)) hown105 (hw _ (List.mem_of_getElem? (i := 46) rfl)) (hw _ (List.mem_of_getElem? (i := 47) rfl)) (notFace_of_selects (args := #[]) (mvT hZ105 (hw _ (List.mem_of_getElem? (i := 49) rfl)))) (hw _ (List.mem_of_getElem? (i := 49) rfl)) (hw _ (List.mem_of_getElem? (i := 48) rfl)) (by decide) P1100 (backC (W := 0) (rm_emNN l Z a0 hw b108 h110 n0 (by omega) P1102 P1103) hZ105 (hw _ (List.mem_of_getElem? (i := 50) rfl)) (hw _ (List.mem_of_getElem? (i := 38) rfl)) (by decide) (by decide)) e110 (argsL := []) (rest := []) rfl rfl pd_6 rfl (by rw [hml]; rfl) (hb hby at_130) (Nat.le_of_eq rfl) (by decide) (by decide) k112
    have k113 : To p.tables e below S0 (T113.setTop (mkF m 133 l111 [(.int (1 : Int32))])) := k113a
    have N113 := N110.app Nq113
    have e113 : T113.heap = h110 := eq113
    let l114 : Array Slot := #[.val (.int q), .val (.long a), .second, .val (.long b), .second, .val (.long d), .second, .val (.int f), .val (.int (1 : Int32)), .val (.ref (if (if (q &&& (4 : Int32)) = (0 : Int32) then (0 : Int32) else (1 : Int32)) = (0 : Int32) then qP else qF)), .val (.ref (if (if (q &&& (8 : Int32)) = (0 : Int32) then (0 : Int32) else (1 : Int32)) = (0 : Int32) then qP else qF)), .val (.ref (if (if (q &&& (16 : Int32)) = (0 : Int32) then (0 : Int32) else (1 : Int32)) = (0 : Int32) then qP else qF)), .val (.ref a89), .val (.ref a97), .val (.ref a105), .val (.ref b108), .val (.int (1 : Int32))]
    have k115 : To p.tables e below S0 (T113.setTop (mkF m 148 l114 [(.ref a89), (.long a), (.ref (if (if (q &&& (4 : Int32)) = (0 : Int32) then (0 : Int32) else (1 : Int32)) = (0 : Int32) then qP else qF)), (.ref b108)])) := fun tt hq => k113 tt (by
      show Steps _ _ _ (T113.setTop (mkF m 133 l111 [(.int (1 : Int32))])) _
      refine XS.istore X113.here hx rfl (hb hby at_133) rfl (l' := l114) rfl ?_
      show Steps _ _ _ (T113.setTop (mkF m 135 l114 [])) _
      refine XS.iload X113.here hx rfl (hb hby at_135) rfl ?_
      show Steps _ _ _ (T113.setTop (mkF m 137 l114 [(.int (1 : Int32))])) _
      refine XS.iconst X113.here hx rfl (hb hby at_137) ?_
      show Steps _ _ _ (T113.setTop (mkF m 138 l114 [(.int (1 : Int32)), (.int (1 : Int32))])) _
      refine XS.icmpNo X113.here hx rfl (hb hby at_138) rfl (flt (by decide)).1 ?_
      show Steps _ _ _ (T113.setTop (mkF m 141 l114 [])) _
      refine XS.aload X113.here hx rfl (hb hby at_141) rfl rfl ?_
      show Steps _ _ _ (T113.setTop (mkF m 143 l114 [(.ref b108)])) _
      refine XS.aload X113.here hx rfl (hb hby at_143) rfl rfl ?_
      show Steps _ _ _ (T113.setTop (mkF m 145 l114 [(.ref (if (if (q &&& (4 : Int32)) = (0 : Int32) then (0 : Int32) else (1 : Int32)) = (0 : Int32) then qP else qF)), (.ref b108)])) _
      refine XS.lloadN X113.here hx rfl (hb hby at_145) rfl ?_
      show Steps _ _ _ (T113.setTop (mkF m 146 l114 [(.long a), (.ref (if (if (q &&& (4 : Int32)) = (0 : Int32) then (0 : Int32) else (1 : Int32)) = (0 : Int32) then qP else qF)), (.ref b108)])) _
      refine XS.aload X113.here hx rfl (hb hby at_146) rfl rfl ?_
      show Steps _ _ _ (T113.setTop (mkF m 148 l114 [(.ref a89), (.long a), (.ref (if (if (q &&& (4 : Int32)) = (0 : Int32) then (0 : Int32) else (1 : Int32)) = (0 : Int32) then qP else qF)), (.ref b108)])) _
      exact hq)
    have f116 : Old Z n0 h110 := (((f104.keep Kq105 all0).ext E108).keep Kq110 (allS (by omega) all0))
    have f117 : Sm Z h110 a89 := (smKeepP (smExt (smKeep0 (smKeep0 S89 Kq97) Kq105) E108) Kq110 A108 (hw _ (List.mem_of_getElem? (i := 37) rfl)))
    obtain ⟨_, T118, L118, X118, ⟨rfl, Nq118, Kq118, A118, hj118, u118, v118x, Fh118, Fp118, Ff118, ok1_118, ok2_118, nn118⟩, k118a⟩ := callV' X113 hx hZ105 (y := (⟨"com/example/huntaway/huntaway/Precedence", "offer", "(Lcom/example/huntaway/huntaway/Effect;JLjava/lang/String;)V"⟩ : MethodName)) (z := (⟨"com/example/huntaway/huntaway/Precedence", "offer", "(Lcom/example/huntaway/huntaway/Effect;JLjava/lang/String;)V"⟩ : MethodName)) hown105 (hw _ (List.mem_of_getElem? (i := 57) rfl)) (hw _ (List.mem_of_getElem? (i := 58) rfl)) (notFace_of_selects (args := #[]) (mvT hZ105 (hw _ (List.mem_of_getElem? (i := 60) rfl)))) (hw _ (List.mem_of_getElem? (i := 60) rfl)) (hw _ (List.mem_of_getElem? (i := 59) rfl)) (by decide) P1100 (backC (W := 0) (rm_off l Z a0 hw zc fm qF qP qI b108 (if (if (q &&& (4 : Int32)) = (0 : Int32) then (0 : Int32) else (1 : Int32)) = (0 : Int32) then qP else qF) a (-9223372036854775808 : Int64) a89 .null .null h110 n0 (by omega) S_c hzc S_f hfm S_F S_P S_I A_I f116 P1100 P1101 P1102 P1103 f117 (Or.inl rfl) (Or.inl rfl) (by omega) (Or.inr rfl)) hZ105 (hw _ (List.mem_of_getElem? (i := 61) rfl)) (hw _ (List.mem_of_getElem? (i := 38) rfl)) (by decide) (by decide)) e113 (argsL := [(.ref (if (if (q &&& (4 : Int32)) = (0 : Int32) then (0 : Int32) else (1 : Int32)) = (0 : Int32) then qP else qF)), (.long a), (.ref a89)]) (rest := []) rfl rfl pd_18 rfl (by rw [hml]; rfl) (hb hby at_148) (Nat.le_of_eq rfl) (by decide) (by decide) k115
    have k118 : To p.tables e below S0 (T118.setTop (mkF m 151 l114 [])) := k118a
    have N118 := N113.app Nq118
    obtain ⟨h118, e118⟩ : ∃ z, T118.heap = z := ⟨_, rfl⟩
    rw [e118] at Kq118 A118 Fh118 Fp118 Ff118 ok1_118 ok2_118
    have z118 : h110.size ≤ h118.size := Kq118.1
    have C118 := C110.trans (CHr.keep Kq118 (sfS (Safe.exa hZ105.alike P1100 (by decide) (by decide)) sf0) C110.1)
    have k119 : To p.tables e below S0 (T118.setTop (mkF m 158 l114 [(.ref b108)])) := fun tt hq => k118 tt (by
      show Steps _ _ _ (T118.setTop (mkF m 151 l114 [])) _
      refine XS.iload X118.here hx rfl (hb hby at_151) rfl ?_
      show Steps _ _ _ (T118.setTop (mkF m 153 l114 [(.int (1 : Int32))])) _
      refine XS.ifNo X118.here hx rfl (hb hby at_153) rfl ((if0 _ _).trans (feq (by decide)).1) ?_
      show Steps _ _ _ (T118.setTop (mkF m 156 l114 [])) _
      refine XS.aload X118.here hx rfl (hb hby at_156) rfl rfl ?_
      show Steps _ _ _ (T118.setTop (mkF m 158 l114 [(.ref b108)])) _
      exact hq)
    obtain ⟨_, T120, L120, X120, ⟨rfl, Nq120, eq120⟩, k120a⟩ := callV' X118 hx hZ105 (y := (⟨"com/example/huntaway/huntaway/Precedence", "isEmpty", "()Z"⟩ : MethodName)) (z := (⟨"com/example/huntaway/huntaway/Precedence", "isEmpty", "()Z"⟩ : MethodName)) hown105 (hw _ (List.mem_of_getElem? (i := 46) rfl)) (hw _ (List.mem_of_getElem? (i := 47) rfl)) (notFace_of_selects (args := #[]) (mvT hZ105 (hw _ (List.mem_of_getElem? (i := 49) rfl)))) (hw _ (List.mem_of_getElem? (i := 49) rfl)) (hw _ (List.mem_of_getElem? (i := 48) rfl)) (by decide) A118 (backC (W := 0) (rm_em l Z a0 hw b108 u118 v118x h118 n0 (by omega) Fp118 Ff118 (okRef ok1_118) (okRef ok2_118) nn118) hZ105 (hw _ (List.mem_of_getElem? (i := 50) rfl)) (hw _ (List.mem_of_getElem? (i := 38) rfl)) (by decide) (by decide)) e118 (argsL := []) (rest := []) rfl rfl pd_6 rfl (by rw [hml]; rfl) (hb hby at_158) (Nat.le_of_eq rfl) (by decide) (by decide) k119
    have k120 : To p.tables e below S0 (T120.setTop (mkF m 161 l114 [(.int (0 : Int32))])) := k120a
    have N120 := N118.app Nq120
    have e120 : T120.heap = h118 := eq120
    have k121 : To p.tables e below S0 (T120.setTop (mkF m 251 l114 [(.ref b108)])) := fun tt hq => k120 tt (by
      show Steps _ _ _ (T120.setTop (mkF m 161 l114 [(.int (0 : Int32))])) _
      refine XS.ifNo X120.here hx rfl (hb hby at_161) rfl ((if0 _ _).trans (teq (by decide)).2) ?_
      show Steps _ _ _ (T120.setTop (mkF m 164 l114 [])) _
      refine XS.iconst X120.here hx rfl (hb hby at_164) ?_
      show Steps _ _ _ (T120.setTop (mkF m 165 l114 [(.int (1 : Int32))])) _
      refine XS.goto X120.here hx rfl (pc0 := 165) (pc' := 169) rfl (hb hby at_165) (by decide) (by decide) ?_
      show Steps _ _ _ (T120.setTop (mkF m 169 l114 [(.int (1 : Int32))])) _
      refine XS.istore X120.here hx rfl (hb hby at_169) rfl (l' := l114) rfl ?_
      show Steps _ _ _ (T120.setTop (mkF m 171 l114 [])) _
      refine XS.iload X120.here hx rfl (hb hby at_171) rfl ?_
      show Steps _ _ _ (T120.setTop (mkF m 173 l114 [(.int (1 : Int32))])) _
      refine XS.iconst X120.here hx rfl (hb hby at_173) ?_
      show Steps _ _ _ (T120.setTop (mkF m 174 l114 [(.int (2 : Int32)), (.int (1 : Int32))])) _
      refine XS.icmpYes X120.here hx rfl (pc0 := 174) (pc' := 207) rfl (hb hby at_174) rfl (tlt (by decide)).1 (by decide) (by decide) ?_
      show Steps _ _ _ (T120.setTop (mkF m 207 l114 [])) _
      refine XS.iload X120.here hx rfl (hb hby at_207) rfl ?_
      show Steps _ _ _ (T120.setTop (mkF m 209 l114 [(.int (1 : Int32))])) _
      refine XS.iconst X120.here hx rfl (hb hby at_209) ?_
      show Steps _ _ _ (T120.setTop (mkF m 210 l114 [(.int (3 : Int32)), (.int (1 : Int32))])) _
      refine XS.icmpYes X120.here hx rfl (pc0 := 210) (pc' := 244) rfl (hb hby at_210) rfl (tlt (by decide)).1 (by decide) (by decide) ?_
      show Steps _ _ _ (T120.setTop (mkF m 244 l114 [])) _
      refine XS.iload X120.here hx rfl (hb hby at_244) rfl ?_
      show Steps _ _ _ (T120.setTop (mkF m 246 l114 [(.int (1 : Int32))])) _
      refine XS.ifNo X120.here hx rfl (hb hby at_246) rfl ((if0 _ _).trans (feq (by decide)).1) ?_
      show Steps _ _ _ (T120.setTop (mkF m 249 l114 [])) _
      refine XS.aload X120.here hx rfl (hb hby at_249) rfl rfl ?_
      show Steps _ _ _ (T120.setTop (mkF m 251 l114 [(.ref b108)])) _
      exact hq)
    obtain ⟨_, T122, L122, X122, ⟨rfl, Nq122, eq122⟩, k122a⟩ := callV' X120 hx hZ105 (y := (⟨"com/example/huntaway/huntaway/Precedence", "isEmpty", "()Z"⟩ : MethodName)) (z := (⟨"com/example/huntaway/huntaway/Precedence", "isEmpty", "()Z"⟩ : MethodName)) hown105 (hw _ (List.mem_of_getElem? (i := 46) rfl)) (hw _ (List.mem_of_getElem? (i := 47) rfl)) (notFace_of_selects (args := #[]) (mvT hZ105 (hw _ (List.mem_of_getElem? (i := 49) rfl)))) (hw _ (List.mem_of_getElem? (i := 49) rfl)) (hw _ (List.mem_of_getElem? (i := 48) rfl)) (by decide) A118 (backC (W := 0) (rm_em l Z a0 hw b108 u118 v118x h118 n0 (by omega) Fp118 Ff118 (okRef ok1_118) (okRef ok2_118) nn118) hZ105 (hw _ (List.mem_of_getElem? (i := 50) rfl)) (hw _ (List.mem_of_getElem? (i := 38) rfl)) (by decide) (by decide)) e120 (argsL := []) (rest := []) rfl rfl pd_6 rfl (by rw [hml]; rfl) (hb hby at_251) (Nat.le_of_eq rfl) (by decide) (by decide) k121
    have k122 : To p.tables e below S0 (T122.setTop (mkF m 254 l114 [(.int (0 : Int32))])) := k122a
    have N122 := N120.app Nq122
    have e122 : T122.heap = h118 := eq122
    have k123 : To p.tables e below S0 (T122.setTop (mkF m 276 l114 [(.int (1 : Int32))])) := fun tt hq => k122 tt (by
      show Steps _ _ _ (T122.setTop (mkF m 254 l114 [(.int (0 : Int32))])) _
      refine XS.iload X122.here hx rfl (hb hby at_254) rfl ?_
      show Steps _ _ _ (T122.setTop (mkF m 256 l114 [(.int (1 : Int32)), (.int (0 : Int32))])) _
      refine XS.ifYes X122.here hx rfl (pc0 := 256) (pc' := 263) rfl (hb hby at_256) rfl ((if0 _ _).trans (feq (by decide)).2) (by decide) (by decide) ?_
      show Steps _ _ _ (T122.setTop (mkF m 263 l114 [(.int (0 : Int32))])) _
      refine XS.iconst X122.here hx rfl (hb hby at_263) ?_
      show Steps _ _ _ (T122.setTop (mkF m 264 l114 [(.int (0 : Int32)), (.int (0 : Int32))])) _
      refine XS.icmpNo X122.here hx rfl (hb hby at_264) rfl (teq (by decide)).2 ?_
      show Steps _ _ _ (T122.setTop (mkF m 267 l114 [])) _
      refine XS.iconst X122.here hx rfl (hb hby at_267) ?_
      show Steps _ _ _ (T122.setTop (mkF m 268 l114 [(.int (1 : Int32))])) _
      refine XS.goto X122.here hx rfl (pc0 := 268) (pc' := 272) rfl (hb hby at_268) (by decide) (by decide) ?_
      show Steps _ _ _ (T122.setTop (mkF m 272 l114 [(.int (1 : Int32))])) _
      refine XS.istore X122.here hx rfl (hb hby at_272) rfl (l' := l114) rfl ?_
      show Steps _ _ _ (T122.setTop (mkF m 274 l114 [])) _
      refine XS.iload X122.here hx rfl (hb hby at_274) rfl ?_
      show Steps _ _ _ (T122.setTop (mkF m 276 l114 [(.int (1 : Int32))])) _
      exact hq)
    refine retIntW X122 hx hZ105 (own_EW hw) hS105 (by omega) C118 e122 hret hlk (by simp) rfl (hb hby at_276) k123 ?_ (by decide) (by decide)
    exact ⟨rfl, N122⟩
  · -- pc 3: (2 : Int32)
    have k124 : To p.tables e below S0 (s₁.setTop (mkF m 3 l1 [(.int (2 : Int32))])) := by have hq := k2; rw [ht3] at hq; exact hq
    let l125 : Array Slot := #[.val (.int q), .val (.long a), .second, .val (.long b), .second, .val (.long d), .second, .val (.int f), .val (.int (2 : Int32)), .unset, .unset, .unset, .unset, .unset, .unset, .unset, .unset]
    have k126 : To p.tables e below S0 (s₁.setTop (mkF m 8 l125 [(.int (q &&& (4 : Int32)))])) := fun tt hq => k124 tt (by
      show Steps _ _ _ (s₁.setTop (mkF m 3 l1 [(.int (2 : Int32))])) _
      refine XS.istore X0.here hx rfl (hb hby at_3) rfl (l' := l125) rfl ?_
      show Steps _ _ _ (s₁.setTop (mkF m 5 l125 [])) _
      refine XS.iloadN X0.here hx rfl (hb hby at_5) rfl ?_
      show Steps _ _ _ (s₁.setTop (mkF m 6 l125 [(.int q)])) _
      refine XS.iconst X0.here hx rfl (hb hby at_6) ?_
      show Steps _ _ _ (s₁.setTop (mkF m 7 l125 [(.int (4 : Int32)), (.int q)])) _
      refine XS.iand X0.here hx rfl (hb hby at_7) rfl ?_
      show Steps _ _ _ (s₁.setTop (mkF m 8 l125 [(.int (q &&& (4 : Int32)))])) _
      exact hq)
    refine joinT (S0 := S0) X0 e0 (mkF m 16 l125 [(.int (if (q &&& (4 : Int32)) = (0 : Int32) then (0 : Int32) else (1 : Int32)))]) (fun kont => ?_) (fun T127 X127 e127 k127 => ?_)
    · -- the roads to pc 16
      by_cases hc8_128 : (q &&& (4 : Int32)) = (0 : Int32)
      · -- pc 8, holds
        have k129 : To p.tables e below S0 (s₁.setTop (mkF m 16 l125 [(.int (0 : Int32))])) := fun tt hq => k126 tt (by
          show Steps _ _ _ (s₁.setTop (mkF m 8 l125 [(.int (q &&& (4 : Int32)))])) _
          refine XS.ifYes X0.here hx rfl (pc0 := 8) (pc' := 15) rfl (hb hby at_8) rfl ((if0 _ _).trans (teq hc8_128).1) (by decide) (by decide) ?_
          show Steps _ _ _ (s₁.setTop (mkF m 15 l125 [])) _
          refine XS.iconst X0.here hx rfl (hb hby at_15) ?_
          show Steps _ _ _ (s₁.setTop (mkF m 16 l125 [(.int (0 : Int32))])) _
          exact hq)
        exact kont s₁ X0 e0 (fun tt hq => k129 tt (by simpa only [if_pos hc8_128, l125] using hq))
      · -- pc 8, holds not
        have k130 : To p.tables e below S0 (s₁.setTop (mkF m 16 l125 [(.int (1 : Int32))])) := fun tt hq => k126 tt (by
          show Steps _ _ _ (s₁.setTop (mkF m 8 l125 [(.int (q &&& (4 : Int32)))])) _
          refine XS.ifNo X0.here hx rfl (hb hby at_8) rfl ((if0 _ _).trans (feq hc8_128).1) ?_
          show Steps _ _ _ (s₁.setTop (mkF m 11 l125 [])) _
          refine XS.iconst X0.here hx rfl (hb hby at_11) ?_
          show Steps _ _ _ (s₁.setTop (mkF m 12 l125 [(.int (1 : Int32))])) _
          refine XS.goto X0.here hx rfl (pc0 := 12) (pc' := 16) rfl (hb hby at_12) (by decide) (by decide) ?_
          show Steps _ _ _ (s₁.setTop (mkF m 16 l125 [(.int (1 : Int32))])) _
          exact hq)
        exact kont s₁ X0 e0 (fun tt hq => k130 tt (by simpa only [if_neg hc8_128, l125] using hq))
    obtain ⟨_, T131, L131, X131, ⟨rfl, Nq131, eq131⟩, k131a⟩ := callS' X127 hx hZ (y := (⟨"com/example/huntaway/huntaway/PrecedenceIsEmptyPinLaw", "effect", "(Z)Lcom/example/huntaway/huntaway/Effect;"⟩ : MethodName)) hown (hw _ (List.mem_of_getElem? (i := 0) rfl)) (hw _ (List.mem_of_getElem? (i := 1) rfl)) (hw _ (List.mem_of_getElem? (i := 2) rfl)) (hw _ (List.mem_of_getElem? (i := 3) rfl)) (by decide) (backC (W := 0) (rm_eff l Z a0 hw zc fm qF qP qI (if (q &&& (4 : Int32)) = (0 : Int32) then (0 : Int32) else (1 : Int32)) h0 n0 (by omega) S_c hzc S_f hfm S_F S_P S_I A_I O0) hZ (hw _ (List.mem_of_getElem? (i := 3) rfl)) (hw _ (List.mem_of_getElem? (i := 2) rfl)) (by decide) (by decide)) e127 (argsL := [(.int (if (q &&& (4 : Int32)) = (0 : Int32) then (0 : Int32) else (1 : Int32)))]) (rest := []) rfl rfl pd_15 rfl (by rw [hml]; rfl) (hb hby at_16) (Nat.le_of_eq rfl) (by decide) (by decide) k127
    have k131 : To p.tables e below S0 (T131.setTop (mkF m 19 l125 [(.ref (if (if (q &&& (4 : Int32)) = (0 : Int32) then (0 : Int32) else (1 : Int32)) = (0 : Int32) then qP else qF))])) := k131a
    have N131 := N0.app Nq131
    have e131 : T131.heap = h0 := eq131
    let l132 : Array Slot := #[.val (.int q), .val (.long a), .second, .val (.long b), .second, .val (.long d), .second, .val (.int f), .val (.int (2 : Int32)), .val (.ref (if (if (q &&& (4 : Int32)) = (0 : Int32) then (0 : Int32) else (1 : Int32)) = (0 : Int32) then qP else qF)), .unset, .unset, .unset, .unset, .unset, .unset, .unset]
    have k133 : To p.tables e below S0 (T131.setTop (mkF m 25 l132 [(.int (q &&& (8 : Int32)))])) := fun tt hq => k131 tt (by
      show Steps _ _ _ (T131.setTop (mkF m 19 l125 [(.ref (if (if (q &&& (4 : Int32)) = (0 : Int32) then (0 : Int32) else (1 : Int32)) = (0 : Int32) then qP else qF))])) _
      refine XS.astore X131.here hx rfl (hb hby at_19) rfl rfl (l' := l132) rfl ?_
      show Steps _ _ _ (T131.setTop (mkF m 21 l132 [])) _
      refine XS.iloadN X131.here hx rfl (hb hby at_21) rfl ?_
      show Steps _ _ _ (T131.setTop (mkF m 22 l132 [(.int q)])) _
      refine XS.bipush X131.here hx rfl (hb hby at_22) ?_
      show Steps _ _ _ (T131.setTop (mkF m 24 l132 [(.int (8 : Int32)), (.int q)])) _
      refine XS.iand X131.here hx rfl (hb hby at_24) rfl ?_
      show Steps _ _ _ (T131.setTop (mkF m 25 l132 [(.int (q &&& (8 : Int32)))])) _
      exact hq)
    refine joinT (S0 := S0) X131 e131 (mkF m 33 l132 [(.int (if (q &&& (8 : Int32)) = (0 : Int32) then (0 : Int32) else (1 : Int32)))]) (fun kont => ?_) (fun T134 X134 e134 k134 => ?_)
    · -- the roads to pc 33
      by_cases hc25_135 : (q &&& (8 : Int32)) = (0 : Int32)
      · -- pc 25, holds
        have k136 : To p.tables e below S0 (T131.setTop (mkF m 33 l132 [(.int (0 : Int32))])) := fun tt hq => k133 tt (by
          show Steps _ _ _ (T131.setTop (mkF m 25 l132 [(.int (q &&& (8 : Int32)))])) _
          refine XS.ifYes X131.here hx rfl (pc0 := 25) (pc' := 32) rfl (hb hby at_25) rfl ((if0 _ _).trans (teq hc25_135).1) (by decide) (by decide) ?_
          show Steps _ _ _ (T131.setTop (mkF m 32 l132 [])) _
          refine XS.iconst X131.here hx rfl (hb hby at_32) ?_
          show Steps _ _ _ (T131.setTop (mkF m 33 l132 [(.int (0 : Int32))])) _
          exact hq)
        exact kont T131 X131 e131 (fun tt hq => k136 tt (by simpa only [if_pos hc25_135, l132] using hq))
      · -- pc 25, holds not
        have k137 : To p.tables e below S0 (T131.setTop (mkF m 33 l132 [(.int (1 : Int32))])) := fun tt hq => k133 tt (by
          show Steps _ _ _ (T131.setTop (mkF m 25 l132 [(.int (q &&& (8 : Int32)))])) _
          refine XS.ifNo X131.here hx rfl (hb hby at_25) rfl ((if0 _ _).trans (feq hc25_135).1) ?_
          show Steps _ _ _ (T131.setTop (mkF m 28 l132 [])) _
          refine XS.iconst X131.here hx rfl (hb hby at_28) ?_
          show Steps _ _ _ (T131.setTop (mkF m 29 l132 [(.int (1 : Int32))])) _
          refine XS.goto X131.here hx rfl (pc0 := 29) (pc' := 33) rfl (hb hby at_29) (by decide) (by decide) ?_
          show Steps _ _ _ (T131.setTop (mkF m 33 l132 [(.int (1 : Int32))])) _
          exact hq)
        exact kont T131 X131 e131 (fun tt hq => k137 tt (by simpa only [if_neg hc25_135, l132] using hq))
    obtain ⟨_, T138, L138, X138, ⟨rfl, Nq138, eq138⟩, k138a⟩ := callS' X134 hx hZ (y := (⟨"com/example/huntaway/huntaway/PrecedenceIsEmptyPinLaw", "effect", "(Z)Lcom/example/huntaway/huntaway/Effect;"⟩ : MethodName)) hown (hw _ (List.mem_of_getElem? (i := 0) rfl)) (hw _ (List.mem_of_getElem? (i := 1) rfl)) (hw _ (List.mem_of_getElem? (i := 2) rfl)) (hw _ (List.mem_of_getElem? (i := 3) rfl)) (by decide) (backC (W := 0) (rm_eff l Z a0 hw zc fm qF qP qI (if (q &&& (8 : Int32)) = (0 : Int32) then (0 : Int32) else (1 : Int32)) h0 n0 (by omega) S_c hzc S_f hfm S_F S_P S_I A_I O0) hZ (hw _ (List.mem_of_getElem? (i := 3) rfl)) (hw _ (List.mem_of_getElem? (i := 2) rfl)) (by decide) (by decide)) e134 (argsL := [(.int (if (q &&& (8 : Int32)) = (0 : Int32) then (0 : Int32) else (1 : Int32)))]) (rest := []) rfl rfl pd_15 rfl (by rw [hml]; rfl) (hb hby at_33) (Nat.le_of_eq rfl) (by decide) (by decide) k134
    have k138 : To p.tables e below S0 (T138.setTop (mkF m 36 l132 [(.ref (if (if (q &&& (8 : Int32)) = (0 : Int32) then (0 : Int32) else (1 : Int32)) = (0 : Int32) then qP else qF))])) := k138a
    have N138 := N131.app Nq138
    have e138 : T138.heap = h0 := eq138
    let l139 : Array Slot := #[.val (.int q), .val (.long a), .second, .val (.long b), .second, .val (.long d), .second, .val (.int f), .val (.int (2 : Int32)), .val (.ref (if (if (q &&& (4 : Int32)) = (0 : Int32) then (0 : Int32) else (1 : Int32)) = (0 : Int32) then qP else qF)), .val (.ref (if (if (q &&& (8 : Int32)) = (0 : Int32) then (0 : Int32) else (1 : Int32)) = (0 : Int32) then qP else qF)), .unset, .unset, .unset, .unset, .unset, .unset]
    have k140 : To p.tables e below S0 (T138.setTop (mkF m 42 l139 [(.int (q &&& (16 : Int32)))])) := fun tt hq => k138 tt (by
      show Steps _ _ _ (T138.setTop (mkF m 36 l132 [(.ref (if (if (q &&& (8 : Int32)) = (0 : Int32) then (0 : Int32) else (1 : Int32)) = (0 : Int32) then qP else qF))])) _
      refine XS.astore X138.here hx rfl (hb hby at_36) rfl rfl (l' := l139) rfl ?_
      show Steps _ _ _ (T138.setTop (mkF m 38 l139 [])) _
      refine XS.iloadN X138.here hx rfl (hb hby at_38) rfl ?_
      show Steps _ _ _ (T138.setTop (mkF m 39 l139 [(.int q)])) _
      refine XS.bipush X138.here hx rfl (hb hby at_39) ?_
      show Steps _ _ _ (T138.setTop (mkF m 41 l139 [(.int (16 : Int32)), (.int q)])) _
      refine XS.iand X138.here hx rfl (hb hby at_41) rfl ?_
      show Steps _ _ _ (T138.setTop (mkF m 42 l139 [(.int (q &&& (16 : Int32)))])) _
      exact hq)
    refine joinT (S0 := S0) X138 e138 (mkF m 50 l139 [(.int (if (q &&& (16 : Int32)) = (0 : Int32) then (0 : Int32) else (1 : Int32)))]) (fun kont => ?_) (fun T141 X141 e141 k141 => ?_)
    · -- the roads to pc 50
      by_cases hc42_142 : (q &&& (16 : Int32)) = (0 : Int32)
      · -- pc 42, holds
        have k143 : To p.tables e below S0 (T138.setTop (mkF m 50 l139 [(.int (0 : Int32))])) := fun tt hq => k140 tt (by
          show Steps _ _ _ (T138.setTop (mkF m 42 l139 [(.int (q &&& (16 : Int32)))])) _
          refine XS.ifYes X138.here hx rfl (pc0 := 42) (pc' := 49) rfl (hb hby at_42) rfl ((if0 _ _).trans (teq hc42_142).1) (by decide) (by decide) ?_
          show Steps _ _ _ (T138.setTop (mkF m 49 l139 [])) _
          refine XS.iconst X138.here hx rfl (hb hby at_49) ?_
          show Steps _ _ _ (T138.setTop (mkF m 50 l139 [(.int (0 : Int32))])) _
          exact hq)
        exact kont T138 X138 e138 (fun tt hq => k143 tt (by simpa only [if_pos hc42_142, l139] using hq))
      · -- pc 42, holds not
        have k144 : To p.tables e below S0 (T138.setTop (mkF m 50 l139 [(.int (1 : Int32))])) := fun tt hq => k140 tt (by
          show Steps _ _ _ (T138.setTop (mkF m 42 l139 [(.int (q &&& (16 : Int32)))])) _
          refine XS.ifNo X138.here hx rfl (hb hby at_42) rfl ((if0 _ _).trans (feq hc42_142).1) ?_
          show Steps _ _ _ (T138.setTop (mkF m 45 l139 [])) _
          refine XS.iconst X138.here hx rfl (hb hby at_45) ?_
          show Steps _ _ _ (T138.setTop (mkF m 46 l139 [(.int (1 : Int32))])) _
          refine XS.goto X138.here hx rfl (pc0 := 46) (pc' := 50) rfl (hb hby at_46) (by decide) (by decide) ?_
          show Steps _ _ _ (T138.setTop (mkF m 50 l139 [(.int (1 : Int32))])) _
          exact hq)
        exact kont T138 X138 e138 (fun tt hq => k144 tt (by simpa only [if_neg hc42_142, l139] using hq))
    obtain ⟨_, T145, L145, X145, ⟨rfl, Nq145, eq145⟩, k145a⟩ := callS' X141 hx hZ (y := (⟨"com/example/huntaway/huntaway/PrecedenceIsEmptyPinLaw", "effect", "(Z)Lcom/example/huntaway/huntaway/Effect;"⟩ : MethodName)) hown (hw _ (List.mem_of_getElem? (i := 0) rfl)) (hw _ (List.mem_of_getElem? (i := 1) rfl)) (hw _ (List.mem_of_getElem? (i := 2) rfl)) (hw _ (List.mem_of_getElem? (i := 3) rfl)) (by decide) (backC (W := 0) (rm_eff l Z a0 hw zc fm qF qP qI (if (q &&& (16 : Int32)) = (0 : Int32) then (0 : Int32) else (1 : Int32)) h0 n0 (by omega) S_c hzc S_f hfm S_F S_P S_I A_I O0) hZ (hw _ (List.mem_of_getElem? (i := 3) rfl)) (hw _ (List.mem_of_getElem? (i := 2) rfl)) (by decide) (by decide)) e141 (argsL := [(.int (if (q &&& (16 : Int32)) = (0 : Int32) then (0 : Int32) else (1 : Int32)))]) (rest := []) rfl rfl pd_15 rfl (by rw [hml]; rfl) (hb hby at_50) (Nat.le_of_eq rfl) (by decide) (by decide) k141
    have k145 : To p.tables e below S0 (T145.setTop (mkF m 53 l139 [(.ref (if (if (q &&& (16 : Int32)) = (0 : Int32) then (0 : Int32) else (1 : Int32)) = (0 : Int32) then qP else qF))])) := k145a
    have N145 := N138.app Nq145
    have e145 : T145.heap = h0 := eq145
    let l146 : Array Slot := #[.val (.int q), .val (.long a), .second, .val (.long b), .second, .val (.long d), .second, .val (.int f), .val (.int (2 : Int32)), .val (.ref (if (if (q &&& (4 : Int32)) = (0 : Int32) then (0 : Int32) else (1 : Int32)) = (0 : Int32) then qP else qF)), .val (.ref (if (if (q &&& (8 : Int32)) = (0 : Int32) then (0 : Int32) else (1 : Int32)) = (0 : Int32) then qP else qF)), .val (.ref (if (if (q &&& (16 : Int32)) = (0 : Int32) then (0 : Int32) else (1 : Int32)) = (0 : Int32) then qP else qF)), .unset, .unset, .unset, .unset, .unset]
    have k147 : To p.tables e below S0 (T145.setTop (mkF m 61 l146 [(.int (q &&& (32 : Int32))), (.int f)])) := fun tt hq => k145 tt (by
      show Steps _ _ _ (T145.setTop (mkF m 53 l139 [(.ref (if (if (q &&& (16 : Int32)) = (0 : Int32) then (0 : Int32) else (1 : Int32)) = (0 : Int32) then qP else qF))])) _
      refine XS.astore X145.here hx rfl (hb hby at_53) rfl rfl (l' := l146) rfl ?_
      show Steps _ _ _ (T145.setTop (mkF m 55 l146 [])) _
      refine XS.iload X145.here hx rfl (hb hby at_55) rfl ?_
      show Steps _ _ _ (T145.setTop (mkF m 57 l146 [(.int f)])) _
      refine XS.iloadN X145.here hx rfl (hb hby at_57) rfl ?_
      show Steps _ _ _ (T145.setTop (mkF m 58 l146 [(.int q), (.int f)])) _
      refine XS.bipush X145.here hx rfl (hb hby at_58) ?_
      show Steps _ _ _ (T145.setTop (mkF m 60 l146 [(.int (32 : Int32)), (.int q), (.int f)])) _
      refine XS.iand X145.here hx rfl (hb hby at_60) rfl ?_
      show Steps _ _ _ (T145.setTop (mkF m 61 l146 [(.int (q &&& (32 : Int32))), (.int f)])) _
      exact hq)
    refine joinT (S0 := S0) X145 e145 (mkF m 69 l146 [(.int (if (q &&& (32 : Int32)) = (0 : Int32) then (0 : Int32) else (1 : Int32))), (.int f)]) (fun kont => ?_) (fun T148 X148 e148 k148 => ?_)
    · -- the roads to pc 69
      by_cases hc61_149 : (q &&& (32 : Int32)) = (0 : Int32)
      · -- pc 61, holds
        have k150 : To p.tables e below S0 (T145.setTop (mkF m 69 l146 [(.int (0 : Int32)), (.int f)])) := fun tt hq => k147 tt (by
          show Steps _ _ _ (T145.setTop (mkF m 61 l146 [(.int (q &&& (32 : Int32))), (.int f)])) _
          refine XS.ifYes X145.here hx rfl (pc0 := 61) (pc' := 68) rfl (hb hby at_61) rfl ((if0 _ _).trans (teq hc61_149).1) (by decide) (by decide) ?_
          show Steps _ _ _ (T145.setTop (mkF m 68 l146 [(.int f)])) _
          refine XS.iconst X145.here hx rfl (hb hby at_68) ?_
          show Steps _ _ _ (T145.setTop (mkF m 69 l146 [(.int (0 : Int32)), (.int f)])) _
          exact hq)
        exact kont T145 X145 e145 (fun tt hq => k150 tt (by simpa only [if_pos hc61_149, l146] using hq))
      · -- pc 61, holds not
        have k151 : To p.tables e below S0 (T145.setTop (mkF m 69 l146 [(.int (1 : Int32)), (.int f)])) := fun tt hq => k147 tt (by
          show Steps _ _ _ (T145.setTop (mkF m 61 l146 [(.int (q &&& (32 : Int32))), (.int f)])) _
          refine XS.ifNo X145.here hx rfl (hb hby at_61) rfl ((if0 _ _).trans (feq hc61_149).1) ?_
          show Steps _ _ _ (T145.setTop (mkF m 64 l146 [(.int f)])) _
          refine XS.iconst X145.here hx rfl (hb hby at_64) ?_
          show Steps _ _ _ (T145.setTop (mkF m 65 l146 [(.int (1 : Int32)), (.int f)])) _
          refine XS.goto X145.here hx rfl (pc0 := 65) (pc' := 69) rfl (hb hby at_65) (by decide) (by decide) ?_
          show Steps _ _ _ (T145.setTop (mkF m 69 l146 [(.int (1 : Int32)), (.int f)])) _
          exact hq)
        exact kont T145 X145 e145 (fun tt hq => k151 tt (by simpa only [if_neg hc61_149, l146] using hq))
    obtain ⟨_, T152, L152, X152, ⟨a152, rfl, Nq152, ga152, Kq152, S152⟩, k152a, Cq152, hS152, hZ152, hown152⟩ := callSW X148 hx hZ (y := (⟨"com/example/huntaway/huntaway/PrecedenceIsEmptyPinLaw", "name", "(IZ)Ljava/lang/String;"⟩ : MethodName)) hown hS0 (by omega) (hw _ (List.mem_of_getElem? (i := 7) rfl)) (hw _ (List.mem_of_getElem? (i := 8) rfl)) (hw _ (List.mem_of_getElem? (i := 2) rfl)) (hw _ (List.mem_of_getElem? (i := 9) rfl)) (by decide) (backOfW (W := 0) (rm_name l Z a0 hw zc fm qF qP qI f (if (q &&& (32 : Int32)) = (0 : Int32) then (0 : Int32) else (1 : Int32)) h0 n0 (by omega) S_c hzc S_f hfm S_F S_P S_I A_I O0) hZ (hw _ (List.mem_of_getElem? (i := 9) rfl)) (hw _ (List.mem_of_getElem? (i := 2) rfl)) (by decide) (by decide) (own_EW hw) C0.1 all0) e148 (argsL := [(.int f), (.int (if (q &&& (32 : Int32)) = (0 : Int32) then (0 : Int32) else (1 : Int32)))]) (rest := []) rfl rfl pd_16 rfl (by rw [hml]; rfl) (hb hby at_69) (Nat.le_of_eq rfl) (by decide) (by decide) k148
    have k152 : To p.tables e below S0 (T152.setTop (mkF m 72 l146 [(.ref a152)])) := k152a
    have N152 := N145.app Nq152
    obtain ⟨h152, e152⟩ : ∃ z, T152.heap = z := ⟨_, rfl⟩
    rw [e152] at Kq152 S152 Cq152 hS152
    have z152 : h0.size ≤ h152.size := Kq152.1
    have C152 := C0.trans Cq152
    have y152 : @LT.lt Nat instLTNat a152 h152.size := S152.1.lt
    let l153 : Array Slot := #[.val (.int q), .val (.long a), .second, .val (.long b), .second, .val (.long d), .second, .val (.int f), .val (.int (2 : Int32)), .val (.ref (if (if (q &&& (4 : Int32)) = (0 : Int32) then (0 : Int32) else (1 : Int32)) = (0 : Int32) then qP else qF)), .val (.ref (if (if (q &&& (8 : Int32)) = (0 : Int32) then (0 : Int32) else (1 : Int32)) = (0 : Int32) then qP else qF)), .val (.ref (if (if (q &&& (16 : Int32)) = (0 : Int32) then (0 : Int32) else (1 : Int32)) = (0 : Int32) then qP else qF)), .val (.ref a152), .unset, .unset, .unset, .unset]
    have k154 : To p.tables e below S0 (T152.setTop (mkF m 83 l153 [(.int (q &&& (64 : Int32))), (.int ((f.toUInt32 >>> ((8 : Int32) &&& 31).toUInt32).toInt32))])) := fun tt hq => k152 tt (by
      show Steps _ _ _ (T152.setTop (mkF m 72 l146 [(.ref a152)])) _
      refine XS.astore X152.here hx rfl (hb hby at_72) rfl rfl (l' := l153) rfl ?_
      show Steps _ _ _ (T152.setTop (mkF m 74 l153 [])) _
      refine XS.iload X152.here hx rfl (hb hby at_74) rfl ?_
      show Steps _ _ _ (T152.setTop (mkF m 76 l153 [(.int f)])) _
      refine XS.bipush X152.here hx rfl (hb hby at_76) ?_
      show Steps _ _ _ (T152.setTop (mkF m 78 l153 [(.int (8 : Int32)), (.int f)])) _
      refine XS.iushr X152.here hx rfl (hb hby at_78) rfl ?_
      show Steps _ _ _ (T152.setTop (mkF m 79 l153 [(.int ((f.toUInt32 >>> ((8 : Int32) &&& 31).toUInt32).toInt32))])) _
      refine XS.iloadN X152.here hx rfl (hb hby at_79) rfl ?_
      show Steps _ _ _ (T152.setTop (mkF m 80 l153 [(.int q), (.int ((f.toUInt32 >>> ((8 : Int32) &&& 31).toUInt32).toInt32))])) _
      refine XS.bipush X152.here hx rfl (hb hby at_80) ?_
      show Steps _ _ _ (T152.setTop (mkF m 82 l153 [(.int (64 : Int32)), (.int q), (.int ((f.toUInt32 >>> ((8 : Int32) &&& 31).toUInt32).toInt32))])) _
      refine XS.iand X152.here hx rfl (hb hby at_82) rfl ?_
      show Steps _ _ _ (T152.setTop (mkF m 83 l153 [(.int (q &&& (64 : Int32))), (.int ((f.toUInt32 >>> ((8 : Int32) &&& 31).toUInt32).toInt32))])) _
      exact hq)
    refine joinT (S0 := S0) X152 e152 (mkF m 91 l153 [(.int (if (q &&& (64 : Int32)) = (0 : Int32) then (0 : Int32) else (1 : Int32))), (.int ((f.toUInt32 >>> ((8 : Int32) &&& 31).toUInt32).toInt32))]) (fun kont => ?_) (fun T155 X155 e155 k155 => ?_)
    · -- the roads to pc 91
      by_cases hc83_156 : (q &&& (64 : Int32)) = (0 : Int32)
      · -- pc 83, holds
        have k157 : To p.tables e below S0 (T152.setTop (mkF m 91 l153 [(.int (0 : Int32)), (.int ((f.toUInt32 >>> ((8 : Int32) &&& 31).toUInt32).toInt32))])) := fun tt hq => k154 tt (by
          show Steps _ _ _ (T152.setTop (mkF m 83 l153 [(.int (q &&& (64 : Int32))), (.int ((f.toUInt32 >>> ((8 : Int32) &&& 31).toUInt32).toInt32))])) _
          refine XS.ifYes X152.here hx rfl (pc0 := 83) (pc' := 90) rfl (hb hby at_83) rfl ((if0 _ _).trans (teq hc83_156).1) (by decide) (by decide) ?_
          show Steps _ _ _ (T152.setTop (mkF m 90 l153 [(.int ((f.toUInt32 >>> ((8 : Int32) &&& 31).toUInt32).toInt32))])) _
          refine XS.iconst X152.here hx rfl (hb hby at_90) ?_
          show Steps _ _ _ (T152.setTop (mkF m 91 l153 [(.int (0 : Int32)), (.int ((f.toUInt32 >>> ((8 : Int32) &&& 31).toUInt32).toInt32))])) _
          exact hq)
        exact kont T152 X152 e152 (fun tt hq => k157 tt (by simpa only [if_pos hc83_156, l153] using hq))
      · -- pc 83, holds not
        have k158 : To p.tables e below S0 (T152.setTop (mkF m 91 l153 [(.int (1 : Int32)), (.int ((f.toUInt32 >>> ((8 : Int32) &&& 31).toUInt32).toInt32))])) := fun tt hq => k154 tt (by
          show Steps _ _ _ (T152.setTop (mkF m 83 l153 [(.int (q &&& (64 : Int32))), (.int ((f.toUInt32 >>> ((8 : Int32) &&& 31).toUInt32).toInt32))])) _
          refine XS.ifNo X152.here hx rfl (hb hby at_83) rfl ((if0 _ _).trans (feq hc83_156).1) ?_
          show Steps _ _ _ (T152.setTop (mkF m 86 l153 [(.int ((f.toUInt32 >>> ((8 : Int32) &&& 31).toUInt32).toInt32))])) _
          refine XS.iconst X152.here hx rfl (hb hby at_86) ?_
          show Steps _ _ _ (T152.setTop (mkF m 87 l153 [(.int (1 : Int32)), (.int ((f.toUInt32 >>> ((8 : Int32) &&& 31).toUInt32).toInt32))])) _
          refine XS.goto X152.here hx rfl (pc0 := 87) (pc' := 91) rfl (hb hby at_87) (by decide) (by decide) ?_
          show Steps _ _ _ (T152.setTop (mkF m 91 l153 [(.int (1 : Int32)), (.int ((f.toUInt32 >>> ((8 : Int32) &&& 31).toUInt32).toInt32))])) _
          exact hq)
        exact kont T152 X152 e152 (fun tt hq => k158 tt (by simpa only [if_neg hc83_156, l153] using hq))
    have f159 : Old Z n0 h152 := (O0.keep Kq152 all0)
    obtain ⟨_, T160, L160, X160, ⟨a160, rfl, Nq160, ga160, Kq160, S160⟩, k160a, Cq160, hS160, hZ160, hown160⟩ := callSW X155 hx hZ152 (y := (⟨"com/example/huntaway/huntaway/PrecedenceIsEmptyPinLaw", "name", "(IZ)Ljava/lang/String;"⟩ : MethodName)) hown152 hS152 (by omega) (hw _ (List.mem_of_getElem? (i := 7) rfl)) (hw _ (List.mem_of_getElem? (i := 8) rfl)) (hw _ (List.mem_of_getElem? (i := 2) rfl)) (hw _ (List.mem_of_getElem? (i := 9) rfl)) (by decide) (backOfW (W := 0) (rm_name l Z a0 hw zc fm qF qP qI ((f.toUInt32 >>> ((8 : Int32) &&& 31).toUInt32).toInt32) (if (q &&& (64 : Int32)) = (0 : Int32) then (0 : Int32) else (1 : Int32)) h152 n0 (by omega) S_c hzc S_f hfm S_F S_P S_I A_I f159) hZ152 (hw _ (List.mem_of_getElem? (i := 9) rfl)) (hw _ (List.mem_of_getElem? (i := 2) rfl)) (by decide) (by decide) (own_EW hw) C152.1 all0) e155 (argsL := [(.int ((f.toUInt32 >>> ((8 : Int32) &&& 31).toUInt32).toInt32)), (.int (if (q &&& (64 : Int32)) = (0 : Int32) then (0 : Int32) else (1 : Int32)))]) (rest := []) rfl rfl pd_16 rfl (by rw [hml]; rfl) (hb hby at_91) (Nat.le_of_eq rfl) (by decide) (by decide) k155
    have k160 : To p.tables e below S0 (T160.setTop (mkF m 94 l153 [(.ref a160)])) := k160a
    have N160 := N152.app Nq160
    obtain ⟨h160, e160⟩ : ∃ z, T160.heap = z := ⟨_, rfl⟩
    rw [e160] at Kq160 S160 Cq160 hS160
    have z160 : h152.size ≤ h160.size := Kq160.1
    have C160 := C152.trans Cq160
    have y160 : @LT.lt Nat instLTNat a160 h160.size := S160.1.lt
    let l161 : Array Slot := #[.val (.int q), .val (.long a), .second, .val (.long b), .second, .val (.long d), .second, .val (.int f), .val (.int (2 : Int32)), .val (.ref (if (if (q &&& (4 : Int32)) = (0 : Int32) then (0 : Int32) else (1 : Int32)) = (0 : Int32) then qP else qF)), .val (.ref (if (if (q &&& (8 : Int32)) = (0 : Int32) then (0 : Int32) else (1 : Int32)) = (0 : Int32) then qP else qF)), .val (.ref (if (if (q &&& (16 : Int32)) = (0 : Int32) then (0 : Int32) else (1 : Int32)) = (0 : Int32) then qP else qF)), .val (.ref a152), .val (.ref a160), .unset, .unset, .unset]
    have k162 : To p.tables e below S0 (T160.setTop (mkF m 106 l161 [(.int (q &&& (128 : Int32))), (.int ((f.toUInt32 >>> ((16 : Int32) &&& 31).toUInt32).toInt32))])) := fun tt hq => k160 tt (by
      show Steps _ _ _ (T160.setTop (mkF m 94 l153 [(.ref a160)])) _
      refine XS.astore X160.here hx rfl (hb hby at_94) rfl rfl (l' := l161) rfl ?_
      show Steps _ _ _ (T160.setTop (mkF m 96 l161 [])) _
      refine XS.iload X160.here hx rfl (hb hby at_96) rfl ?_
      show Steps _ _ _ (T160.setTop (mkF m 98 l161 [(.int f)])) _
      refine XS.bipush X160.here hx rfl (hb hby at_98) ?_
      show Steps _ _ _ (T160.setTop (mkF m 100 l161 [(.int (16 : Int32)), (.int f)])) _
      refine XS.iushr X160.here hx rfl (hb hby at_100) rfl ?_
      show Steps _ _ _ (T160.setTop (mkF m 101 l161 [(.int ((f.toUInt32 >>> ((16 : Int32) &&& 31).toUInt32).toInt32))])) _
      refine XS.iloadN X160.here hx rfl (hb hby at_101) rfl ?_
      show Steps _ _ _ (T160.setTop (mkF m 102 l161 [(.int q), (.int ((f.toUInt32 >>> ((16 : Int32) &&& 31).toUInt32).toInt32))])) _
      refine XS.sipush X160.here hx rfl (hb hby at_102) ?_
      show Steps _ _ _ (T160.setTop (mkF m 105 l161 [(.int (128 : Int32)), (.int q), (.int ((f.toUInt32 >>> ((16 : Int32) &&& 31).toUInt32).toInt32))])) _
      refine XS.iand X160.here hx rfl (hb hby at_105) rfl ?_
      show Steps _ _ _ (T160.setTop (mkF m 106 l161 [(.int (q &&& (128 : Int32))), (.int ((f.toUInt32 >>> ((16 : Int32) &&& 31).toUInt32).toInt32))])) _
      exact hq)
    refine joinT (S0 := S0) X160 e160 (mkF m 114 l161 [(.int (if (q &&& (128 : Int32)) = (0 : Int32) then (0 : Int32) else (1 : Int32))), (.int ((f.toUInt32 >>> ((16 : Int32) &&& 31).toUInt32).toInt32))]) (fun kont => ?_) (fun T163 X163 e163 k163 => ?_)
    · -- the roads to pc 114
      by_cases hc106_164 : (q &&& (128 : Int32)) = (0 : Int32)
      · -- pc 106, holds
        have k165 : To p.tables e below S0 (T160.setTop (mkF m 114 l161 [(.int (0 : Int32)), (.int ((f.toUInt32 >>> ((16 : Int32) &&& 31).toUInt32).toInt32))])) := fun tt hq => k162 tt (by
          show Steps _ _ _ (T160.setTop (mkF m 106 l161 [(.int (q &&& (128 : Int32))), (.int ((f.toUInt32 >>> ((16 : Int32) &&& 31).toUInt32).toInt32))])) _
          refine XS.ifYes X160.here hx rfl (pc0 := 106) (pc' := 113) rfl (hb hby at_106) rfl ((if0 _ _).trans (teq hc106_164).1) (by decide) (by decide) ?_
          show Steps _ _ _ (T160.setTop (mkF m 113 l161 [(.int ((f.toUInt32 >>> ((16 : Int32) &&& 31).toUInt32).toInt32))])) _
          refine XS.iconst X160.here hx rfl (hb hby at_113) ?_
          show Steps _ _ _ (T160.setTop (mkF m 114 l161 [(.int (0 : Int32)), (.int ((f.toUInt32 >>> ((16 : Int32) &&& 31).toUInt32).toInt32))])) _
          exact hq)
        exact kont T160 X160 e160 (fun tt hq => k165 tt (by simpa only [if_pos hc106_164, l161] using hq))
      · -- pc 106, holds not
        have k166 : To p.tables e below S0 (T160.setTop (mkF m 114 l161 [(.int (1 : Int32)), (.int ((f.toUInt32 >>> ((16 : Int32) &&& 31).toUInt32).toInt32))])) := fun tt hq => k162 tt (by
          show Steps _ _ _ (T160.setTop (mkF m 106 l161 [(.int (q &&& (128 : Int32))), (.int ((f.toUInt32 >>> ((16 : Int32) &&& 31).toUInt32).toInt32))])) _
          refine XS.ifNo X160.here hx rfl (hb hby at_106) rfl ((if0 _ _).trans (feq hc106_164).1) ?_
          show Steps _ _ _ (T160.setTop (mkF m 109 l161 [(.int ((f.toUInt32 >>> ((16 : Int32) &&& 31).toUInt32).toInt32))])) _
          refine XS.iconst X160.here hx rfl (hb hby at_109) ?_
          show Steps _ _ _ (T160.setTop (mkF m 110 l161 [(.int (1 : Int32)), (.int ((f.toUInt32 >>> ((16 : Int32) &&& 31).toUInt32).toInt32))])) _
          refine XS.goto X160.here hx rfl (pc0 := 110) (pc' := 114) rfl (hb hby at_110) (by decide) (by decide) ?_
          show Steps _ _ _ (T160.setTop (mkF m 114 l161 [(.int (1 : Int32)), (.int ((f.toUInt32 >>> ((16 : Int32) &&& 31).toUInt32).toInt32))])) _
          exact hq)
        exact kont T160 X160 e160 (fun tt hq => k166 tt (by simpa only [if_neg hc106_164, l161] using hq))
    have f167 : Old Z n0 h160 := (f159.keep Kq160 all0)
    obtain ⟨_, T168, L168, X168, ⟨a168, rfl, Nq168, ga168, Kq168, S168⟩, k168a, Cq168, hS168, hZ168, hown168⟩ := callSW X163 hx hZ160 (y := (⟨"com/example/huntaway/huntaway/PrecedenceIsEmptyPinLaw", "name", "(IZ)Ljava/lang/String;"⟩ : MethodName)) hown160 hS160 (by omega) (hw _ (List.mem_of_getElem? (i := 7) rfl)) (hw _ (List.mem_of_getElem? (i := 8) rfl)) (hw _ (List.mem_of_getElem? (i := 2) rfl)) (hw _ (List.mem_of_getElem? (i := 9) rfl)) (by decide) (backOfW (W := 0) (rm_name l Z a0 hw zc fm qF qP qI ((f.toUInt32 >>> ((16 : Int32) &&& 31).toUInt32).toInt32) (if (q &&& (128 : Int32)) = (0 : Int32) then (0 : Int32) else (1 : Int32)) h160 n0 (by omega) S_c hzc S_f hfm S_F S_P S_I A_I f167) hZ160 (hw _ (List.mem_of_getElem? (i := 9) rfl)) (hw _ (List.mem_of_getElem? (i := 2) rfl)) (by decide) (by decide) (own_EW hw) C160.1 all0) e163 (argsL := [(.int ((f.toUInt32 >>> ((16 : Int32) &&& 31).toUInt32).toInt32)), (.int (if (q &&& (128 : Int32)) = (0 : Int32) then (0 : Int32) else (1 : Int32)))]) (rest := []) rfl rfl pd_16 rfl (by rw [hml]; rfl) (hb hby at_114) (Nat.le_of_eq rfl) (by decide) (by decide) k163
    have k168 : To p.tables e below S0 (T168.setTop (mkF m 117 l161 [(.ref a168)])) := k168a
    have N168 := N160.app Nq168
    obtain ⟨h168, e168⟩ : ∃ z, T168.heap = z := ⟨_, rfl⟩
    rw [e168] at Kq168 S168 Cq168 hS168
    have z168 : h160.size ≤ h168.size := Kq168.1
    have C168 := C160.trans Cq168
    have y168 : @LT.lt Nat instLTNat a168 h168.size := S168.1.lt
    let l169 : Array Slot := #[.val (.int q), .val (.long a), .second, .val (.long b), .second, .val (.long d), .second, .val (.int f), .val (.int (2 : Int32)), .val (.ref (if (if (q &&& (4 : Int32)) = (0 : Int32) then (0 : Int32) else (1 : Int32)) = (0 : Int32) then qP else qF)), .val (.ref (if (if (q &&& (8 : Int32)) = (0 : Int32) then (0 : Int32) else (1 : Int32)) = (0 : Int32) then qP else qF)), .val (.ref (if (if (q &&& (16 : Int32)) = (0 : Int32) then (0 : Int32) else (1 : Int32)) = (0 : Int32) then qP else qF)), .val (.ref a152), .val (.ref a160), .val (.ref a168), .unset, .unset]
    have k170 : To p.tables e below S0 (T168.setTop (mkF m 119 l169 [])) := fun tt hq => k168 tt (by
      show Steps _ _ _ (T168.setTop (mkF m 117 l161 [(.ref a168)])) _
      refine XS.astore X168.here hx rfl (hb hby at_117) rfl rfl (l' := l169) rfl ?_
      show Steps _ _ _ (T168.setTop (mkF m 119 l169 [])) _
      exact hq)
    obtain ⟨T171, h171, X171, e171, E171, A171, D171, -, st171⟩ := newO X168 hx hZ168 hown168 (hw _ (List.mem_of_getElem? (i := 36) rfl)) (hw _ (List.mem_of_getElem? (i := 37) rfl)) (hw _ (List.mem_of_getElem? (i := 38) rfl)) e168 (g := (mkF m 119 l169 [])) rfl (hb hby at_119) (by decide) (by decide)
    obtain ⟨b171, g171⟩ : ∃ z, z = h168.size := ⟨_, rfl⟩
    rw [← g171] at A171 D171 st171
    have k171 : To p.tables e below S0 (T171.setTop (mkF m 122 l169 [(.ref b171)])) := fun tt hq => k170 tt (st171 tt hq)
    have z171 : h168.size ≤ h171.size := E171.1
    have y171 : @LT.lt Nat instLTNat b171 h171.size := A171.lt
    have C171 := C168.trans (CHr.ext E171 C168.1)
    have F171_highest : Fld Z h171 b171 "com/example/huntaway/huntaway/Precedence" "highest" "J" (.long (0 : Int64)) := D171 (Or.inl (hw _ (List.mem_of_getElem? (i := 45) rfl))) (ty := .long) (by decide)
    have F171_permitting : Fld Z h171 b171 "com/example/huntaway/huntaway/Precedence" "permitting" "Ljava/lang/String;" .null := D171 (Or.inl (hw _ (List.mem_of_getElem? (i := 52) rfl))) (ty := (.object "java/lang/String")) (by decide)
    have F171_forbidding : Fld Z h171 b171 "com/example/huntaway/huntaway/Precedence" "forbidding" "Ljava/lang/String;" .null := D171 (Or.inl (hw _ (List.mem_of_getElem? (i := 54) rfl))) (ty := (.object "java/lang/String")) (by decide)
    have k172 : To p.tables e below S0 (T171.setTop (mkF m 123 l169 [(.ref b171), (.ref b171)])) := fun tt hq => k171 tt (by
      show Steps _ _ _ (T171.setTop (mkF m 122 l169 [(.ref b171)])) _
      refine XS.dup X171.here hx rfl (hb hby at_122) rfl rfl ?_
      show Steps _ _ _ (T171.setTop (mkF m 123 l169 [(.ref b171), (.ref b171)])) _
      exact hq)
    obtain ⟨_, T173, L173, X173, ⟨rfl, Nq173, Kq173, P1730, P1731, P1732, P1733⟩, k173a⟩ := callC' X171 hx hZ168 (y := (⟨"com/example/huntaway/huntaway/Precedence", "<init>", "()V"⟩ : MethodName)) rfl hown168 (hw _ (List.mem_of_getElem? (i := 39) rfl)) (hw _ (List.mem_of_getElem? (i := 40) rfl)) (hw _ (List.mem_of_getElem? (i := 41) rfl)) (by decide) (backC (W := 1) (rm_pinit l Z a0 hw b171 h171 n0 (by omega) A171 F171_highest F171_permitting F171_forbidding (by omega)) hZ168 (hw _ (List.mem_of_getElem? (i := 41) rfl)) (hw _ (List.mem_of_getElem? (i := 38) rfl)) (by decide) (by decide)) e171 (argsL := []) (rest := [(.ref b171)]) rfl rfl pd_17 rfl (by rw [hml]; rfl) (hb hby at_123) (Nat.le_of_eq rfl) (by decide) (by decide) k172
    have k173 : To p.tables e below S0 (T173.setTop (mkF m 126 l169 [(.ref b171)])) := k173a
    have N173 := N168.app Nq173
    obtain ⟨h173, e173⟩ : ∃ z, T173.heap = z := ⟨_, rfl⟩
    rw [e173] at Kq173 P1730 P1731 P1732 P1733
    have z173 : h171.size ≤ h173.size := Kq173.1
    have C173 := C171.trans (CHr.keep Kq173 (sfS (Safe.exa hZ168.alike A171 (by decide) (by decide)) sf0) C171.1)
    let l174 : Array Slot := #[.val (.int q), .val (.long a), .second, .val (.long b), .second, .val (.long d), .second, .val (.int f), .val (.int (2 : Int32)), .val (.ref (if (if (q &&& (4 : Int32)) = (0 : Int32) then (0 : Int32) else (1 : Int32)) = (0 : Int32) then qP else qF)), .val (.ref (if (if (q &&& (8 : Int32)) = (0 : Int32) then (0 : Int32) else (1 : Int32)) = (0 : Int32) then qP else qF)), .val (.ref (if (if (q &&& (16 : Int32)) = (0 : Int32) then (0 : Int32) else (1 : Int32)) = (0 : Int32) then qP else qF)), .val (.ref a152), .val (.ref a160), .val (.ref a168), .val (.ref b171), .unset]
    have k175 : To p.tables e below S0 (T173.setTop (mkF m 130 l174 [(.ref b171)])) := fun tt hq => k173 tt (by
      show Steps _ _ _ (T173.setTop (mkF m 126 l169 [(.ref b171)])) _
      refine XS.astore X173.here hx rfl (hb hby at_126) rfl rfl (l' := l174) rfl ?_
      show Steps _ _ _ (T173.setTop (mkF m 128 l174 [])) _
      refine XS.aload X173.here hx rfl (hb hby at_128) rfl rfl ?_
      show Steps _ _ _ (T173.setTop (mkF m 130 l174 [(.ref b171)])) _
      exact hq)
    obtain ⟨_, T176, L176, X176, ⟨rfl, Nq176, eq176⟩, k176a⟩ := callV' X173 hx hZ168 (y := (⟨"com/example/huntaway/huntaway/Precedence", "isEmpty", "()Z"⟩ : MethodName)) (z := (⟨"com/example/huntaway/huntaway/Precedence", "isEmpty", "()Z"⟩ : MethodName)) hown168 (hw _ (List.mem_of_getElem? (i := 46) rfl)) (hw _ (List.mem_of_getElem? (i := 47) rfl)) (notFace_of_selects (args := #[]) (mvT hZ168 (hw _ (List.mem_of_getElem? (i := 49) rfl)))) (hw _ (List.mem_of_getElem? (i := 49) rfl)) (hw _ (List.mem_of_getElem? (i := 48) rfl)) (by decide) P1730 (backC (W := 0) (rm_emNN l Z a0 hw b171 h173 n0 (by omega) P1732 P1733) hZ168 (hw _ (List.mem_of_getElem? (i := 50) rfl)) (hw _ (List.mem_of_getElem? (i := 38) rfl)) (by decide) (by decide)) e173 (argsL := []) (rest := []) rfl rfl pd_6 rfl (by rw [hml]; rfl) (hb hby at_130) (Nat.le_of_eq rfl) (by decide) (by decide) k175
    have k176 : To p.tables e below S0 (T176.setTop (mkF m 133 l174 [(.int (1 : Int32))])) := k176a
    have N176 := N173.app Nq176
    have e176 : T176.heap = h173 := eq176
    let l177 : Array Slot := #[.val (.int q), .val (.long a), .second, .val (.long b), .second, .val (.long d), .second, .val (.int f), .val (.int (2 : Int32)), .val (.ref (if (if (q &&& (4 : Int32)) = (0 : Int32) then (0 : Int32) else (1 : Int32)) = (0 : Int32) then qP else qF)), .val (.ref (if (if (q &&& (8 : Int32)) = (0 : Int32) then (0 : Int32) else (1 : Int32)) = (0 : Int32) then qP else qF)), .val (.ref (if (if (q &&& (16 : Int32)) = (0 : Int32) then (0 : Int32) else (1 : Int32)) = (0 : Int32) then qP else qF)), .val (.ref a152), .val (.ref a160), .val (.ref a168), .val (.ref b171), .val (.int (1 : Int32))]
    have k178 : To p.tables e below S0 (T176.setTop (mkF m 148 l177 [(.ref a152), (.long a), (.ref (if (if (q &&& (4 : Int32)) = (0 : Int32) then (0 : Int32) else (1 : Int32)) = (0 : Int32) then qP else qF)), (.ref b171)])) := fun tt hq => k176 tt (by
      show Steps _ _ _ (T176.setTop (mkF m 133 l174 [(.int (1 : Int32))])) _
      refine XS.istore X176.here hx rfl (hb hby at_133) rfl (l' := l177) rfl ?_
      show Steps _ _ _ (T176.setTop (mkF m 135 l177 [])) _
      refine XS.iload X176.here hx rfl (hb hby at_135) rfl ?_
      show Steps _ _ _ (T176.setTop (mkF m 137 l177 [(.int (2 : Int32))])) _
      refine XS.iconst X176.here hx rfl (hb hby at_137) ?_
      show Steps _ _ _ (T176.setTop (mkF m 138 l177 [(.int (1 : Int32)), (.int (2 : Int32))])) _
      refine XS.icmpNo X176.here hx rfl (hb hby at_138) rfl (flt (by decide)).1 ?_
      show Steps _ _ _ (T176.setTop (mkF m 141 l177 [])) _
      refine XS.aload X176.here hx rfl (hb hby at_141) rfl rfl ?_
      show Steps _ _ _ (T176.setTop (mkF m 143 l177 [(.ref b171)])) _
      refine XS.aload X176.here hx rfl (hb hby at_143) rfl rfl ?_
      show Steps _ _ _ (T176.setTop (mkF m 145 l177 [(.ref (if (if (q &&& (4 : Int32)) = (0 : Int32) then (0 : Int32) else (1 : Int32)) = (0 : Int32) then qP else qF)), (.ref b171)])) _
      refine XS.lloadN X176.here hx rfl (hb hby at_145) rfl ?_
      show Steps _ _ _ (T176.setTop (mkF m 146 l177 [(.long a), (.ref (if (if (q &&& (4 : Int32)) = (0 : Int32) then (0 : Int32) else (1 : Int32)) = (0 : Int32) then qP else qF)), (.ref b171)])) _
      refine XS.aload X176.here hx rfl (hb hby at_146) rfl rfl ?_
      show Steps _ _ _ (T176.setTop (mkF m 148 l177 [(.ref a152), (.long a), (.ref (if (if (q &&& (4 : Int32)) = (0 : Int32) then (0 : Int32) else (1 : Int32)) = (0 : Int32) then qP else qF)), (.ref b171)])) _
      exact hq)
    have f179 : Old Z n0 h173 := (((f167.keep Kq168 all0).ext E171).keep Kq173 (allS (by omega) all0))
    have f180 : Sm Z h173 a152 := (smKeepP (smExt (smKeep0 (smKeep0 S152 Kq160) Kq168) E171) Kq173 A171 (hw _ (List.mem_of_getElem? (i := 37) rfl)))
    obtain ⟨_, T181, L181, X181, ⟨rfl, Nq181, Kq181, A181, hj181, u181, v181x, Fh181, Fp181, Ff181, ok1_181, ok2_181, nn181⟩, k181a⟩ := callV' X176 hx hZ168 (y := (⟨"com/example/huntaway/huntaway/Precedence", "offer", "(Lcom/example/huntaway/huntaway/Effect;JLjava/lang/String;)V"⟩ : MethodName)) (z := (⟨"com/example/huntaway/huntaway/Precedence", "offer", "(Lcom/example/huntaway/huntaway/Effect;JLjava/lang/String;)V"⟩ : MethodName)) hown168 (hw _ (List.mem_of_getElem? (i := 57) rfl)) (hw _ (List.mem_of_getElem? (i := 58) rfl)) (notFace_of_selects (args := #[]) (mvT hZ168 (hw _ (List.mem_of_getElem? (i := 60) rfl)))) (hw _ (List.mem_of_getElem? (i := 60) rfl)) (hw _ (List.mem_of_getElem? (i := 59) rfl)) (by decide) P1730 (backC (W := 0) (rm_off l Z a0 hw zc fm qF qP qI b171 (if (if (q &&& (4 : Int32)) = (0 : Int32) then (0 : Int32) else (1 : Int32)) = (0 : Int32) then qP else qF) a (-9223372036854775808 : Int64) a152 .null .null h173 n0 (by omega) S_c hzc S_f hfm S_F S_P S_I A_I f179 P1730 P1731 P1732 P1733 f180 (Or.inl rfl) (Or.inl rfl) (by omega) (Or.inr rfl)) hZ168 (hw _ (List.mem_of_getElem? (i := 61) rfl)) (hw _ (List.mem_of_getElem? (i := 38) rfl)) (by decide) (by decide)) e176 (argsL := [(.ref (if (if (q &&& (4 : Int32)) = (0 : Int32) then (0 : Int32) else (1 : Int32)) = (0 : Int32) then qP else qF)), (.long a), (.ref a152)]) (rest := []) rfl rfl pd_18 rfl (by rw [hml]; rfl) (hb hby at_148) (Nat.le_of_eq rfl) (by decide) (by decide) k178
    have k181 : To p.tables e below S0 (T181.setTop (mkF m 151 l177 [])) := k181a
    have N181 := N176.app Nq181
    obtain ⟨h181, e181⟩ : ∃ z, T181.heap = z := ⟨_, rfl⟩
    rw [e181] at Kq181 A181 Fh181 Fp181 Ff181 ok1_181 ok2_181
    have z181 : h173.size ≤ h181.size := Kq181.1
    have C181 := C173.trans (CHr.keep Kq181 (sfS (Safe.exa hZ168.alike P1730 (by decide) (by decide)) sf0) C173.1)
    have k182 : To p.tables e below S0 (T181.setTop (mkF m 158 l177 [(.ref b171)])) := fun tt hq => k181 tt (by
      show Steps _ _ _ (T181.setTop (mkF m 151 l177 [])) _
      refine XS.iload X181.here hx rfl (hb hby at_151) rfl ?_
      show Steps _ _ _ (T181.setTop (mkF m 153 l177 [(.int (1 : Int32))])) _
      refine XS.ifNo X181.here hx rfl (hb hby at_153) rfl ((if0 _ _).trans (feq (by decide)).1) ?_
      show Steps _ _ _ (T181.setTop (mkF m 156 l177 [])) _
      refine XS.aload X181.here hx rfl (hb hby at_156) rfl rfl ?_
      show Steps _ _ _ (T181.setTop (mkF m 158 l177 [(.ref b171)])) _
      exact hq)
    obtain ⟨_, T183, L183, X183, ⟨rfl, Nq183, eq183⟩, k183a⟩ := callV' X181 hx hZ168 (y := (⟨"com/example/huntaway/huntaway/Precedence", "isEmpty", "()Z"⟩ : MethodName)) (z := (⟨"com/example/huntaway/huntaway/Precedence", "isEmpty", "()Z"⟩ : MethodName)) hown168 (hw _ (List.mem_of_getElem? (i := 46) rfl)) (hw _ (List.mem_of_getElem? (i := 47) rfl)) (notFace_of_selects (args := #[]) (mvT hZ168 (hw _ (List.mem_of_getElem? (i := 49) rfl)))) (hw _ (List.mem_of_getElem? (i := 49) rfl)) (hw _ (List.mem_of_getElem? (i := 48) rfl)) (by decide) A181 (backC (W := 0) (rm_em l Z a0 hw b171 u181 v181x h181 n0 (by omega) Fp181 Ff181 (okRef ok1_181) (okRef ok2_181) nn181) hZ168 (hw _ (List.mem_of_getElem? (i := 50) rfl)) (hw _ (List.mem_of_getElem? (i := 38) rfl)) (by decide) (by decide)) e181 (argsL := []) (rest := []) rfl rfl pd_6 rfl (by rw [hml]; rfl) (hb hby at_158) (Nat.le_of_eq rfl) (by decide) (by decide) k182
    have k183 : To p.tables e below S0 (T183.setTop (mkF m 161 l177 [(.int (0 : Int32))])) := k183a
    have N183 := N181.app Nq183
    have e183 : T183.heap = h181 := eq183
    have k184 : To p.tables e below S0 (T183.setTop (mkF m 184 l177 [(.ref a160), (.long b), (.ref (if (if (q &&& (8 : Int32)) = (0 : Int32) then (0 : Int32) else (1 : Int32)) = (0 : Int32) then qP else qF)), (.ref b171)])) := fun tt hq => k183 tt (by
      show Steps _ _ _ (T183.setTop (mkF m 161 l177 [(.int (0 : Int32))])) _
      refine XS.ifNo X183.here hx rfl (hb hby at_161) rfl ((if0 _ _).trans (teq (by decide)).2) ?_
      show Steps _ _ _ (T183.setTop (mkF m 164 l177 [])) _
      refine XS.iconst X183.here hx rfl (hb hby at_164) ?_
      show Steps _ _ _ (T183.setTop (mkF m 165 l177 [(.int (1 : Int32))])) _
      refine XS.goto X183.here hx rfl (pc0 := 165) (pc' := 169) rfl (hb hby at_165) (by decide) (by decide) ?_
      show Steps _ _ _ (T183.setTop (mkF m 169 l177 [(.int (1 : Int32))])) _
      refine XS.istore X183.here hx rfl (hb hby at_169) rfl (l' := l177) rfl ?_
      show Steps _ _ _ (T183.setTop (mkF m 171 l177 [])) _
      refine XS.iload X183.here hx rfl (hb hby at_171) rfl ?_
      show Steps _ _ _ (T183.setTop (mkF m 173 l177 [(.int (2 : Int32))])) _
      refine XS.iconst X183.here hx rfl (hb hby at_173) ?_
      show Steps _ _ _ (T183.setTop (mkF m 174 l177 [(.int (2 : Int32)), (.int (2 : Int32))])) _
      refine XS.icmpNo X183.here hx rfl (hb hby at_174) rfl (flt (by decide)).1 ?_
      show Steps _ _ _ (T183.setTop (mkF m 177 l177 [])) _
      refine XS.aload X183.here hx rfl (hb hby at_177) rfl rfl ?_
      show Steps _ _ _ (T183.setTop (mkF m 179 l177 [(.ref b171)])) _
      refine XS.aload X183.here hx rfl (hb hby at_179) rfl rfl ?_
      show Steps _ _ _ (T183.setTop (mkF m 181 l177 [(.ref (if (if (q &&& (8 : Int32)) = (0 : Int32) then (0 : Int32) else (1 : Int32)) = (0 : Int32) then qP else qF)), (.ref b171)])) _
      refine XS.lloadN X183.here hx rfl (hb hby at_181) rfl ?_
      show Steps _ _ _ (T183.setTop (mkF m 182 l177 [(.long b), (.ref (if (if (q &&& (8 : Int32)) = (0 : Int32) then (0 : Int32) else (1 : Int32)) = (0 : Int32) then qP else qF)), (.ref b171)])) _
      refine XS.aload X183.here hx rfl (hb hby at_182) rfl rfl ?_
      show Steps _ _ _ (T183.setTop (mkF m 184 l177 [(.ref a160), (.long b), (.ref (if (if (q &&& (8 : Int32)) = (0 : Int32) then (0 : Int32) else (1 : Int32)) = (0 : Int32) then qP else qF)), (.ref b171)])) _
      exact hq)
    have f185 : Old Z n0 h181 := (f179.keep Kq181 (allS (by omega) all0))
    have f186 : Sm Z h181 a160 := (smKeepP (smKeepP (smExt (smKeep0 S160 Kq168) E171) Kq173 A171 (hw _ (List.mem_of_getElem? (i := 37) rfl))) Kq181 P1730 (hw _ (List.mem_of_getElem? (i := 37) rfl)))
    obtain ⟨_, T187, L187, X187, ⟨rfl, Nq187, Kq187, A187, hj187, u187, v187x, Fh187, Fp187, Ff187, ok1_187, ok2_187, nn187⟩, k187a⟩ := callV' X183 hx hZ168 (y := (⟨"com/example/huntaway/huntaway/Precedence", "offer", "(Lcom/example/huntaway/huntaway/Effect;JLjava/lang/String;)V"⟩ : MethodName)) (z := (⟨"com/example/huntaway/huntaway/Precedence", "offer", "(Lcom/example/huntaway/huntaway/Effect;JLjava/lang/String;)V"⟩ : MethodName)) hown168 (hw _ (List.mem_of_getElem? (i := 57) rfl)) (hw _ (List.mem_of_getElem? (i := 58) rfl)) (notFace_of_selects (args := #[]) (mvT hZ168 (hw _ (List.mem_of_getElem? (i := 60) rfl)))) (hw _ (List.mem_of_getElem? (i := 60) rfl)) (hw _ (List.mem_of_getElem? (i := 59) rfl)) (by decide) A181 (backC (W := 0) (rm_off l Z a0 hw zc fm qF qP qI b171 (if (if (q &&& (8 : Int32)) = (0 : Int32) then (0 : Int32) else (1 : Int32)) = (0 : Int32) then qP else qF) b hj181 a160 u181 v181x h181 n0 (by omega) S_c hzc S_f hfm S_F S_P S_I A_I f185 A181 Fh181 Fp181 Ff181 f186 ok1_181 ok2_181 (by omega) (Or.inl nn181)) hZ168 (hw _ (List.mem_of_getElem? (i := 61) rfl)) (hw _ (List.mem_of_getElem? (i := 38) rfl)) (by decide) (by decide)) e183 (argsL := [(.ref (if (if (q &&& (8 : Int32)) = (0 : Int32) then (0 : Int32) else (1 : Int32)) = (0 : Int32) then qP else qF)), (.long b), (.ref a160)]) (rest := []) rfl rfl pd_18 rfl (by rw [hml]; rfl) (hb hby at_184) (Nat.le_of_eq rfl) (by decide) (by decide) k184
    have k187 : To p.tables e below S0 (T187.setTop (mkF m 187 l177 [])) := k187a
    have N187 := N183.app Nq187
    obtain ⟨h187, e187⟩ : ∃ z, T187.heap = z := ⟨_, rfl⟩
    rw [e187] at Kq187 A187 Fh187 Fp187 Ff187 ok1_187 ok2_187
    have z187 : h181.size ≤ h187.size := Kq187.1
    have C187 := C181.trans (CHr.keep Kq187 (sfS (Safe.exa hZ168.alike A181 (by decide) (by decide)) sf0) C181.1)
    have k188 : To p.tables e below S0 (T187.setTop (mkF m 194 l177 [(.ref b171)])) := fun tt hq => k187 tt (by
      show Steps _ _ _ (T187.setTop (mkF m 187 l177 [])) _
      refine XS.iload X187.here hx rfl (hb hby at_187) rfl ?_
      show Steps _ _ _ (T187.setTop (mkF m 189 l177 [(.int (1 : Int32))])) _
      refine XS.ifNo X187.here hx rfl (hb hby at_189) rfl ((if0 _ _).trans (feq (by decide)).1) ?_
      show Steps _ _ _ (T187.setTop (mkF m 192 l177 [])) _
      refine XS.aload X187.here hx rfl (hb hby at_192) rfl rfl ?_
      show Steps _ _ _ (T187.setTop (mkF m 194 l177 [(.ref b171)])) _
      exact hq)
    obtain ⟨_, T189, L189, X189, ⟨rfl, Nq189, eq189⟩, k189a⟩ := callV' X187 hx hZ168 (y := (⟨"com/example/huntaway/huntaway/Precedence", "isEmpty", "()Z"⟩ : MethodName)) (z := (⟨"com/example/huntaway/huntaway/Precedence", "isEmpty", "()Z"⟩ : MethodName)) hown168 (hw _ (List.mem_of_getElem? (i := 46) rfl)) (hw _ (List.mem_of_getElem? (i := 47) rfl)) (notFace_of_selects (args := #[]) (mvT hZ168 (hw _ (List.mem_of_getElem? (i := 49) rfl)))) (hw _ (List.mem_of_getElem? (i := 49) rfl)) (hw _ (List.mem_of_getElem? (i := 48) rfl)) (by decide) A187 (backC (W := 0) (rm_em l Z a0 hw b171 u187 v187x h187 n0 (by omega) Fp187 Ff187 (okRef ok1_187) (okRef ok2_187) nn187) hZ168 (hw _ (List.mem_of_getElem? (i := 50) rfl)) (hw _ (List.mem_of_getElem? (i := 38) rfl)) (by decide) (by decide)) e187 (argsL := []) (rest := []) rfl rfl pd_6 rfl (by rw [hml]; rfl) (hb hby at_194) (Nat.le_of_eq rfl) (by decide) (by decide) k188
    have k189 : To p.tables e below S0 (T189.setTop (mkF m 197 l177 [(.int (0 : Int32))])) := k189a
    have N189 := N187.app Nq189
    have e189 : T189.heap = h187 := eq189
    have k190 : To p.tables e below S0 (T189.setTop (mkF m 251 l177 [(.ref b171)])) := fun tt hq => k189 tt (by
      show Steps _ _ _ (T189.setTop (mkF m 197 l177 [(.int (0 : Int32))])) _
      refine XS.ifNo X189.here hx rfl (hb hby at_197) rfl ((if0 _ _).trans (teq (by decide)).2) ?_
      show Steps _ _ _ (T189.setTop (mkF m 200 l177 [])) _
      refine XS.iconst X189.here hx rfl (hb hby at_200) ?_
      show Steps _ _ _ (T189.setTop (mkF m 201 l177 [(.int (1 : Int32))])) _
      refine XS.goto X189.here hx rfl (pc0 := 201) (pc' := 205) rfl (hb hby at_201) (by decide) (by decide) ?_
      show Steps _ _ _ (T189.setTop (mkF m 205 l177 [(.int (1 : Int32))])) _
      refine XS.istore X189.here hx rfl (hb hby at_205) rfl (l' := l177) rfl ?_
      show Steps _ _ _ (T189.setTop (mkF m 207 l177 [])) _
      refine XS.iload X189.here hx rfl (hb hby at_207) rfl ?_
      show Steps _ _ _ (T189.setTop (mkF m 209 l177 [(.int (2 : Int32))])) _
      refine XS.iconst X189.here hx rfl (hb hby at_209) ?_
      show Steps _ _ _ (T189.setTop (mkF m 210 l177 [(.int (3 : Int32)), (.int (2 : Int32))])) _
      refine XS.icmpYes X189.here hx rfl (pc0 := 210) (pc' := 244) rfl (hb hby at_210) rfl (tlt (by decide)).1 (by decide) (by decide) ?_
      show Steps _ _ _ (T189.setTop (mkF m 244 l177 [])) _
      refine XS.iload X189.here hx rfl (hb hby at_244) rfl ?_
      show Steps _ _ _ (T189.setTop (mkF m 246 l177 [(.int (1 : Int32))])) _
      refine XS.ifNo X189.here hx rfl (hb hby at_246) rfl ((if0 _ _).trans (feq (by decide)).1) ?_
      show Steps _ _ _ (T189.setTop (mkF m 249 l177 [])) _
      refine XS.aload X189.here hx rfl (hb hby at_249) rfl rfl ?_
      show Steps _ _ _ (T189.setTop (mkF m 251 l177 [(.ref b171)])) _
      exact hq)
    obtain ⟨_, T191, L191, X191, ⟨rfl, Nq191, eq191⟩, k191a⟩ := callV' X189 hx hZ168 (y := (⟨"com/example/huntaway/huntaway/Precedence", "isEmpty", "()Z"⟩ : MethodName)) (z := (⟨"com/example/huntaway/huntaway/Precedence", "isEmpty", "()Z"⟩ : MethodName)) hown168 (hw _ (List.mem_of_getElem? (i := 46) rfl)) (hw _ (List.mem_of_getElem? (i := 47) rfl)) (notFace_of_selects (args := #[]) (mvT hZ168 (hw _ (List.mem_of_getElem? (i := 49) rfl)))) (hw _ (List.mem_of_getElem? (i := 49) rfl)) (hw _ (List.mem_of_getElem? (i := 48) rfl)) (by decide) A187 (backC (W := 0) (rm_em l Z a0 hw b171 u187 v187x h187 n0 (by omega) Fp187 Ff187 (okRef ok1_187) (okRef ok2_187) nn187) hZ168 (hw _ (List.mem_of_getElem? (i := 50) rfl)) (hw _ (List.mem_of_getElem? (i := 38) rfl)) (by decide) (by decide)) e189 (argsL := []) (rest := []) rfl rfl pd_6 rfl (by rw [hml]; rfl) (hb hby at_251) (Nat.le_of_eq rfl) (by decide) (by decide) k190
    have k191 : To p.tables e below S0 (T191.setTop (mkF m 254 l177 [(.int (0 : Int32))])) := k191a
    have N191 := N189.app Nq191
    have e191 : T191.heap = h187 := eq191
    have k192 : To p.tables e below S0 (T191.setTop (mkF m 276 l177 [(.int (1 : Int32))])) := fun tt hq => k191 tt (by
      show Steps _ _ _ (T191.setTop (mkF m 254 l177 [(.int (0 : Int32))])) _
      refine XS.iload X191.here hx rfl (hb hby at_254) rfl ?_
      show Steps _ _ _ (T191.setTop (mkF m 256 l177 [(.int (2 : Int32)), (.int (0 : Int32))])) _
      refine XS.ifYes X191.here hx rfl (pc0 := 256) (pc' := 263) rfl (hb hby at_256) rfl ((if0 _ _).trans (feq (by decide)).2) (by decide) (by decide) ?_
      show Steps _ _ _ (T191.setTop (mkF m 263 l177 [(.int (0 : Int32))])) _
      refine XS.iconst X191.here hx rfl (hb hby at_263) ?_
      show Steps _ _ _ (T191.setTop (mkF m 264 l177 [(.int (0 : Int32)), (.int (0 : Int32))])) _
      refine XS.icmpNo X191.here hx rfl (hb hby at_264) rfl (teq (by decide)).2 ?_
      show Steps _ _ _ (T191.setTop (mkF m 267 l177 [])) _
      refine XS.iconst X191.here hx rfl (hb hby at_267) ?_
      show Steps _ _ _ (T191.setTop (mkF m 268 l177 [(.int (1 : Int32))])) _
      refine XS.goto X191.here hx rfl (pc0 := 268) (pc' := 272) rfl (hb hby at_268) (by decide) (by decide) ?_
      show Steps _ _ _ (T191.setTop (mkF m 272 l177 [(.int (1 : Int32))])) _
      refine XS.istore X191.here hx rfl (hb hby at_272) rfl (l' := l177) rfl ?_
      show Steps _ _ _ (T191.setTop (mkF m 274 l177 [])) _
      refine XS.iload X191.here hx rfl (hb hby at_274) rfl ?_
      show Steps _ _ _ (T191.setTop (mkF m 276 l177 [(.int (1 : Int32))])) _
      exact hq)
    refine retIntW X191 hx hZ168 (own_EW hw) hS168 (by omega) C187 e191 hret hlk (by simp) rfl (hb hby at_276) k192 ?_ (by decide) (by decide)
    exact ⟨rfl, N191⟩
  · -- pc 3: (3 : Int32)
    have k193 : To p.tables e below S0 (s₁.setTop (mkF m 3 l1 [(.int (3 : Int32))])) := by have hq := k2; rw [ht3] at hq; exact hq
    let l194 : Array Slot := #[.val (.int q), .val (.long a), .second, .val (.long b), .second, .val (.long d), .second, .val (.int f), .val (.int (3 : Int32)), .unset, .unset, .unset, .unset, .unset, .unset, .unset, .unset]
    have k195 : To p.tables e below S0 (s₁.setTop (mkF m 8 l194 [(.int (q &&& (4 : Int32)))])) := fun tt hq => k193 tt (by
      show Steps _ _ _ (s₁.setTop (mkF m 3 l1 [(.int (3 : Int32))])) _
      refine XS.istore X0.here hx rfl (hb hby at_3) rfl (l' := l194) rfl ?_
      show Steps _ _ _ (s₁.setTop (mkF m 5 l194 [])) _
      refine XS.iloadN X0.here hx rfl (hb hby at_5) rfl ?_
      show Steps _ _ _ (s₁.setTop (mkF m 6 l194 [(.int q)])) _
      refine XS.iconst X0.here hx rfl (hb hby at_6) ?_
      show Steps _ _ _ (s₁.setTop (mkF m 7 l194 [(.int (4 : Int32)), (.int q)])) _
      refine XS.iand X0.here hx rfl (hb hby at_7) rfl ?_
      show Steps _ _ _ (s₁.setTop (mkF m 8 l194 [(.int (q &&& (4 : Int32)))])) _
      exact hq)
    refine joinT (S0 := S0) X0 e0 (mkF m 16 l194 [(.int (if (q &&& (4 : Int32)) = (0 : Int32) then (0 : Int32) else (1 : Int32)))]) (fun kont => ?_) (fun T196 X196 e196 k196 => ?_)
    · -- the roads to pc 16
      by_cases hc8_197 : (q &&& (4 : Int32)) = (0 : Int32)
      · -- pc 8, holds
        have k198 : To p.tables e below S0 (s₁.setTop (mkF m 16 l194 [(.int (0 : Int32))])) := fun tt hq => k195 tt (by
          show Steps _ _ _ (s₁.setTop (mkF m 8 l194 [(.int (q &&& (4 : Int32)))])) _
          refine XS.ifYes X0.here hx rfl (pc0 := 8) (pc' := 15) rfl (hb hby at_8) rfl ((if0 _ _).trans (teq hc8_197).1) (by decide) (by decide) ?_
          show Steps _ _ _ (s₁.setTop (mkF m 15 l194 [])) _
          refine XS.iconst X0.here hx rfl (hb hby at_15) ?_
          show Steps _ _ _ (s₁.setTop (mkF m 16 l194 [(.int (0 : Int32))])) _
          exact hq)
        exact kont s₁ X0 e0 (fun tt hq => k198 tt (by simpa only [if_pos hc8_197, l194] using hq))
      · -- pc 8, holds not
        have k199 : To p.tables e below S0 (s₁.setTop (mkF m 16 l194 [(.int (1 : Int32))])) := fun tt hq => k195 tt (by
          show Steps _ _ _ (s₁.setTop (mkF m 8 l194 [(.int (q &&& (4 : Int32)))])) _
          refine XS.ifNo X0.here hx rfl (hb hby at_8) rfl ((if0 _ _).trans (feq hc8_197).1) ?_
          show Steps _ _ _ (s₁.setTop (mkF m 11 l194 [])) _
          refine XS.iconst X0.here hx rfl (hb hby at_11) ?_
          show Steps _ _ _ (s₁.setTop (mkF m 12 l194 [(.int (1 : Int32))])) _
          refine XS.goto X0.here hx rfl (pc0 := 12) (pc' := 16) rfl (hb hby at_12) (by decide) (by decide) ?_
          show Steps _ _ _ (s₁.setTop (mkF m 16 l194 [(.int (1 : Int32))])) _
          exact hq)
        exact kont s₁ X0 e0 (fun tt hq => k199 tt (by simpa only [if_neg hc8_197, l194] using hq))
    obtain ⟨_, T200, L200, X200, ⟨rfl, Nq200, eq200⟩, k200a⟩ := callS' X196 hx hZ (y := (⟨"com/example/huntaway/huntaway/PrecedenceIsEmptyPinLaw", "effect", "(Z)Lcom/example/huntaway/huntaway/Effect;"⟩ : MethodName)) hown (hw _ (List.mem_of_getElem? (i := 0) rfl)) (hw _ (List.mem_of_getElem? (i := 1) rfl)) (hw _ (List.mem_of_getElem? (i := 2) rfl)) (hw _ (List.mem_of_getElem? (i := 3) rfl)) (by decide) (backC (W := 0) (rm_eff l Z a0 hw zc fm qF qP qI (if (q &&& (4 : Int32)) = (0 : Int32) then (0 : Int32) else (1 : Int32)) h0 n0 (by omega) S_c hzc S_f hfm S_F S_P S_I A_I O0) hZ (hw _ (List.mem_of_getElem? (i := 3) rfl)) (hw _ (List.mem_of_getElem? (i := 2) rfl)) (by decide) (by decide)) e196 (argsL := [(.int (if (q &&& (4 : Int32)) = (0 : Int32) then (0 : Int32) else (1 : Int32)))]) (rest := []) rfl rfl pd_15 rfl (by rw [hml]; rfl) (hb hby at_16) (Nat.le_of_eq rfl) (by decide) (by decide) k196
    have k200 : To p.tables e below S0 (T200.setTop (mkF m 19 l194 [(.ref (if (if (q &&& (4 : Int32)) = (0 : Int32) then (0 : Int32) else (1 : Int32)) = (0 : Int32) then qP else qF))])) := k200a
    have N200 := N0.app Nq200
    have e200 : T200.heap = h0 := eq200
    let l201 : Array Slot := #[.val (.int q), .val (.long a), .second, .val (.long b), .second, .val (.long d), .second, .val (.int f), .val (.int (3 : Int32)), .val (.ref (if (if (q &&& (4 : Int32)) = (0 : Int32) then (0 : Int32) else (1 : Int32)) = (0 : Int32) then qP else qF)), .unset, .unset, .unset, .unset, .unset, .unset, .unset]
    have k202 : To p.tables e below S0 (T200.setTop (mkF m 25 l201 [(.int (q &&& (8 : Int32)))])) := fun tt hq => k200 tt (by
      show Steps _ _ _ (T200.setTop (mkF m 19 l194 [(.ref (if (if (q &&& (4 : Int32)) = (0 : Int32) then (0 : Int32) else (1 : Int32)) = (0 : Int32) then qP else qF))])) _
      refine XS.astore X200.here hx rfl (hb hby at_19) rfl rfl (l' := l201) rfl ?_
      show Steps _ _ _ (T200.setTop (mkF m 21 l201 [])) _
      refine XS.iloadN X200.here hx rfl (hb hby at_21) rfl ?_
      show Steps _ _ _ (T200.setTop (mkF m 22 l201 [(.int q)])) _
      refine XS.bipush X200.here hx rfl (hb hby at_22) ?_
      show Steps _ _ _ (T200.setTop (mkF m 24 l201 [(.int (8 : Int32)), (.int q)])) _
      refine XS.iand X200.here hx rfl (hb hby at_24) rfl ?_
      show Steps _ _ _ (T200.setTop (mkF m 25 l201 [(.int (q &&& (8 : Int32)))])) _
      exact hq)
    refine joinT (S0 := S0) X200 e200 (mkF m 33 l201 [(.int (if (q &&& (8 : Int32)) = (0 : Int32) then (0 : Int32) else (1 : Int32)))]) (fun kont => ?_) (fun T203 X203 e203 k203 => ?_)
    · -- the roads to pc 33
      by_cases hc25_204 : (q &&& (8 : Int32)) = (0 : Int32)
      · -- pc 25, holds
        have k205 : To p.tables e below S0 (T200.setTop (mkF m 33 l201 [(.int (0 : Int32))])) := fun tt hq => k202 tt (by
          show Steps _ _ _ (T200.setTop (mkF m 25 l201 [(.int (q &&& (8 : Int32)))])) _
          refine XS.ifYes X200.here hx rfl (pc0 := 25) (pc' := 32) rfl (hb hby at_25) rfl ((if0 _ _).trans (teq hc25_204).1) (by decide) (by decide) ?_
          show Steps _ _ _ (T200.setTop (mkF m 32 l201 [])) _
          refine XS.iconst X200.here hx rfl (hb hby at_32) ?_
          show Steps _ _ _ (T200.setTop (mkF m 33 l201 [(.int (0 : Int32))])) _
          exact hq)
        exact kont T200 X200 e200 (fun tt hq => k205 tt (by simpa only [if_pos hc25_204, l201] using hq))
      · -- pc 25, holds not
        have k206 : To p.tables e below S0 (T200.setTop (mkF m 33 l201 [(.int (1 : Int32))])) := fun tt hq => k202 tt (by
          show Steps _ _ _ (T200.setTop (mkF m 25 l201 [(.int (q &&& (8 : Int32)))])) _
          refine XS.ifNo X200.here hx rfl (hb hby at_25) rfl ((if0 _ _).trans (feq hc25_204).1) ?_
          show Steps _ _ _ (T200.setTop (mkF m 28 l201 [])) _
          refine XS.iconst X200.here hx rfl (hb hby at_28) ?_
          show Steps _ _ _ (T200.setTop (mkF m 29 l201 [(.int (1 : Int32))])) _
          refine XS.goto X200.here hx rfl (pc0 := 29) (pc' := 33) rfl (hb hby at_29) (by decide) (by decide) ?_
          show Steps _ _ _ (T200.setTop (mkF m 33 l201 [(.int (1 : Int32))])) _
          exact hq)
        exact kont T200 X200 e200 (fun tt hq => k206 tt (by simpa only [if_neg hc25_204, l201] using hq))
    obtain ⟨_, T207, L207, X207, ⟨rfl, Nq207, eq207⟩, k207a⟩ := callS' X203 hx hZ (y := (⟨"com/example/huntaway/huntaway/PrecedenceIsEmptyPinLaw", "effect", "(Z)Lcom/example/huntaway/huntaway/Effect;"⟩ : MethodName)) hown (hw _ (List.mem_of_getElem? (i := 0) rfl)) (hw _ (List.mem_of_getElem? (i := 1) rfl)) (hw _ (List.mem_of_getElem? (i := 2) rfl)) (hw _ (List.mem_of_getElem? (i := 3) rfl)) (by decide) (backC (W := 0) (rm_eff l Z a0 hw zc fm qF qP qI (if (q &&& (8 : Int32)) = (0 : Int32) then (0 : Int32) else (1 : Int32)) h0 n0 (by omega) S_c hzc S_f hfm S_F S_P S_I A_I O0) hZ (hw _ (List.mem_of_getElem? (i := 3) rfl)) (hw _ (List.mem_of_getElem? (i := 2) rfl)) (by decide) (by decide)) e203 (argsL := [(.int (if (q &&& (8 : Int32)) = (0 : Int32) then (0 : Int32) else (1 : Int32)))]) (rest := []) rfl rfl pd_15 rfl (by rw [hml]; rfl) (hb hby at_33) (Nat.le_of_eq rfl) (by decide) (by decide) k203
    have k207 : To p.tables e below S0 (T207.setTop (mkF m 36 l201 [(.ref (if (if (q &&& (8 : Int32)) = (0 : Int32) then (0 : Int32) else (1 : Int32)) = (0 : Int32) then qP else qF))])) := k207a
    have N207 := N200.app Nq207
    have e207 : T207.heap = h0 := eq207
    let l208 : Array Slot := #[.val (.int q), .val (.long a), .second, .val (.long b), .second, .val (.long d), .second, .val (.int f), .val (.int (3 : Int32)), .val (.ref (if (if (q &&& (4 : Int32)) = (0 : Int32) then (0 : Int32) else (1 : Int32)) = (0 : Int32) then qP else qF)), .val (.ref (if (if (q &&& (8 : Int32)) = (0 : Int32) then (0 : Int32) else (1 : Int32)) = (0 : Int32) then qP else qF)), .unset, .unset, .unset, .unset, .unset, .unset]
    have k209 : To p.tables e below S0 (T207.setTop (mkF m 42 l208 [(.int (q &&& (16 : Int32)))])) := fun tt hq => k207 tt (by
      show Steps _ _ _ (T207.setTop (mkF m 36 l201 [(.ref (if (if (q &&& (8 : Int32)) = (0 : Int32) then (0 : Int32) else (1 : Int32)) = (0 : Int32) then qP else qF))])) _
      refine XS.astore X207.here hx rfl (hb hby at_36) rfl rfl (l' := l208) rfl ?_
      show Steps _ _ _ (T207.setTop (mkF m 38 l208 [])) _
      refine XS.iloadN X207.here hx rfl (hb hby at_38) rfl ?_
      show Steps _ _ _ (T207.setTop (mkF m 39 l208 [(.int q)])) _
      refine XS.bipush X207.here hx rfl (hb hby at_39) ?_
      show Steps _ _ _ (T207.setTop (mkF m 41 l208 [(.int (16 : Int32)), (.int q)])) _
      refine XS.iand X207.here hx rfl (hb hby at_41) rfl ?_
      show Steps _ _ _ (T207.setTop (mkF m 42 l208 [(.int (q &&& (16 : Int32)))])) _
      exact hq)
    refine joinT (S0 := S0) X207 e207 (mkF m 50 l208 [(.int (if (q &&& (16 : Int32)) = (0 : Int32) then (0 : Int32) else (1 : Int32)))]) (fun kont => ?_) (fun T210 X210 e210 k210 => ?_)
    · -- the roads to pc 50
      by_cases hc42_211 : (q &&& (16 : Int32)) = (0 : Int32)
      · -- pc 42, holds
        have k212 : To p.tables e below S0 (T207.setTop (mkF m 50 l208 [(.int (0 : Int32))])) := fun tt hq => k209 tt (by
          show Steps _ _ _ (T207.setTop (mkF m 42 l208 [(.int (q &&& (16 : Int32)))])) _
          refine XS.ifYes X207.here hx rfl (pc0 := 42) (pc' := 49) rfl (hb hby at_42) rfl ((if0 _ _).trans (teq hc42_211).1) (by decide) (by decide) ?_
          show Steps _ _ _ (T207.setTop (mkF m 49 l208 [])) _
          refine XS.iconst X207.here hx rfl (hb hby at_49) ?_
          show Steps _ _ _ (T207.setTop (mkF m 50 l208 [(.int (0 : Int32))])) _
          exact hq)
        exact kont T207 X207 e207 (fun tt hq => k212 tt (by simpa only [if_pos hc42_211, l208] using hq))
      · -- pc 42, holds not
        have k213 : To p.tables e below S0 (T207.setTop (mkF m 50 l208 [(.int (1 : Int32))])) := fun tt hq => k209 tt (by
          show Steps _ _ _ (T207.setTop (mkF m 42 l208 [(.int (q &&& (16 : Int32)))])) _
          refine XS.ifNo X207.here hx rfl (hb hby at_42) rfl ((if0 _ _).trans (feq hc42_211).1) ?_
          show Steps _ _ _ (T207.setTop (mkF m 45 l208 [])) _
          refine XS.iconst X207.here hx rfl (hb hby at_45) ?_
          show Steps _ _ _ (T207.setTop (mkF m 46 l208 [(.int (1 : Int32))])) _
          refine XS.goto X207.here hx rfl (pc0 := 46) (pc' := 50) rfl (hb hby at_46) (by decide) (by decide) ?_
          show Steps _ _ _ (T207.setTop (mkF m 50 l208 [(.int (1 : Int32))])) _
          exact hq)
        exact kont T207 X207 e207 (fun tt hq => k213 tt (by simpa only [if_neg hc42_211, l208] using hq))
    obtain ⟨_, T214, L214, X214, ⟨rfl, Nq214, eq214⟩, k214a⟩ := callS' X210 hx hZ (y := (⟨"com/example/huntaway/huntaway/PrecedenceIsEmptyPinLaw", "effect", "(Z)Lcom/example/huntaway/huntaway/Effect;"⟩ : MethodName)) hown (hw _ (List.mem_of_getElem? (i := 0) rfl)) (hw _ (List.mem_of_getElem? (i := 1) rfl)) (hw _ (List.mem_of_getElem? (i := 2) rfl)) (hw _ (List.mem_of_getElem? (i := 3) rfl)) (by decide) (backC (W := 0) (rm_eff l Z a0 hw zc fm qF qP qI (if (q &&& (16 : Int32)) = (0 : Int32) then (0 : Int32) else (1 : Int32)) h0 n0 (by omega) S_c hzc S_f hfm S_F S_P S_I A_I O0) hZ (hw _ (List.mem_of_getElem? (i := 3) rfl)) (hw _ (List.mem_of_getElem? (i := 2) rfl)) (by decide) (by decide)) e210 (argsL := [(.int (if (q &&& (16 : Int32)) = (0 : Int32) then (0 : Int32) else (1 : Int32)))]) (rest := []) rfl rfl pd_15 rfl (by rw [hml]; rfl) (hb hby at_50) (Nat.le_of_eq rfl) (by decide) (by decide) k210
    have k214 : To p.tables e below S0 (T214.setTop (mkF m 53 l208 [(.ref (if (if (q &&& (16 : Int32)) = (0 : Int32) then (0 : Int32) else (1 : Int32)) = (0 : Int32) then qP else qF))])) := k214a
    have N214 := N207.app Nq214
    have e214 : T214.heap = h0 := eq214
    let l215 : Array Slot := #[.val (.int q), .val (.long a), .second, .val (.long b), .second, .val (.long d), .second, .val (.int f), .val (.int (3 : Int32)), .val (.ref (if (if (q &&& (4 : Int32)) = (0 : Int32) then (0 : Int32) else (1 : Int32)) = (0 : Int32) then qP else qF)), .val (.ref (if (if (q &&& (8 : Int32)) = (0 : Int32) then (0 : Int32) else (1 : Int32)) = (0 : Int32) then qP else qF)), .val (.ref (if (if (q &&& (16 : Int32)) = (0 : Int32) then (0 : Int32) else (1 : Int32)) = (0 : Int32) then qP else qF)), .unset, .unset, .unset, .unset, .unset]
    have k216 : To p.tables e below S0 (T214.setTop (mkF m 61 l215 [(.int (q &&& (32 : Int32))), (.int f)])) := fun tt hq => k214 tt (by
      show Steps _ _ _ (T214.setTop (mkF m 53 l208 [(.ref (if (if (q &&& (16 : Int32)) = (0 : Int32) then (0 : Int32) else (1 : Int32)) = (0 : Int32) then qP else qF))])) _
      refine XS.astore X214.here hx rfl (hb hby at_53) rfl rfl (l' := l215) rfl ?_
      show Steps _ _ _ (T214.setTop (mkF m 55 l215 [])) _
      refine XS.iload X214.here hx rfl (hb hby at_55) rfl ?_
      show Steps _ _ _ (T214.setTop (mkF m 57 l215 [(.int f)])) _
      refine XS.iloadN X214.here hx rfl (hb hby at_57) rfl ?_
      show Steps _ _ _ (T214.setTop (mkF m 58 l215 [(.int q), (.int f)])) _
      refine XS.bipush X214.here hx rfl (hb hby at_58) ?_
      show Steps _ _ _ (T214.setTop (mkF m 60 l215 [(.int (32 : Int32)), (.int q), (.int f)])) _
      refine XS.iand X214.here hx rfl (hb hby at_60) rfl ?_
      show Steps _ _ _ (T214.setTop (mkF m 61 l215 [(.int (q &&& (32 : Int32))), (.int f)])) _
      exact hq)
    refine joinT (S0 := S0) X214 e214 (mkF m 69 l215 [(.int (if (q &&& (32 : Int32)) = (0 : Int32) then (0 : Int32) else (1 : Int32))), (.int f)]) (fun kont => ?_) (fun T217 X217 e217 k217 => ?_)
    · -- the roads to pc 69
      by_cases hc61_218 : (q &&& (32 : Int32)) = (0 : Int32)
      · -- pc 61, holds
        have k219 : To p.tables e below S0 (T214.setTop (mkF m 69 l215 [(.int (0 : Int32)), (.int f)])) := fun tt hq => k216 tt (by
          show Steps _ _ _ (T214.setTop (mkF m 61 l215 [(.int (q &&& (32 : Int32))), (.int f)])) _
          refine XS.ifYes X214.here hx rfl (pc0 := 61) (pc' := 68) rfl (hb hby at_61) rfl ((if0 _ _).trans (teq hc61_218).1) (by decide) (by decide) ?_
          show Steps _ _ _ (T214.setTop (mkF m 68 l215 [(.int f)])) _
          refine XS.iconst X214.here hx rfl (hb hby at_68) ?_
          show Steps _ _ _ (T214.setTop (mkF m 69 l215 [(.int (0 : Int32)), (.int f)])) _
          exact hq)
        exact kont T214 X214 e214 (fun tt hq => k219 tt (by simpa only [if_pos hc61_218, l215] using hq))
      · -- pc 61, holds not
        have k220 : To p.tables e below S0 (T214.setTop (mkF m 69 l215 [(.int (1 : Int32)), (.int f)])) := fun tt hq => k216 tt (by
          show Steps _ _ _ (T214.setTop (mkF m 61 l215 [(.int (q &&& (32 : Int32))), (.int f)])) _
          refine XS.ifNo X214.here hx rfl (hb hby at_61) rfl ((if0 _ _).trans (feq hc61_218).1) ?_
          show Steps _ _ _ (T214.setTop (mkF m 64 l215 [(.int f)])) _
          refine XS.iconst X214.here hx rfl (hb hby at_64) ?_
          show Steps _ _ _ (T214.setTop (mkF m 65 l215 [(.int (1 : Int32)), (.int f)])) _
          refine XS.goto X214.here hx rfl (pc0 := 65) (pc' := 69) rfl (hb hby at_65) (by decide) (by decide) ?_
          show Steps _ _ _ (T214.setTop (mkF m 69 l215 [(.int (1 : Int32)), (.int f)])) _
          exact hq)
        exact kont T214 X214 e214 (fun tt hq => k220 tt (by simpa only [if_neg hc61_218, l215] using hq))
    obtain ⟨_, T221, L221, X221, ⟨a221, rfl, Nq221, ga221, Kq221, S221⟩, k221a, Cq221, hS221, hZ221, hown221⟩ := callSW X217 hx hZ (y := (⟨"com/example/huntaway/huntaway/PrecedenceIsEmptyPinLaw", "name", "(IZ)Ljava/lang/String;"⟩ : MethodName)) hown hS0 (by omega) (hw _ (List.mem_of_getElem? (i := 7) rfl)) (hw _ (List.mem_of_getElem? (i := 8) rfl)) (hw _ (List.mem_of_getElem? (i := 2) rfl)) (hw _ (List.mem_of_getElem? (i := 9) rfl)) (by decide) (backOfW (W := 0) (rm_name l Z a0 hw zc fm qF qP qI f (if (q &&& (32 : Int32)) = (0 : Int32) then (0 : Int32) else (1 : Int32)) h0 n0 (by omega) S_c hzc S_f hfm S_F S_P S_I A_I O0) hZ (hw _ (List.mem_of_getElem? (i := 9) rfl)) (hw _ (List.mem_of_getElem? (i := 2) rfl)) (by decide) (by decide) (own_EW hw) C0.1 all0) e217 (argsL := [(.int f), (.int (if (q &&& (32 : Int32)) = (0 : Int32) then (0 : Int32) else (1 : Int32)))]) (rest := []) rfl rfl pd_16 rfl (by rw [hml]; rfl) (hb hby at_69) (Nat.le_of_eq rfl) (by decide) (by decide) k217
    have k221 : To p.tables e below S0 (T221.setTop (mkF m 72 l215 [(.ref a221)])) := k221a
    have N221 := N214.app Nq221
    obtain ⟨h221, e221⟩ : ∃ z, T221.heap = z := ⟨_, rfl⟩
    rw [e221] at Kq221 S221 Cq221 hS221
    have z221 : h0.size ≤ h221.size := Kq221.1
    have C221 := C0.trans Cq221
    have y221 : @LT.lt Nat instLTNat a221 h221.size := S221.1.lt
    let l222 : Array Slot := #[.val (.int q), .val (.long a), .second, .val (.long b), .second, .val (.long d), .second, .val (.int f), .val (.int (3 : Int32)), .val (.ref (if (if (q &&& (4 : Int32)) = (0 : Int32) then (0 : Int32) else (1 : Int32)) = (0 : Int32) then qP else qF)), .val (.ref (if (if (q &&& (8 : Int32)) = (0 : Int32) then (0 : Int32) else (1 : Int32)) = (0 : Int32) then qP else qF)), .val (.ref (if (if (q &&& (16 : Int32)) = (0 : Int32) then (0 : Int32) else (1 : Int32)) = (0 : Int32) then qP else qF)), .val (.ref a221), .unset, .unset, .unset, .unset]
    have k223 : To p.tables e below S0 (T221.setTop (mkF m 83 l222 [(.int (q &&& (64 : Int32))), (.int ((f.toUInt32 >>> ((8 : Int32) &&& 31).toUInt32).toInt32))])) := fun tt hq => k221 tt (by
      show Steps _ _ _ (T221.setTop (mkF m 72 l215 [(.ref a221)])) _
      refine XS.astore X221.here hx rfl (hb hby at_72) rfl rfl (l' := l222) rfl ?_
      show Steps _ _ _ (T221.setTop (mkF m 74 l222 [])) _
      refine XS.iload X221.here hx rfl (hb hby at_74) rfl ?_
      show Steps _ _ _ (T221.setTop (mkF m 76 l222 [(.int f)])) _
      refine XS.bipush X221.here hx rfl (hb hby at_76) ?_
      show Steps _ _ _ (T221.setTop (mkF m 78 l222 [(.int (8 : Int32)), (.int f)])) _
      refine XS.iushr X221.here hx rfl (hb hby at_78) rfl ?_
      show Steps _ _ _ (T221.setTop (mkF m 79 l222 [(.int ((f.toUInt32 >>> ((8 : Int32) &&& 31).toUInt32).toInt32))])) _
      refine XS.iloadN X221.here hx rfl (hb hby at_79) rfl ?_
      show Steps _ _ _ (T221.setTop (mkF m 80 l222 [(.int q), (.int ((f.toUInt32 >>> ((8 : Int32) &&& 31).toUInt32).toInt32))])) _
      refine XS.bipush X221.here hx rfl (hb hby at_80) ?_
      show Steps _ _ _ (T221.setTop (mkF m 82 l222 [(.int (64 : Int32)), (.int q), (.int ((f.toUInt32 >>> ((8 : Int32) &&& 31).toUInt32).toInt32))])) _
      refine XS.iand X221.here hx rfl (hb hby at_82) rfl ?_
      show Steps _ _ _ (T221.setTop (mkF m 83 l222 [(.int (q &&& (64 : Int32))), (.int ((f.toUInt32 >>> ((8 : Int32) &&& 31).toUInt32).toInt32))])) _
      exact hq)
    refine joinT (S0 := S0) X221 e221 (mkF m 91 l222 [(.int (if (q &&& (64 : Int32)) = (0 : Int32) then (0 : Int32) else (1 : Int32))), (.int ((f.toUInt32 >>> ((8 : Int32) &&& 31).toUInt32).toInt32))]) (fun kont => ?_) (fun T224 X224 e224 k224 => ?_)
    · -- the roads to pc 91
      by_cases hc83_225 : (q &&& (64 : Int32)) = (0 : Int32)
      · -- pc 83, holds
        have k226 : To p.tables e below S0 (T221.setTop (mkF m 91 l222 [(.int (0 : Int32)), (.int ((f.toUInt32 >>> ((8 : Int32) &&& 31).toUInt32).toInt32))])) := fun tt hq => k223 tt (by
          show Steps _ _ _ (T221.setTop (mkF m 83 l222 [(.int (q &&& (64 : Int32))), (.int ((f.toUInt32 >>> ((8 : Int32) &&& 31).toUInt32).toInt32))])) _
          refine XS.ifYes X221.here hx rfl (pc0 := 83) (pc' := 90) rfl (hb hby at_83) rfl ((if0 _ _).trans (teq hc83_225).1) (by decide) (by decide) ?_
          show Steps _ _ _ (T221.setTop (mkF m 90 l222 [(.int ((f.toUInt32 >>> ((8 : Int32) &&& 31).toUInt32).toInt32))])) _
          refine XS.iconst X221.here hx rfl (hb hby at_90) ?_
          show Steps _ _ _ (T221.setTop (mkF m 91 l222 [(.int (0 : Int32)), (.int ((f.toUInt32 >>> ((8 : Int32) &&& 31).toUInt32).toInt32))])) _
          exact hq)
        exact kont T221 X221 e221 (fun tt hq => k226 tt (by simpa only [if_pos hc83_225, l222] using hq))
      · -- pc 83, holds not
        have k227 : To p.tables e below S0 (T221.setTop (mkF m 91 l222 [(.int (1 : Int32)), (.int ((f.toUInt32 >>> ((8 : Int32) &&& 31).toUInt32).toInt32))])) := fun tt hq => k223 tt (by
          show Steps _ _ _ (T221.setTop (mkF m 83 l222 [(.int (q &&& (64 : Int32))), (.int ((f.toUInt32 >>> ((8 : Int32) &&& 31).toUInt32).toInt32))])) _
          refine XS.ifNo X221.here hx rfl (hb hby at_83) rfl ((if0 _ _).trans (feq hc83_225).1) ?_
          show Steps _ _ _ (T221.setTop (mkF m 86 l222 [(.int ((f.toUInt32 >>> ((8 : Int32) &&& 31).toUInt32).toInt32))])) _
          refine XS.iconst X221.here hx rfl (hb hby at_86) ?_
          show Steps _ _ _ (T221.setTop (mkF m 87 l222 [(.int (1 : Int32)), (.int ((f.toUInt32 >>> ((8 : Int32) &&& 31).toUInt32).toInt32))])) _
          refine XS.goto X221.here hx rfl (pc0 := 87) (pc' := 91) rfl (hb hby at_87) (by decide) (by decide) ?_
          show Steps _ _ _ (T221.setTop (mkF m 91 l222 [(.int (1 : Int32)), (.int ((f.toUInt32 >>> ((8 : Int32) &&& 31).toUInt32).toInt32))])) _
          exact hq)
        exact kont T221 X221 e221 (fun tt hq => k227 tt (by simpa only [if_neg hc83_225, l222] using hq))
    have f228 : Old Z n0 h221 := (O0.keep Kq221 all0)
    obtain ⟨_, T229, L229, X229, ⟨a229, rfl, Nq229, ga229, Kq229, S229⟩, k229a, Cq229, hS229, hZ229, hown229⟩ := callSW X224 hx hZ221 (y := (⟨"com/example/huntaway/huntaway/PrecedenceIsEmptyPinLaw", "name", "(IZ)Ljava/lang/String;"⟩ : MethodName)) hown221 hS221 (by omega) (hw _ (List.mem_of_getElem? (i := 7) rfl)) (hw _ (List.mem_of_getElem? (i := 8) rfl)) (hw _ (List.mem_of_getElem? (i := 2) rfl)) (hw _ (List.mem_of_getElem? (i := 9) rfl)) (by decide) (backOfW (W := 0) (rm_name l Z a0 hw zc fm qF qP qI ((f.toUInt32 >>> ((8 : Int32) &&& 31).toUInt32).toInt32) (if (q &&& (64 : Int32)) = (0 : Int32) then (0 : Int32) else (1 : Int32)) h221 n0 (by omega) S_c hzc S_f hfm S_F S_P S_I A_I f228) hZ221 (hw _ (List.mem_of_getElem? (i := 9) rfl)) (hw _ (List.mem_of_getElem? (i := 2) rfl)) (by decide) (by decide) (own_EW hw) C221.1 all0) e224 (argsL := [(.int ((f.toUInt32 >>> ((8 : Int32) &&& 31).toUInt32).toInt32)), (.int (if (q &&& (64 : Int32)) = (0 : Int32) then (0 : Int32) else (1 : Int32)))]) (rest := []) rfl rfl pd_16 rfl (by rw [hml]; rfl) (hb hby at_91) (Nat.le_of_eq rfl) (by decide) (by decide) k224
    have k229 : To p.tables e below S0 (T229.setTop (mkF m 94 l222 [(.ref a229)])) := k229a
    have N229 := N221.app Nq229
    obtain ⟨h229, e229⟩ : ∃ z, T229.heap = z := ⟨_, rfl⟩
    rw [e229] at Kq229 S229 Cq229 hS229
    have z229 : h221.size ≤ h229.size := Kq229.1
    have C229 := C221.trans Cq229
    have y229 : @LT.lt Nat instLTNat a229 h229.size := S229.1.lt
    let l230 : Array Slot := #[.val (.int q), .val (.long a), .second, .val (.long b), .second, .val (.long d), .second, .val (.int f), .val (.int (3 : Int32)), .val (.ref (if (if (q &&& (4 : Int32)) = (0 : Int32) then (0 : Int32) else (1 : Int32)) = (0 : Int32) then qP else qF)), .val (.ref (if (if (q &&& (8 : Int32)) = (0 : Int32) then (0 : Int32) else (1 : Int32)) = (0 : Int32) then qP else qF)), .val (.ref (if (if (q &&& (16 : Int32)) = (0 : Int32) then (0 : Int32) else (1 : Int32)) = (0 : Int32) then qP else qF)), .val (.ref a221), .val (.ref a229), .unset, .unset, .unset]
    have k231 : To p.tables e below S0 (T229.setTop (mkF m 106 l230 [(.int (q &&& (128 : Int32))), (.int ((f.toUInt32 >>> ((16 : Int32) &&& 31).toUInt32).toInt32))])) := fun tt hq => k229 tt (by
      show Steps _ _ _ (T229.setTop (mkF m 94 l222 [(.ref a229)])) _
      refine XS.astore X229.here hx rfl (hb hby at_94) rfl rfl (l' := l230) rfl ?_
      show Steps _ _ _ (T229.setTop (mkF m 96 l230 [])) _
      refine XS.iload X229.here hx rfl (hb hby at_96) rfl ?_
      show Steps _ _ _ (T229.setTop (mkF m 98 l230 [(.int f)])) _
      refine XS.bipush X229.here hx rfl (hb hby at_98) ?_
      show Steps _ _ _ (T229.setTop (mkF m 100 l230 [(.int (16 : Int32)), (.int f)])) _
      refine XS.iushr X229.here hx rfl (hb hby at_100) rfl ?_
      show Steps _ _ _ (T229.setTop (mkF m 101 l230 [(.int ((f.toUInt32 >>> ((16 : Int32) &&& 31).toUInt32).toInt32))])) _
      refine XS.iloadN X229.here hx rfl (hb hby at_101) rfl ?_
      show Steps _ _ _ (T229.setTop (mkF m 102 l230 [(.int q), (.int ((f.toUInt32 >>> ((16 : Int32) &&& 31).toUInt32).toInt32))])) _
      refine XS.sipush X229.here hx rfl (hb hby at_102) ?_
      show Steps _ _ _ (T229.setTop (mkF m 105 l230 [(.int (128 : Int32)), (.int q), (.int ((f.toUInt32 >>> ((16 : Int32) &&& 31).toUInt32).toInt32))])) _
      refine XS.iand X229.here hx rfl (hb hby at_105) rfl ?_
      show Steps _ _ _ (T229.setTop (mkF m 106 l230 [(.int (q &&& (128 : Int32))), (.int ((f.toUInt32 >>> ((16 : Int32) &&& 31).toUInt32).toInt32))])) _
      exact hq)
    refine joinT (S0 := S0) X229 e229 (mkF m 114 l230 [(.int (if (q &&& (128 : Int32)) = (0 : Int32) then (0 : Int32) else (1 : Int32))), (.int ((f.toUInt32 >>> ((16 : Int32) &&& 31).toUInt32).toInt32))]) (fun kont => ?_) (fun T232 X232 e232 k232 => ?_)
    · -- the roads to pc 114
      by_cases hc106_233 : (q &&& (128 : Int32)) = (0 : Int32)
      · -- pc 106, holds
        have k234 : To p.tables e below S0 (T229.setTop (mkF m 114 l230 [(.int (0 : Int32)), (.int ((f.toUInt32 >>> ((16 : Int32) &&& 31).toUInt32).toInt32))])) := fun tt hq => k231 tt (by
          show Steps _ _ _ (T229.setTop (mkF m 106 l230 [(.int (q &&& (128 : Int32))), (.int ((f.toUInt32 >>> ((16 : Int32) &&& 31).toUInt32).toInt32))])) _
          refine XS.ifYes X229.here hx rfl (pc0 := 106) (pc' := 113) rfl (hb hby at_106) rfl ((if0 _ _).trans (teq hc106_233).1) (by decide) (by decide) ?_
          show Steps _ _ _ (T229.setTop (mkF m 113 l230 [(.int ((f.toUInt32 >>> ((16 : Int32) &&& 31).toUInt32).toInt32))])) _
          refine XS.iconst X229.here hx rfl (hb hby at_113) ?_
          show Steps _ _ _ (T229.setTop (mkF m 114 l230 [(.int (0 : Int32)), (.int ((f.toUInt32 >>> ((16 : Int32) &&& 31).toUInt32).toInt32))])) _
          exact hq)
        exact kont T229 X229 e229 (fun tt hq => k234 tt (by simpa only [if_pos hc106_233, l230] using hq))
      · -- pc 106, holds not
        have k235 : To p.tables e below S0 (T229.setTop (mkF m 114 l230 [(.int (1 : Int32)), (.int ((f.toUInt32 >>> ((16 : Int32) &&& 31).toUInt32).toInt32))])) := fun tt hq => k231 tt (by
          show Steps _ _ _ (T229.setTop (mkF m 106 l230 [(.int (q &&& (128 : Int32))), (.int ((f.toUInt32 >>> ((16 : Int32) &&& 31).toUInt32).toInt32))])) _
          refine XS.ifNo X229.here hx rfl (hb hby at_106) rfl ((if0 _ _).trans (feq hc106_233).1) ?_
          show Steps _ _ _ (T229.setTop (mkF m 109 l230 [(.int ((f.toUInt32 >>> ((16 : Int32) &&& 31).toUInt32).toInt32))])) _
          refine XS.iconst X229.here hx rfl (hb hby at_109) ?_
          show Steps _ _ _ (T229.setTop (mkF m 110 l230 [(.int (1 : Int32)), (.int ((f.toUInt32 >>> ((16 : Int32) &&& 31).toUInt32).toInt32))])) _
          refine XS.goto X229.here hx rfl (pc0 := 110) (pc' := 114) rfl (hb hby at_110) (by decide) (by decide) ?_
          show Steps _ _ _ (T229.setTop (mkF m 114 l230 [(.int (1 : Int32)), (.int ((f.toUInt32 >>> ((16 : Int32) &&& 31).toUInt32).toInt32))])) _
          exact hq)
        exact kont T229 X229 e229 (fun tt hq => k235 tt (by simpa only [if_neg hc106_233, l230] using hq))
    have f236 : Old Z n0 h229 := (f228.keep Kq229 all0)
    obtain ⟨_, T237, L237, X237, ⟨a237, rfl, Nq237, ga237, Kq237, S237⟩, k237a, Cq237, hS237, hZ237, hown237⟩ := callSW X232 hx hZ229 (y := (⟨"com/example/huntaway/huntaway/PrecedenceIsEmptyPinLaw", "name", "(IZ)Ljava/lang/String;"⟩ : MethodName)) hown229 hS229 (by omega) (hw _ (List.mem_of_getElem? (i := 7) rfl)) (hw _ (List.mem_of_getElem? (i := 8) rfl)) (hw _ (List.mem_of_getElem? (i := 2) rfl)) (hw _ (List.mem_of_getElem? (i := 9) rfl)) (by decide) (backOfW (W := 0) (rm_name l Z a0 hw zc fm qF qP qI ((f.toUInt32 >>> ((16 : Int32) &&& 31).toUInt32).toInt32) (if (q &&& (128 : Int32)) = (0 : Int32) then (0 : Int32) else (1 : Int32)) h229 n0 (by omega) S_c hzc S_f hfm S_F S_P S_I A_I f236) hZ229 (hw _ (List.mem_of_getElem? (i := 9) rfl)) (hw _ (List.mem_of_getElem? (i := 2) rfl)) (by decide) (by decide) (own_EW hw) C229.1 all0) e232 (argsL := [(.int ((f.toUInt32 >>> ((16 : Int32) &&& 31).toUInt32).toInt32)), (.int (if (q &&& (128 : Int32)) = (0 : Int32) then (0 : Int32) else (1 : Int32)))]) (rest := []) rfl rfl pd_16 rfl (by rw [hml]; rfl) (hb hby at_114) (Nat.le_of_eq rfl) (by decide) (by decide) k232
    have k237 : To p.tables e below S0 (T237.setTop (mkF m 117 l230 [(.ref a237)])) := k237a
    have N237 := N229.app Nq237
    obtain ⟨h237, e237⟩ : ∃ z, T237.heap = z := ⟨_, rfl⟩
    rw [e237] at Kq237 S237 Cq237 hS237
    have z237 : h229.size ≤ h237.size := Kq237.1
    have C237 := C229.trans Cq237
    have y237 : @LT.lt Nat instLTNat a237 h237.size := S237.1.lt
    let l238 : Array Slot := #[.val (.int q), .val (.long a), .second, .val (.long b), .second, .val (.long d), .second, .val (.int f), .val (.int (3 : Int32)), .val (.ref (if (if (q &&& (4 : Int32)) = (0 : Int32) then (0 : Int32) else (1 : Int32)) = (0 : Int32) then qP else qF)), .val (.ref (if (if (q &&& (8 : Int32)) = (0 : Int32) then (0 : Int32) else (1 : Int32)) = (0 : Int32) then qP else qF)), .val (.ref (if (if (q &&& (16 : Int32)) = (0 : Int32) then (0 : Int32) else (1 : Int32)) = (0 : Int32) then qP else qF)), .val (.ref a221), .val (.ref a229), .val (.ref a237), .unset, .unset]
    have k239 : To p.tables e below S0 (T237.setTop (mkF m 119 l238 [])) := fun tt hq => k237 tt (by
      show Steps _ _ _ (T237.setTop (mkF m 117 l230 [(.ref a237)])) _
      refine XS.astore X237.here hx rfl (hb hby at_117) rfl rfl (l' := l238) rfl ?_
      show Steps _ _ _ (T237.setTop (mkF m 119 l238 [])) _
      exact hq)
    obtain ⟨T240, h240, X240, e240, E240, A240, D240, -, st240⟩ := newO X237 hx hZ237 hown237 (hw _ (List.mem_of_getElem? (i := 36) rfl)) (hw _ (List.mem_of_getElem? (i := 37) rfl)) (hw _ (List.mem_of_getElem? (i := 38) rfl)) e237 (g := (mkF m 119 l238 [])) rfl (hb hby at_119) (by decide) (by decide)
    obtain ⟨b240, g240⟩ : ∃ z, z = h237.size := ⟨_, rfl⟩
    rw [← g240] at A240 D240 st240
    have k240 : To p.tables e below S0 (T240.setTop (mkF m 122 l238 [(.ref b240)])) := fun tt hq => k239 tt (st240 tt hq)
    have z240 : h237.size ≤ h240.size := E240.1
    have y240 : @LT.lt Nat instLTNat b240 h240.size := A240.lt
    have C240 := C237.trans (CHr.ext E240 C237.1)
    have F240_highest : Fld Z h240 b240 "com/example/huntaway/huntaway/Precedence" "highest" "J" (.long (0 : Int64)) := D240 (Or.inl (hw _ (List.mem_of_getElem? (i := 45) rfl))) (ty := .long) (by decide)
    have F240_permitting : Fld Z h240 b240 "com/example/huntaway/huntaway/Precedence" "permitting" "Ljava/lang/String;" .null := D240 (Or.inl (hw _ (List.mem_of_getElem? (i := 52) rfl))) (ty := (.object "java/lang/String")) (by decide)
    have F240_forbidding : Fld Z h240 b240 "com/example/huntaway/huntaway/Precedence" "forbidding" "Ljava/lang/String;" .null := D240 (Or.inl (hw _ (List.mem_of_getElem? (i := 54) rfl))) (ty := (.object "java/lang/String")) (by decide)
    have k241 : To p.tables e below S0 (T240.setTop (mkF m 123 l238 [(.ref b240), (.ref b240)])) := fun tt hq => k240 tt (by
      show Steps _ _ _ (T240.setTop (mkF m 122 l238 [(.ref b240)])) _
      refine XS.dup X240.here hx rfl (hb hby at_122) rfl rfl ?_
      show Steps _ _ _ (T240.setTop (mkF m 123 l238 [(.ref b240), (.ref b240)])) _
      exact hq)
    obtain ⟨_, T242, L242, X242, ⟨rfl, Nq242, Kq242, P2420, P2421, P2422, P2423⟩, k242a⟩ := callC' X240 hx hZ237 (y := (⟨"com/example/huntaway/huntaway/Precedence", "<init>", "()V"⟩ : MethodName)) rfl hown237 (hw _ (List.mem_of_getElem? (i := 39) rfl)) (hw _ (List.mem_of_getElem? (i := 40) rfl)) (hw _ (List.mem_of_getElem? (i := 41) rfl)) (by decide) (backC (W := 1) (rm_pinit l Z a0 hw b240 h240 n0 (by omega) A240 F240_highest F240_permitting F240_forbidding (by omega)) hZ237 (hw _ (List.mem_of_getElem? (i := 41) rfl)) (hw _ (List.mem_of_getElem? (i := 38) rfl)) (by decide) (by decide)) e240 (argsL := []) (rest := [(.ref b240)]) rfl rfl pd_17 rfl (by rw [hml]; rfl) (hb hby at_123) (Nat.le_of_eq rfl) (by decide) (by decide) k241
    have k242 : To p.tables e below S0 (T242.setTop (mkF m 126 l238 [(.ref b240)])) := k242a
    have N242 := N237.app Nq242
    obtain ⟨h242, e242⟩ : ∃ z, T242.heap = z := ⟨_, rfl⟩
    rw [e242] at Kq242 P2420 P2421 P2422 P2423
    have z242 : h240.size ≤ h242.size := Kq242.1
    have C242 := C240.trans (CHr.keep Kq242 (sfS (Safe.exa hZ237.alike A240 (by decide) (by decide)) sf0) C240.1)
    let l243 : Array Slot := #[.val (.int q), .val (.long a), .second, .val (.long b), .second, .val (.long d), .second, .val (.int f), .val (.int (3 : Int32)), .val (.ref (if (if (q &&& (4 : Int32)) = (0 : Int32) then (0 : Int32) else (1 : Int32)) = (0 : Int32) then qP else qF)), .val (.ref (if (if (q &&& (8 : Int32)) = (0 : Int32) then (0 : Int32) else (1 : Int32)) = (0 : Int32) then qP else qF)), .val (.ref (if (if (q &&& (16 : Int32)) = (0 : Int32) then (0 : Int32) else (1 : Int32)) = (0 : Int32) then qP else qF)), .val (.ref a221), .val (.ref a229), .val (.ref a237), .val (.ref b240), .unset]
    have k244 : To p.tables e below S0 (T242.setTop (mkF m 130 l243 [(.ref b240)])) := fun tt hq => k242 tt (by
      show Steps _ _ _ (T242.setTop (mkF m 126 l238 [(.ref b240)])) _
      refine XS.astore X242.here hx rfl (hb hby at_126) rfl rfl (l' := l243) rfl ?_
      show Steps _ _ _ (T242.setTop (mkF m 128 l243 [])) _
      refine XS.aload X242.here hx rfl (hb hby at_128) rfl rfl ?_
      show Steps _ _ _ (T242.setTop (mkF m 130 l243 [(.ref b240)])) _
      exact hq)
    obtain ⟨_, T245, L245, X245, ⟨rfl, Nq245, eq245⟩, k245a⟩ := callV' X242 hx hZ237 (y := (⟨"com/example/huntaway/huntaway/Precedence", "isEmpty", "()Z"⟩ : MethodName)) (z := (⟨"com/example/huntaway/huntaway/Precedence", "isEmpty", "()Z"⟩ : MethodName)) hown237 (hw _ (List.mem_of_getElem? (i := 46) rfl)) (hw _ (List.mem_of_getElem? (i := 47) rfl)) (notFace_of_selects (args := #[]) (mvT hZ237 (hw _ (List.mem_of_getElem? (i := 49) rfl)))) (hw _ (List.mem_of_getElem? (i := 49) rfl)) (hw _ (List.mem_of_getElem? (i := 48) rfl)) (by decide) P2420 (backC (W := 0) (rm_emNN l Z a0 hw b240 h242 n0 (by omega) P2422 P2423) hZ237 (hw _ (List.mem_of_getElem? (i := 50) rfl)) (hw _ (List.mem_of_getElem? (i := 38) rfl)) (by decide) (by decide)) e242 (argsL := []) (rest := []) rfl rfl pd_6 rfl (by rw [hml]; rfl) (hb hby at_130) (Nat.le_of_eq rfl) (by decide) (by decide) k244
    have k245 : To p.tables e below S0 (T245.setTop (mkF m 133 l243 [(.int (1 : Int32))])) := k245a
    have N245 := N242.app Nq245
    have e245 : T245.heap = h242 := eq245
    let l246 : Array Slot := #[.val (.int q), .val (.long a), .second, .val (.long b), .second, .val (.long d), .second, .val (.int f), .val (.int (3 : Int32)), .val (.ref (if (if (q &&& (4 : Int32)) = (0 : Int32) then (0 : Int32) else (1 : Int32)) = (0 : Int32) then qP else qF)), .val (.ref (if (if (q &&& (8 : Int32)) = (0 : Int32) then (0 : Int32) else (1 : Int32)) = (0 : Int32) then qP else qF)), .val (.ref (if (if (q &&& (16 : Int32)) = (0 : Int32) then (0 : Int32) else (1 : Int32)) = (0 : Int32) then qP else qF)), .val (.ref a221), .val (.ref a229), .val (.ref a237), .val (.ref b240), .val (.int (1 : Int32))]
    have k247 : To p.tables e below S0 (T245.setTop (mkF m 148 l246 [(.ref a221), (.long a), (.ref (if (if (q &&& (4 : Int32)) = (0 : Int32) then (0 : Int32) else (1 : Int32)) = (0 : Int32) then qP else qF)), (.ref b240)])) := fun tt hq => k245 tt (by
      show Steps _ _ _ (T245.setTop (mkF m 133 l243 [(.int (1 : Int32))])) _
      refine XS.istore X245.here hx rfl (hb hby at_133) rfl (l' := l246) rfl ?_
      show Steps _ _ _ (T245.setTop (mkF m 135 l246 [])) _
      refine XS.iload X245.here hx rfl (hb hby at_135) rfl ?_
      show Steps _ _ _ (T245.setTop (mkF m 137 l246 [(.int (3 : Int32))])) _
      refine XS.iconst X245.here hx rfl (hb hby at_137) ?_
      show Steps _ _ _ (T245.setTop (mkF m 138 l246 [(.int (1 : Int32)), (.int (3 : Int32))])) _
      refine XS.icmpNo X245.here hx rfl (hb hby at_138) rfl (flt (by decide)).1 ?_
      show Steps _ _ _ (T245.setTop (mkF m 141 l246 [])) _
      refine XS.aload X245.here hx rfl (hb hby at_141) rfl rfl ?_
      show Steps _ _ _ (T245.setTop (mkF m 143 l246 [(.ref b240)])) _
      refine XS.aload X245.here hx rfl (hb hby at_143) rfl rfl ?_
      show Steps _ _ _ (T245.setTop (mkF m 145 l246 [(.ref (if (if (q &&& (4 : Int32)) = (0 : Int32) then (0 : Int32) else (1 : Int32)) = (0 : Int32) then qP else qF)), (.ref b240)])) _
      refine XS.lloadN X245.here hx rfl (hb hby at_145) rfl ?_
      show Steps _ _ _ (T245.setTop (mkF m 146 l246 [(.long a), (.ref (if (if (q &&& (4 : Int32)) = (0 : Int32) then (0 : Int32) else (1 : Int32)) = (0 : Int32) then qP else qF)), (.ref b240)])) _
      refine XS.aload X245.here hx rfl (hb hby at_146) rfl rfl ?_
      show Steps _ _ _ (T245.setTop (mkF m 148 l246 [(.ref a221), (.long a), (.ref (if (if (q &&& (4 : Int32)) = (0 : Int32) then (0 : Int32) else (1 : Int32)) = (0 : Int32) then qP else qF)), (.ref b240)])) _
      exact hq)
    have f248 : Old Z n0 h242 := (((f236.keep Kq237 all0).ext E240).keep Kq242 (allS (by omega) all0))
    have f249 : Sm Z h242 a221 := (smKeepP (smExt (smKeep0 (smKeep0 S221 Kq229) Kq237) E240) Kq242 A240 (hw _ (List.mem_of_getElem? (i := 37) rfl)))
    obtain ⟨_, T250, L250, X250, ⟨rfl, Nq250, Kq250, A250, hj250, u250, v250x, Fh250, Fp250, Ff250, ok1_250, ok2_250, nn250⟩, k250a⟩ := callV' X245 hx hZ237 (y := (⟨"com/example/huntaway/huntaway/Precedence", "offer", "(Lcom/example/huntaway/huntaway/Effect;JLjava/lang/String;)V"⟩ : MethodName)) (z := (⟨"com/example/huntaway/huntaway/Precedence", "offer", "(Lcom/example/huntaway/huntaway/Effect;JLjava/lang/String;)V"⟩ : MethodName)) hown237 (hw _ (List.mem_of_getElem? (i := 57) rfl)) (hw _ (List.mem_of_getElem? (i := 58) rfl)) (notFace_of_selects (args := #[]) (mvT hZ237 (hw _ (List.mem_of_getElem? (i := 60) rfl)))) (hw _ (List.mem_of_getElem? (i := 60) rfl)) (hw _ (List.mem_of_getElem? (i := 59) rfl)) (by decide) P2420 (backC (W := 0) (rm_off l Z a0 hw zc fm qF qP qI b240 (if (if (q &&& (4 : Int32)) = (0 : Int32) then (0 : Int32) else (1 : Int32)) = (0 : Int32) then qP else qF) a (-9223372036854775808 : Int64) a221 .null .null h242 n0 (by omega) S_c hzc S_f hfm S_F S_P S_I A_I f248 P2420 P2421 P2422 P2423 f249 (Or.inl rfl) (Or.inl rfl) (by omega) (Or.inr rfl)) hZ237 (hw _ (List.mem_of_getElem? (i := 61) rfl)) (hw _ (List.mem_of_getElem? (i := 38) rfl)) (by decide) (by decide)) e245 (argsL := [(.ref (if (if (q &&& (4 : Int32)) = (0 : Int32) then (0 : Int32) else (1 : Int32)) = (0 : Int32) then qP else qF)), (.long a), (.ref a221)]) (rest := []) rfl rfl pd_18 rfl (by rw [hml]; rfl) (hb hby at_148) (Nat.le_of_eq rfl) (by decide) (by decide) k247
    have k250 : To p.tables e below S0 (T250.setTop (mkF m 151 l246 [])) := k250a
    have N250 := N245.app Nq250
    obtain ⟨h250, e250⟩ : ∃ z, T250.heap = z := ⟨_, rfl⟩
    rw [e250] at Kq250 A250 Fh250 Fp250 Ff250 ok1_250 ok2_250
    have z250 : h242.size ≤ h250.size := Kq250.1
    have C250 := C242.trans (CHr.keep Kq250 (sfS (Safe.exa hZ237.alike P2420 (by decide) (by decide)) sf0) C242.1)
    have k251 : To p.tables e below S0 (T250.setTop (mkF m 158 l246 [(.ref b240)])) := fun tt hq => k250 tt (by
      show Steps _ _ _ (T250.setTop (mkF m 151 l246 [])) _
      refine XS.iload X250.here hx rfl (hb hby at_151) rfl ?_
      show Steps _ _ _ (T250.setTop (mkF m 153 l246 [(.int (1 : Int32))])) _
      refine XS.ifNo X250.here hx rfl (hb hby at_153) rfl ((if0 _ _).trans (feq (by decide)).1) ?_
      show Steps _ _ _ (T250.setTop (mkF m 156 l246 [])) _
      refine XS.aload X250.here hx rfl (hb hby at_156) rfl rfl ?_
      show Steps _ _ _ (T250.setTop (mkF m 158 l246 [(.ref b240)])) _
      exact hq)
    obtain ⟨_, T252, L252, X252, ⟨rfl, Nq252, eq252⟩, k252a⟩ := callV' X250 hx hZ237 (y := (⟨"com/example/huntaway/huntaway/Precedence", "isEmpty", "()Z"⟩ : MethodName)) (z := (⟨"com/example/huntaway/huntaway/Precedence", "isEmpty", "()Z"⟩ : MethodName)) hown237 (hw _ (List.mem_of_getElem? (i := 46) rfl)) (hw _ (List.mem_of_getElem? (i := 47) rfl)) (notFace_of_selects (args := #[]) (mvT hZ237 (hw _ (List.mem_of_getElem? (i := 49) rfl)))) (hw _ (List.mem_of_getElem? (i := 49) rfl)) (hw _ (List.mem_of_getElem? (i := 48) rfl)) (by decide) A250 (backC (W := 0) (rm_em l Z a0 hw b240 u250 v250x h250 n0 (by omega) Fp250 Ff250 (okRef ok1_250) (okRef ok2_250) nn250) hZ237 (hw _ (List.mem_of_getElem? (i := 50) rfl)) (hw _ (List.mem_of_getElem? (i := 38) rfl)) (by decide) (by decide)) e250 (argsL := []) (rest := []) rfl rfl pd_6 rfl (by rw [hml]; rfl) (hb hby at_158) (Nat.le_of_eq rfl) (by decide) (by decide) k251
    have k252 : To p.tables e below S0 (T252.setTop (mkF m 161 l246 [(.int (0 : Int32))])) := k252a
    have N252 := N250.app Nq252
    have e252 : T252.heap = h250 := eq252
    have k253 : To p.tables e below S0 (T252.setTop (mkF m 184 l246 [(.ref a229), (.long b), (.ref (if (if (q &&& (8 : Int32)) = (0 : Int32) then (0 : Int32) else (1 : Int32)) = (0 : Int32) then qP else qF)), (.ref b240)])) := fun tt hq => k252 tt (by
      show Steps _ _ _ (T252.setTop (mkF m 161 l246 [(.int (0 : Int32))])) _
      refine XS.ifNo X252.here hx rfl (hb hby at_161) rfl ((if0 _ _).trans (teq (by decide)).2) ?_
      show Steps _ _ _ (T252.setTop (mkF m 164 l246 [])) _
      refine XS.iconst X252.here hx rfl (hb hby at_164) ?_
      show Steps _ _ _ (T252.setTop (mkF m 165 l246 [(.int (1 : Int32))])) _
      refine XS.goto X252.here hx rfl (pc0 := 165) (pc' := 169) rfl (hb hby at_165) (by decide) (by decide) ?_
      show Steps _ _ _ (T252.setTop (mkF m 169 l246 [(.int (1 : Int32))])) _
      refine XS.istore X252.here hx rfl (hb hby at_169) rfl (l' := l246) rfl ?_
      show Steps _ _ _ (T252.setTop (mkF m 171 l246 [])) _
      refine XS.iload X252.here hx rfl (hb hby at_171) rfl ?_
      show Steps _ _ _ (T252.setTop (mkF m 173 l246 [(.int (3 : Int32))])) _
      refine XS.iconst X252.here hx rfl (hb hby at_173) ?_
      show Steps _ _ _ (T252.setTop (mkF m 174 l246 [(.int (2 : Int32)), (.int (3 : Int32))])) _
      refine XS.icmpNo X252.here hx rfl (hb hby at_174) rfl (flt (by decide)).1 ?_
      show Steps _ _ _ (T252.setTop (mkF m 177 l246 [])) _
      refine XS.aload X252.here hx rfl (hb hby at_177) rfl rfl ?_
      show Steps _ _ _ (T252.setTop (mkF m 179 l246 [(.ref b240)])) _
      refine XS.aload X252.here hx rfl (hb hby at_179) rfl rfl ?_
      show Steps _ _ _ (T252.setTop (mkF m 181 l246 [(.ref (if (if (q &&& (8 : Int32)) = (0 : Int32) then (0 : Int32) else (1 : Int32)) = (0 : Int32) then qP else qF)), (.ref b240)])) _
      refine XS.lloadN X252.here hx rfl (hb hby at_181) rfl ?_
      show Steps _ _ _ (T252.setTop (mkF m 182 l246 [(.long b), (.ref (if (if (q &&& (8 : Int32)) = (0 : Int32) then (0 : Int32) else (1 : Int32)) = (0 : Int32) then qP else qF)), (.ref b240)])) _
      refine XS.aload X252.here hx rfl (hb hby at_182) rfl rfl ?_
      show Steps _ _ _ (T252.setTop (mkF m 184 l246 [(.ref a229), (.long b), (.ref (if (if (q &&& (8 : Int32)) = (0 : Int32) then (0 : Int32) else (1 : Int32)) = (0 : Int32) then qP else qF)), (.ref b240)])) _
      exact hq)
    have f254 : Old Z n0 h250 := (f248.keep Kq250 (allS (by omega) all0))
    have f255 : Sm Z h250 a229 := (smKeepP (smKeepP (smExt (smKeep0 S229 Kq237) E240) Kq242 A240 (hw _ (List.mem_of_getElem? (i := 37) rfl))) Kq250 P2420 (hw _ (List.mem_of_getElem? (i := 37) rfl)))
    obtain ⟨_, T256, L256, X256, ⟨rfl, Nq256, Kq256, A256, hj256, u256, v256x, Fh256, Fp256, Ff256, ok1_256, ok2_256, nn256⟩, k256a⟩ := callV' X252 hx hZ237 (y := (⟨"com/example/huntaway/huntaway/Precedence", "offer", "(Lcom/example/huntaway/huntaway/Effect;JLjava/lang/String;)V"⟩ : MethodName)) (z := (⟨"com/example/huntaway/huntaway/Precedence", "offer", "(Lcom/example/huntaway/huntaway/Effect;JLjava/lang/String;)V"⟩ : MethodName)) hown237 (hw _ (List.mem_of_getElem? (i := 57) rfl)) (hw _ (List.mem_of_getElem? (i := 58) rfl)) (notFace_of_selects (args := #[]) (mvT hZ237 (hw _ (List.mem_of_getElem? (i := 60) rfl)))) (hw _ (List.mem_of_getElem? (i := 60) rfl)) (hw _ (List.mem_of_getElem? (i := 59) rfl)) (by decide) A250 (backC (W := 0) (rm_off l Z a0 hw zc fm qF qP qI b240 (if (if (q &&& (8 : Int32)) = (0 : Int32) then (0 : Int32) else (1 : Int32)) = (0 : Int32) then qP else qF) b hj250 a229 u250 v250x h250 n0 (by omega) S_c hzc S_f hfm S_F S_P S_I A_I f254 A250 Fh250 Fp250 Ff250 f255 ok1_250 ok2_250 (by omega) (Or.inl nn250)) hZ237 (hw _ (List.mem_of_getElem? (i := 61) rfl)) (hw _ (List.mem_of_getElem? (i := 38) rfl)) (by decide) (by decide)) e252 (argsL := [(.ref (if (if (q &&& (8 : Int32)) = (0 : Int32) then (0 : Int32) else (1 : Int32)) = (0 : Int32) then qP else qF)), (.long b), (.ref a229)]) (rest := []) rfl rfl pd_18 rfl (by rw [hml]; rfl) (hb hby at_184) (Nat.le_of_eq rfl) (by decide) (by decide) k253
    have k256 : To p.tables e below S0 (T256.setTop (mkF m 187 l246 [])) := k256a
    have N256 := N252.app Nq256
    obtain ⟨h256, e256⟩ : ∃ z, T256.heap = z := ⟨_, rfl⟩
    rw [e256] at Kq256 A256 Fh256 Fp256 Ff256 ok1_256 ok2_256
    have z256 : h250.size ≤ h256.size := Kq256.1
    have C256 := C250.trans (CHr.keep Kq256 (sfS (Safe.exa hZ237.alike A250 (by decide) (by decide)) sf0) C250.1)
    have k257 : To p.tables e below S0 (T256.setTop (mkF m 194 l246 [(.ref b240)])) := fun tt hq => k256 tt (by
      show Steps _ _ _ (T256.setTop (mkF m 187 l246 [])) _
      refine XS.iload X256.here hx rfl (hb hby at_187) rfl ?_
      show Steps _ _ _ (T256.setTop (mkF m 189 l246 [(.int (1 : Int32))])) _
      refine XS.ifNo X256.here hx rfl (hb hby at_189) rfl ((if0 _ _).trans (feq (by decide)).1) ?_
      show Steps _ _ _ (T256.setTop (mkF m 192 l246 [])) _
      refine XS.aload X256.here hx rfl (hb hby at_192) rfl rfl ?_
      show Steps _ _ _ (T256.setTop (mkF m 194 l246 [(.ref b240)])) _
      exact hq)
    obtain ⟨_, T258, L258, X258, ⟨rfl, Nq258, eq258⟩, k258a⟩ := callV' X256 hx hZ237 (y := (⟨"com/example/huntaway/huntaway/Precedence", "isEmpty", "()Z"⟩ : MethodName)) (z := (⟨"com/example/huntaway/huntaway/Precedence", "isEmpty", "()Z"⟩ : MethodName)) hown237 (hw _ (List.mem_of_getElem? (i := 46) rfl)) (hw _ (List.mem_of_getElem? (i := 47) rfl)) (notFace_of_selects (args := #[]) (mvT hZ237 (hw _ (List.mem_of_getElem? (i := 49) rfl)))) (hw _ (List.mem_of_getElem? (i := 49) rfl)) (hw _ (List.mem_of_getElem? (i := 48) rfl)) (by decide) A256 (backC (W := 0) (rm_em l Z a0 hw b240 u256 v256x h256 n0 (by omega) Fp256 Ff256 (okRef ok1_256) (okRef ok2_256) nn256) hZ237 (hw _ (List.mem_of_getElem? (i := 50) rfl)) (hw _ (List.mem_of_getElem? (i := 38) rfl)) (by decide) (by decide)) e256 (argsL := []) (rest := []) rfl rfl pd_6 rfl (by rw [hml]; rfl) (hb hby at_194) (Nat.le_of_eq rfl) (by decide) (by decide) k257
    have k258 : To p.tables e below S0 (T258.setTop (mkF m 197 l246 [(.int (0 : Int32))])) := k258a
    have N258 := N256.app Nq258
    have e258 : T258.heap = h256 := eq258
    have k259 : To p.tables e below S0 (T258.setTop (mkF m 221 l246 [(.ref a237), (.long d), (.ref (if (if (q &&& (16 : Int32)) = (0 : Int32) then (0 : Int32) else (1 : Int32)) = (0 : Int32) then qP else qF)), (.ref b240)])) := fun tt hq => k258 tt (by
      show Steps _ _ _ (T258.setTop (mkF m 197 l246 [(.int (0 : Int32))])) _
      refine XS.ifNo X258.here hx rfl (hb hby at_197) rfl ((if0 _ _).trans (teq (by decide)).2) ?_
      show Steps _ _ _ (T258.setTop (mkF m 200 l246 [])) _
      refine XS.iconst X258.here hx rfl (hb hby at_200) ?_
      show Steps _ _ _ (T258.setTop (mkF m 201 l246 [(.int (1 : Int32))])) _
      refine XS.goto X258.here hx rfl (pc0 := 201) (pc' := 205) rfl (hb hby at_201) (by decide) (by decide) ?_
      show Steps _ _ _ (T258.setTop (mkF m 205 l246 [(.int (1 : Int32))])) _
      refine XS.istore X258.here hx rfl (hb hby at_205) rfl (l' := l246) rfl ?_
      show Steps _ _ _ (T258.setTop (mkF m 207 l246 [])) _
      refine XS.iload X258.here hx rfl (hb hby at_207) rfl ?_
      show Steps _ _ _ (T258.setTop (mkF m 209 l246 [(.int (3 : Int32))])) _
      refine XS.iconst X258.here hx rfl (hb hby at_209) ?_
      show Steps _ _ _ (T258.setTop (mkF m 210 l246 [(.int (3 : Int32)), (.int (3 : Int32))])) _
      refine XS.icmpNo X258.here hx rfl (hb hby at_210) rfl (flt (by decide)).1 ?_
      show Steps _ _ _ (T258.setTop (mkF m 213 l246 [])) _
      refine XS.aload X258.here hx rfl (hb hby at_213) rfl rfl ?_
      show Steps _ _ _ (T258.setTop (mkF m 215 l246 [(.ref b240)])) _
      refine XS.aload X258.here hx rfl (hb hby at_215) rfl rfl ?_
      show Steps _ _ _ (T258.setTop (mkF m 217 l246 [(.ref (if (if (q &&& (16 : Int32)) = (0 : Int32) then (0 : Int32) else (1 : Int32)) = (0 : Int32) then qP else qF)), (.ref b240)])) _
      refine XS.lload X258.here hx rfl (hb hby at_217) rfl ?_
      show Steps _ _ _ (T258.setTop (mkF m 219 l246 [(.long d), (.ref (if (if (q &&& (16 : Int32)) = (0 : Int32) then (0 : Int32) else (1 : Int32)) = (0 : Int32) then qP else qF)), (.ref b240)])) _
      refine XS.aload X258.here hx rfl (hb hby at_219) rfl rfl ?_
      show Steps _ _ _ (T258.setTop (mkF m 221 l246 [(.ref a237), (.long d), (.ref (if (if (q &&& (16 : Int32)) = (0 : Int32) then (0 : Int32) else (1 : Int32)) = (0 : Int32) then qP else qF)), (.ref b240)])) _
      exact hq)
    have f260 : Old Z n0 h256 := (f254.keep Kq256 (allS (by omega) all0))
    have f261 : Sm Z h256 a237 := (smKeepP (smKeepP (smKeepP (smExt S237 E240) Kq242 A240 (hw _ (List.mem_of_getElem? (i := 37) rfl))) Kq250 P2420 (hw _ (List.mem_of_getElem? (i := 37) rfl))) Kq256 A250 (hw _ (List.mem_of_getElem? (i := 37) rfl)))
    obtain ⟨_, T262, L262, X262, ⟨rfl, Nq262, Kq262, A262, hj262, u262, v262x, Fh262, Fp262, Ff262, ok1_262, ok2_262, nn262⟩, k262a⟩ := callV' X258 hx hZ237 (y := (⟨"com/example/huntaway/huntaway/Precedence", "offer", "(Lcom/example/huntaway/huntaway/Effect;JLjava/lang/String;)V"⟩ : MethodName)) (z := (⟨"com/example/huntaway/huntaway/Precedence", "offer", "(Lcom/example/huntaway/huntaway/Effect;JLjava/lang/String;)V"⟩ : MethodName)) hown237 (hw _ (List.mem_of_getElem? (i := 57) rfl)) (hw _ (List.mem_of_getElem? (i := 58) rfl)) (notFace_of_selects (args := #[]) (mvT hZ237 (hw _ (List.mem_of_getElem? (i := 60) rfl)))) (hw _ (List.mem_of_getElem? (i := 60) rfl)) (hw _ (List.mem_of_getElem? (i := 59) rfl)) (by decide) A256 (backC (W := 0) (rm_off l Z a0 hw zc fm qF qP qI b240 (if (if (q &&& (16 : Int32)) = (0 : Int32) then (0 : Int32) else (1 : Int32)) = (0 : Int32) then qP else qF) d hj256 a237 u256 v256x h256 n0 (by omega) S_c hzc S_f hfm S_F S_P S_I A_I f260 A256 Fh256 Fp256 Ff256 f261 ok1_256 ok2_256 (by omega) (Or.inl nn256)) hZ237 (hw _ (List.mem_of_getElem? (i := 61) rfl)) (hw _ (List.mem_of_getElem? (i := 38) rfl)) (by decide) (by decide)) e258 (argsL := [(.ref (if (if (q &&& (16 : Int32)) = (0 : Int32) then (0 : Int32) else (1 : Int32)) = (0 : Int32) then qP else qF)), (.long d), (.ref a237)]) (rest := []) rfl rfl pd_18 rfl (by rw [hml]; rfl) (hb hby at_221) (Nat.le_of_eq rfl) (by decide) (by decide) k259
    have k262 : To p.tables e below S0 (T262.setTop (mkF m 224 l246 [])) := k262a
    have N262 := N258.app Nq262
    obtain ⟨h262, e262⟩ : ∃ z, T262.heap = z := ⟨_, rfl⟩
    rw [e262] at Kq262 A262 Fh262 Fp262 Ff262 ok1_262 ok2_262
    have z262 : h256.size ≤ h262.size := Kq262.1
    have C262 := C256.trans (CHr.keep Kq262 (sfS (Safe.exa hZ237.alike A256 (by decide) (by decide)) sf0) C256.1)
    have k263 : To p.tables e below S0 (T262.setTop (mkF m 231 l246 [(.ref b240)])) := fun tt hq => k262 tt (by
      show Steps _ _ _ (T262.setTop (mkF m 224 l246 [])) _
      refine XS.iload X262.here hx rfl (hb hby at_224) rfl ?_
      show Steps _ _ _ (T262.setTop (mkF m 226 l246 [(.int (1 : Int32))])) _
      refine XS.ifNo X262.here hx rfl (hb hby at_226) rfl ((if0 _ _).trans (feq (by decide)).1) ?_
      show Steps _ _ _ (T262.setTop (mkF m 229 l246 [])) _
      refine XS.aload X262.here hx rfl (hb hby at_229) rfl rfl ?_
      show Steps _ _ _ (T262.setTop (mkF m 231 l246 [(.ref b240)])) _
      exact hq)
    obtain ⟨_, T264, L264, X264, ⟨rfl, Nq264, eq264⟩, k264a⟩ := callV' X262 hx hZ237 (y := (⟨"com/example/huntaway/huntaway/Precedence", "isEmpty", "()Z"⟩ : MethodName)) (z := (⟨"com/example/huntaway/huntaway/Precedence", "isEmpty", "()Z"⟩ : MethodName)) hown237 (hw _ (List.mem_of_getElem? (i := 46) rfl)) (hw _ (List.mem_of_getElem? (i := 47) rfl)) (notFace_of_selects (args := #[]) (mvT hZ237 (hw _ (List.mem_of_getElem? (i := 49) rfl)))) (hw _ (List.mem_of_getElem? (i := 49) rfl)) (hw _ (List.mem_of_getElem? (i := 48) rfl)) (by decide) A262 (backC (W := 0) (rm_em l Z a0 hw b240 u262 v262x h262 n0 (by omega) Fp262 Ff262 (okRef ok1_262) (okRef ok2_262) nn262) hZ237 (hw _ (List.mem_of_getElem? (i := 50) rfl)) (hw _ (List.mem_of_getElem? (i := 38) rfl)) (by decide) (by decide)) e262 (argsL := []) (rest := []) rfl rfl pd_6 rfl (by rw [hml]; rfl) (hb hby at_231) (Nat.le_of_eq rfl) (by decide) (by decide) k263
    have k264 : To p.tables e below S0 (T264.setTop (mkF m 234 l246 [(.int (0 : Int32))])) := k264a
    have N264 := N262.app Nq264
    have e264 : T264.heap = h262 := eq264
    have k265 : To p.tables e below S0 (T264.setTop (mkF m 251 l246 [(.ref b240)])) := fun tt hq => k264 tt (by
      show Steps _ _ _ (T264.setTop (mkF m 234 l246 [(.int (0 : Int32))])) _
      refine XS.ifNo X264.here hx rfl (hb hby at_234) rfl ((if0 _ _).trans (teq (by decide)).2) ?_
      show Steps _ _ _ (T264.setTop (mkF m 237 l246 [])) _
      refine XS.iconst X264.here hx rfl (hb hby at_237) ?_
      show Steps _ _ _ (T264.setTop (mkF m 238 l246 [(.int (1 : Int32))])) _
      refine XS.goto X264.here hx rfl (pc0 := 238) (pc' := 242) rfl (hb hby at_238) (by decide) (by decide) ?_
      show Steps _ _ _ (T264.setTop (mkF m 242 l246 [(.int (1 : Int32))])) _
      refine XS.istore X264.here hx rfl (hb hby at_242) rfl (l' := l246) rfl ?_
      show Steps _ _ _ (T264.setTop (mkF m 244 l246 [])) _
      refine XS.iload X264.here hx rfl (hb hby at_244) rfl ?_
      show Steps _ _ _ (T264.setTop (mkF m 246 l246 [(.int (1 : Int32))])) _
      refine XS.ifNo X264.here hx rfl (hb hby at_246) rfl ((if0 _ _).trans (feq (by decide)).1) ?_
      show Steps _ _ _ (T264.setTop (mkF m 249 l246 [])) _
      refine XS.aload X264.here hx rfl (hb hby at_249) rfl rfl ?_
      show Steps _ _ _ (T264.setTop (mkF m 251 l246 [(.ref b240)])) _
      exact hq)
    obtain ⟨_, T266, L266, X266, ⟨rfl, Nq266, eq266⟩, k266a⟩ := callV' X264 hx hZ237 (y := (⟨"com/example/huntaway/huntaway/Precedence", "isEmpty", "()Z"⟩ : MethodName)) (z := (⟨"com/example/huntaway/huntaway/Precedence", "isEmpty", "()Z"⟩ : MethodName)) hown237 (hw _ (List.mem_of_getElem? (i := 46) rfl)) (hw _ (List.mem_of_getElem? (i := 47) rfl)) (notFace_of_selects (args := #[]) (mvT hZ237 (hw _ (List.mem_of_getElem? (i := 49) rfl)))) (hw _ (List.mem_of_getElem? (i := 49) rfl)) (hw _ (List.mem_of_getElem? (i := 48) rfl)) (by decide) A262 (backC (W := 0) (rm_em l Z a0 hw b240 u262 v262x h262 n0 (by omega) Fp262 Ff262 (okRef ok1_262) (okRef ok2_262) nn262) hZ237 (hw _ (List.mem_of_getElem? (i := 50) rfl)) (hw _ (List.mem_of_getElem? (i := 38) rfl)) (by decide) (by decide)) e264 (argsL := []) (rest := []) rfl rfl pd_6 rfl (by rw [hml]; rfl) (hb hby at_251) (Nat.le_of_eq rfl) (by decide) (by decide) k265
    have k266 : To p.tables e below S0 (T266.setTop (mkF m 254 l246 [(.int (0 : Int32))])) := k266a
    have N266 := N264.app Nq266
    have e266 : T266.heap = h262 := eq266
    have k267 : To p.tables e below S0 (T266.setTop (mkF m 276 l246 [(.int (1 : Int32))])) := fun tt hq => k266 tt (by
      show Steps _ _ _ (T266.setTop (mkF m 254 l246 [(.int (0 : Int32))])) _
      refine XS.iload X266.here hx rfl (hb hby at_254) rfl ?_
      show Steps _ _ _ (T266.setTop (mkF m 256 l246 [(.int (3 : Int32)), (.int (0 : Int32))])) _
      refine XS.ifYes X266.here hx rfl (pc0 := 256) (pc' := 263) rfl (hb hby at_256) rfl ((if0 _ _).trans (feq (by decide)).2) (by decide) (by decide) ?_
      show Steps _ _ _ (T266.setTop (mkF m 263 l246 [(.int (0 : Int32))])) _
      refine XS.iconst X266.here hx rfl (hb hby at_263) ?_
      show Steps _ _ _ (T266.setTop (mkF m 264 l246 [(.int (0 : Int32)), (.int (0 : Int32))])) _
      refine XS.icmpNo X266.here hx rfl (hb hby at_264) rfl (teq (by decide)).2 ?_
      show Steps _ _ _ (T266.setTop (mkF m 267 l246 [])) _
      refine XS.iconst X266.here hx rfl (hb hby at_267) ?_
      show Steps _ _ _ (T266.setTop (mkF m 268 l246 [(.int (1 : Int32))])) _
      refine XS.goto X266.here hx rfl (pc0 := 268) (pc' := 272) rfl (hb hby at_268) (by decide) (by decide) ?_
      show Steps _ _ _ (T266.setTop (mkF m 272 l246 [(.int (1 : Int32))])) _
      refine XS.istore X266.here hx rfl (hb hby at_272) rfl (l' := l246) rfl ?_
      show Steps _ _ _ (T266.setTop (mkF m 274 l246 [])) _
      refine XS.iload X266.here hx rfl (hb hby at_274) rfl ?_
      show Steps _ _ _ (T266.setTop (mkF m 276 l246 [(.int (1 : Int32))])) _
      exact hq)
    refine retIntW X266 hx hZ237 (own_EW hw) hS237 (by omega) C262 e266 hret hlk (by simp) rfl (hb hby at_276) k267 ?_ (by decide) (by decide)
    exact ⟨rfl, N266⟩
set_option maxRecDepth 65536 in
set_option maxHeartbeats 40000000 in
theorem comes_1 {Post : Tables → Env → Array Value → State → Outcome → State → Prop} (hpost : ∀ tb e args s v u, (limb_1_1.after args s (.returned v) u = true ∧ limb_1_2.after args s (.returned v) u = true ∧ True) → ReturnedEndW s (.returned v) u (Jvm.fieldLocs frame_1_writes args s ++ Jvm.arrayLocs frame_1_arrays args s ++ Jvm.staticLocs frame_1_statics s) 24 1152 → Post tb e args s (.returned v) u) :
    ArmFor flags0 classFile x code maxLocals ret World_1 tables_1 room_1 Calls_1 rest_1 Pre_1 Post := by
  intro l hfl _ _ p e ha hc hk s m args below hf hA hF happ hP
  obtain ⟨hcalls, hrest, hpre⟩ := hP
  obtain ⟨-, -, -, hnamed, -, -, -, hat⟩ := (Spec.applies_iff hf).mp happ
  obtain ⟨hg, hn⟩ := and_e (Cond.before_iff.mp (show (Jvm.Cond.and given_1 narrow_1).before args s = true from hpre))
  obtain ⟨u1, u2⟩ := and_e hg
  obtain ⟨u3, u4⟩ := and_e u2
  obtain ⟨u5, u6⟩ := and_e u4
  obtain ⟨u7, u8⟩ := and_e u6
  obtain ⟨u9, u10⟩ := and_e u8
  obtain ⟨u11, u12⟩ := and_e hn
  obtain ⟨u13, u14⟩ := and_e u12
  obtain ⟨u15, u16⟩ := and_e u14
  obtain ⟨u17, u18⟩ := and_e u16
  obtain ⟨w0, w1, w2, w3, w4, rfl⟩ : ∃ w0 w1 w2 w3 w4 : Value, args = #[w0, w1, w2, w3, w4] := by
    have hs : args.size = 5 := by simpa [Cond.value, given_1] using u1
    obtain ⟨L⟩ := args
    match L, hs with
    | [w0, w1, w2, w3, w4], _ => exact ⟨w0, w1, w2, w3, w4, rfl⟩
  have hw := fun d (hd : d ∈ tables_1) => atoms_spec (ws := Jvm.Cond.code x code maxLocals ret :: tables_1) hat d (List.mem_cons_of_mem _ hd)
  have hfit : Fit s := fun {y c} hc i hi => by
    obtain ⟨ha, rfl⟩ := Array.getElem?_eq_some_iff.mp hc
    have q := List.all_eq_true.mp ((Array.all_eq_true_iff_forall_mem.mp hF) _ (Array.getElem_mem ha)) i (List.mem_range.mpr hi)
    simpa [Array.getElem?_eq_getElem hi] using q
  obtain ⟨hsets, hown0⟩ := atoms_of _ (rest_1_c_eq ▸ (show rest_1_c.before _ s = true from hrest))
  obtain ⟨i0, ei0⟩ := is_v u3
  obtain rfl : w0 = (.int i0) := Option.some.inj ei0
  obtain ⟨i1, ei1⟩ := isL_v u5
  obtain rfl : w1 = (.long i1) := Option.some.inj ei1
  obtain ⟨i2, ei2⟩ := isL_v u7
  obtain rfl : w2 = (.long i2) := Option.some.inj ei2
  obtain ⟨i3, ei3⟩ := isL_v u9
  obtain rfl : w3 = (.long i3) := Option.some.inj ei3
  obtain ⟨i4, ei4⟩ := is_v u10
  obtain rfl : w4 = (.int i4) := Option.some.inj ei4
  obtain ⟨q_PERMIT, ev_PERMIT⟩ := exa_v u11
  have A_PERMIT := Exa.start ev_PERMIT u11
  have S_PERMIT := Sta.start ev_PERMIT (Or.inr ⟨(hw _ (List.mem_of_getElem? (i := 5) rfl)), (hw _ (List.mem_of_getElem? (i := 6) rfl))⟩)
  obtain ⟨q_FORBID, ev_FORBID⟩ := exa_v u13
  have A_FORBID := Exa.start ev_FORBID u13
  have S_FORBID := Sta.start ev_FORBID (Or.inr ⟨(hw _ (List.mem_of_getElem? (i := 5) rfl)), (hw _ (List.mem_of_getElem? (i := 56) rfl))⟩)
  obtain ⟨q_INSTANCE, ev_INSTANCE⟩ := exa_v u18
  have A_INSTANCE := Exa.start ev_INSTANCE u18
  have S_INSTANCE := Sta.start ev_INSTANCE (Or.inr ⟨(hw _ (List.mem_of_getElem? (i := 65) rfl)), (hw _ (List.mem_of_getElem? (i := 79) rfl))⟩)
  have F_PERMIT : Fld s s.heap q_PERMIT "java/lang/Enum" "ordinal" "I" (.int (0 : Int32)) := Fld.start (by rw [← fld_at (C := "java/lang/Enum") (n := "ordinal") (dd := "I") ev_PERMIT]; exact eqv_i (Term.int_eval _) u15)
  have F_FORBID : Fld s s.heap q_FORBID "java/lang/Enum" "ordinal" "I" (.int (1 : Int32)) := Fld.start (by rw [← fld_at (C := "java/lang/Enum") (n := "ordinal") (dd := "I") ev_FORBID]; exact eqv_i (Term.int_eval _) u17)
  obtain ⟨zc, ezc⟩ := is_v (Cond.before_iff.mp (hsets _ (List.mem_of_getElem? (i := 1) rfl)))
  have S_c := Sta.start ezc (Or.inl (hsets _ (List.mem_of_getElem? (i := 0) rfl)))
  have hzc : ¬ zc = (0 : Int32) := own_nz ezc (Cond.before_iff.mp (hsets _ (List.mem_of_getElem? (i := 2) rfl)))
  obtain ⟨fm, efm, hfm⟩ := isR_v (Cond.before_iff.mp (hsets _ (List.mem_of_getElem? (i := 8) rfl)))
  have S_f := Sta.start efm (Or.inl (hsets _ (List.mem_of_getElem? (i := 7) rfl)))
  obtain ⟨n, o, h1, h2, h3, _, L, rfl, ⟨rfl, N⟩, -, hq⟩ := rm0 l s _ hw zc fm q_FORBID q_PERMIT q_INSTANCE i0 i1 i2 i3 i4 s.heap s.heap.size (Nat.le_refl _) S_c hzc S_f hfm S_FORBID S_PERMIT S_INSTANCE A_INSTANCE (Old.start s) p e ha hc hk s m _ below hf ((Spec.applies_iff_loose hf).mp happ).1 ⟨rfl, State.Warmed39.refl s, rfl, (CHv.start (own_EW hw) (fun q hq => hcalls.1 q hq) (hsets _ (List.mem_of_getElem? (i := 2) rfl)) (hw _ (List.mem_of_getElem? (i := 24) rfl)) (hw _ (List.mem_of_getElem? (i := 20) rfl))), fun _ q => nomatch q⟩ trivial
  refine ⟨n, _, h1, h2, h3, hpost _ _ _ _ _ _ ⟨Cond.after_iff.mpr rfl, Cond.after_iff.mpr (eq_i res_at (Term.int_eval (1)) rfl), trivial⟩ ⟨hq.1, hq.2.1, hq.2.2.1, (hq.2.2.2.sift fun y hy => Or.inr (N y hy)).mono (by decide) (by decide)⟩⟩
theorem main_1_1 : Claimed_1_1 := comes_1 fun _ _ _ _ _ _ h hF => ⟨h.1, hF⟩
theorem main_1_2 : Claimed_1_2 := comes_1 fun _ _ _ _ _ _ h hF => ⟨h.2.1, hF⟩
end Jvm.Pilot.@@N@@
namespace Jvm.Pilot.@@N@@
open Jvm Jvm.ClassFile Sem Op Lib Jvm.Free Jvm.Stand Jvm.Pilot.@@N@@.Jvm.D
/-! MADE BY PROGRAM (witnessworld.py) out of the Statement's table words and the real class files: 26 classes; the members and pool entries that the words name. The judged class is class 1, her method 3. -/
namespace start1
open Jvm.ClassFile
def u (s : String) : CpInfo := .utf8 (stringToUtf16 s)
/-- a pool by its gaps: so many unusable entries, then the entry; so many at the end -/
def gap : Nat → List CpInfo → List CpInfo
  | 0, r => r
  | n + 1, r => .unusable :: gap n r
def poolList (es : List (Nat × CpInfo)) (last : Nat) : List CpInfo := es.foldr (fun e r => gap e.1 (e.2 :: r)) (gap last [])
def pool (es : List (Nat × CpInfo)) (last : Nat) : Array CpInfo := ⟨poolList es last⟩
def fileOf (pool : Array CpInfo) (this : Nat) (attrs : Array Attribute := #[]) (ms : Array MethodInfo := #[]) (fl : Nat := 33) (sup : Nat := 0) (ifs : Array Nat := #[]) (fds : Array FieldInfo := #[]) : ClassFile where
  minorVersion := 0
  majorVersion := 65
  constantPool := pool
  accessFlags := fl
  thisClass := this
  superClass := sup
  interfaces := ifs
  fields := fds
  methods := ms
  attributes := attrs
def plain (name : String) (sup : Option ClassId) : Class where
  name := name
  kind := .ordinary
  loader := none
  accessFlags := 33
  super := sup
  interfaces := #[]
  cf := none
  fields := #[]
  methods := #[]
  instanceTypes := #[]
  staticTypes := #[]
  resolved := #[]
  callSites := []
  init := .initialized
  statics := none
  mirror := none

def pool0 : Array CpInfo := pool [(5, u "<init>"), (0, u "()V"), (1, .class_ 10), (1, u "java/lang/Object")] 113

def k0c0 : Code := { maxStack := 0, maxLocals := 1, code := object_method_1_code, exceptionTable := #[], attributes := #[] }
def k0m0 : Method := { name := "<init>", desc := "()V", sig := { parameters := [], returnType := none }, accessFlags := 1, code := some k0c0 }
/-- java/lang/Object -/
def k0 : Class := { plain "java/lang/Object" none with
  accessFlags := 33
  interfaces := #[]
  cf := some (fileOf pool0 8 #[] #[{ accessFlags := 1, nameIndex := 5, descriptorIndex := 6, attributes := #[] }] 33 0 #[] #[])
  fields := #[]
  methods := #[k0m0]
  instanceTypes := #[]
  staticTypes := #[]
  resolved := Array.replicate 124 none
  statics := none }

def pool1 : Array CpInfo := pool [(2, .class_ 4), (0, .nameAndType 5 6), (0, u "java/lang/Object"), (0, u "<init>"), (0, u "()V"), (0, .class_ 8), (0, u "java/lang/String"), (0, .methodref 7 10), (0, .nameAndType 5 11), (0, u "([C)V"), (0, .methodref 7 13), (0, .nameAndType 14 15), (0, u "valueOf"), (0, u "(C)Ljava/lang/String;"), (0, .fieldref 17 18), (0, .class_ 19), (0, .nameAndType 20 21), (0, u "com/example/huntaway/huntaway/Effect"), (0, u "FORBID"), (0, u "Lcom/example/huntaway/huntaway/Effect;"), (0, .fieldref 17 23), (0, .nameAndType 24 21), (0, u "PERMIT"), (0, .methodref 26 27), (0, .class_ 28), (0, .nameAndType 29 30), (0, u "com/example/huntaway/huntaway/PrecedenceIsEmptyPinLaw"), (0, u "effect"), (0, u "(Z)Lcom/example/huntaway/huntaway/Effect;"), (0, .methodref 26 32), (0, .nameAndType 33 34), (0, u "name"), (0, u "(IZ)Ljava/lang/String;"), (0, .class_ 36), (0, u "com/example/huntaway/huntaway/Precedence"), (0, .methodref 35 3), (0, .methodref 35 39), (0, .nameAndType 40 41), (0, u "isEmpty"), (0, u "()Z"), (0, .methodref 35 43), (0, .nameAndType 44 45), (0, u "offer"), (0, u "(Lcom/example/huntaway/huntaway/Effect;JLjava/lang/String;)V"), (3, u "law"), (0, u "(IJJJI)Z")] 2

def k1m0 : Method := { name := "<init>", desc := "()V", sig := { parameters := [], returnType := none }, accessFlags := 2, code := none }
def k1c1 : Code := { maxStack := 3, maxLocals := 2, code := method_2_code, exceptionTable := #[], attributes := #[] }
def k1m1 : Method := { name := "name", desc := "(IZ)Ljava/lang/String;", sig := { parameters := [.int, .boolean], returnType := some (.object "java/lang/String") }, accessFlags := 10, code := some k1c1 }
def k1c2 : Code := { maxStack := 1, maxLocals := 1, code := method_3_code, exceptionTable := #[], attributes := #[] }
def k1m2 : Method := { name := "effect", desc := "(Z)Lcom/example/huntaway/huntaway/Effect;", sig := { parameters := [.boolean], returnType := some (.object "com/example/huntaway/huntaway/Effect") }, accessFlags := 10, code := some k1c2 }
def k1c3 : Code := { maxStack := 5, maxLocals := 17, code := code, exceptionTable := #[], attributes := #[] }
def k1m3 : Method := { name := "law", desc := "(IJJJI)Z", sig := { parameters := [.int, .long, .long, .long, .int], returnType := some .boolean }, accessFlags := 9, code := some k1c3 }
/-- com/example/huntaway/huntaway/PrecedenceIsEmptyPinLaw -/
def k1 : Class := { plain "com/example/huntaway/huntaway/PrecedenceIsEmptyPinLaw" (some 0) with
  accessFlags := 49
  interfaces := #[]
  cf := some (fileOf pool1 26 #[] #[{ accessFlags := 2, nameIndex := 5, descriptorIndex := 6, attributes := #[] }, { accessFlags := 10, nameIndex := 33, descriptorIndex := 34, attributes := #[] }, { accessFlags := 10, nameIndex := 29, descriptorIndex := 30, attributes := #[] }, { accessFlags := 9, nameIndex := 49, descriptorIndex := 50, attributes := #[] }] 49 2 #[] #[])
  fields := #[]
  methods := #[k1m0, k1m1, k1m2, k1m3]
  instanceTypes := #[]
  staticTypes := #[]
  resolved := Array.replicate 53 none
  statics := none }

def pool2 : Array CpInfo := pool [(1, .class_ 2), (0, u "java/lang/constant/Constable"), (0, .class_ 4), (0, u "java/lang/Object")] 6

/-- java/lang/constant/Constable -/
def k2 : Class := { plain "java/lang/constant/Constable" (some 0) with
  accessFlags := 1537
  interfaces := #[]
  cf := some (fileOf pool2 1 #[] #[] 1537 3 #[] #[])
  fields := #[]
  methods := #[]
  instanceTypes := #[]
  staticTypes := #[]
  resolved := Array.replicate 11 none
  statics := none }

def pool3 : Array CpInfo := pool [(1, .class_ 2), (0, u "java/lang/Comparable"), (0, .class_ 4), (0, u "java/lang/Object")] 7

/-- java/lang/Comparable -/
def k3 : Class := { plain "java/lang/Comparable" (some 0) with
  accessFlags := 1537
  interfaces := #[]
  cf := some (fileOf pool3 1 #[] #[] 1537 3 #[] #[])
  fields := #[]
  methods := #[]
  instanceTypes := #[]
  staticTypes := #[]
  resolved := Array.replicate 12 none
  statics := none }

def pool4 : Array CpInfo := pool [(1, .class_ 2), (0, u "java/io/Serializable"), (0, .class_ 4), (0, u "java/lang/Object")] 2

/-- java/io/Serializable -/
def k4 : Class := { plain "java/io/Serializable" (some 0) with
  accessFlags := 1537
  interfaces := #[]
  cf := some (fileOf pool4 1 #[] #[] 1537 3 #[] #[])
  fields := #[]
  methods := #[]
  instanceTypes := #[]
  staticTypes := #[]
  resolved := Array.replicate 7 none
  statics := none }

def pool5 : Array CpInfo := pool [(2, .class_ 4), (1, u "java/lang/Enum"), (0, u "name"), (0, u "Ljava/lang/String;"), (2, u "ordinal"), (0, u "I"), (1, .class_ 14), (1, u "java/lang/Object"), (4, u "hash"), (86, .class_ 108), (1, u "java/lang/Enum$EnumDesc"), (2, .class_ 112), (0, u "java/lang/constant/Constable"), (0, .class_ 114), (0, u "java/lang/Comparable"), (0, .class_ 116), (0, u "java/io/Serializable")] 87

/-- java/lang/Enum -/
def k5 : Class := { plain "java/lang/Enum" (some 0) with
  accessFlags := 1057
  interfaces := #[2, 3, 4]
  cf := some (fileOf pool5 2 #[.nestMembers #[106]] #[] 1057 12 #[111, 113, 115] #[{ accessFlags := 18, nameIndex := 5, descriptorIndex := 6, attributes := #[] }, { accessFlags := 18, nameIndex := 9, descriptorIndex := 10, attributes := #[] }, { accessFlags := 2, nameIndex := 19, descriptorIndex := 10, attributes := #[] }])
  fields := #[{ name := "name", type := (.object "java/lang/String"), accessFlags := 18, slot := 0, constantValue := 0 }, { name := "ordinal", type := .int, accessFlags := 18, slot := 1, constantValue := 0 }, { name := "hash", type := .int, accessFlags := 2, slot := 2, constantValue := 0 }]
  methods := #[]
  instanceTypes := #[(.object "java/lang/String"), .int, .int]
  staticTypes := #[]
  resolved := Array.replicate 204 none
  statics := none }

def pool6 : Array CpInfo := pool [(1, .class_ 2), (0, u "com/example/huntaway/huntaway/Effect"), (2, u "PERMIT"), (0, u "Lcom/example/huntaway/huntaway/Effect;"), (2, u "FORBID"), (2, u "$VALUES"), (0, u "[Lcom/example/huntaway/huntaway/Effect;"), (6, .class_ 22), (1, u "java/lang/Enum")] 24

/-- com/example/huntaway/huntaway/Effect -/
def k6 : Class := { plain "com/example/huntaway/huntaway/Effect" (some 5) with
  accessFlags := 16433
  interfaces := #[]
  cf := some (fileOf pool6 1 #[] #[] 16433 20 #[] #[{ accessFlags := 16409, nameIndex := 5, descriptorIndex := 6, attributes := #[] }, { accessFlags := 16409, nameIndex := 9, descriptorIndex := 6, attributes := #[] }, { accessFlags := 4122, nameIndex := 12, descriptorIndex := 13, attributes := #[] }])
  fields := #[{ name := "PERMIT", type := (.object "com/example/huntaway/huntaway/Effect"), accessFlags := 16409, slot := 0, constantValue := 0 }, { name := "FORBID", type := (.object "com/example/huntaway/huntaway/Effect"), accessFlags := 16409, slot := 1, constantValue := 0 }, { name := "$VALUES", type := (.array (.object "com/example/huntaway/huntaway/Effect")), accessFlags := 4122, slot := 2, constantValue := 0 }]
  methods := #[]
  instanceTypes := #[(.object "java/lang/String"), .int, .int]
  staticTypes := #[(.object "com/example/huntaway/huntaway/Effect"), (.object "com/example/huntaway/huntaway/Effect"), (.array (.object "com/example/huntaway/huntaway/Effect"))]
  resolved := Array.replicate 47 none
  statics := some 0 }

def pool7 : Array CpInfo := pool [(2, .class_ 4), (1, u "java/lang/CharSequence"), (42, .class_ 48), (0, u "java/lang/CharSequence$1CodePointIterator"), (10, .class_ 60), (0, u "java/lang/CharSequence$1CharIterator"), (5, .class_ 67), (0, u "java/lang/Object")] 63

/-- java/lang/CharSequence -/
def k7 : Class := { plain "java/lang/CharSequence" (some 0) with
  accessFlags := 1537
  interfaces := #[]
  cf := some (fileOf pool7 2 #[.nestMembers #[47, 59]] #[] 1537 66 #[] #[])
  fields := #[]
  methods := #[]
  instanceTypes := #[]
  staticTypes := #[]
  resolved := Array.replicate 131 none
  statics := none }

def pool8 : Array CpInfo := pool [(1, .class_ 2), (0, u "java/lang/constant/ConstantDesc"), (0, .class_ 4), (0, u "java/lang/Object")] 32

/-- java/lang/constant/ConstantDesc -/
def k8 : Class := { plain "java/lang/constant/ConstantDesc" (some 0) with
  accessFlags := 1537
  interfaces := #[]
  cf := some (fileOf pool8 1 #[] #[] 1537 3 #[] #[])
  fields := #[]
  methods := #[]
  instanceTypes := #[]
  staticTypes := #[]
  resolved := Array.replicate 37 none
  statics := none }

def pool9 : Array CpInfo := pool [(1, .methodref 2 3), (0, .class_ 4), (0, .nameAndType 5 6), (0, u "java/lang/Object"), (0, u "<init>"), (0, u "()V"), (0, .string 8), (0, u ""), (0, .fieldref 10 11), (0, .class_ 12), (0, .nameAndType 13 14), (0, u "java/lang/String"), (0, u "value"), (0, u "[B"), (0, .fieldref 10 16), (0, .nameAndType 17 18), (0, u "coder"), (0, u "B"), (2, u "hash"), (0, u "I"), (2, u "hashIsZero"), (0, u "Z"), (0, .methodref 10 28), (0, .nameAndType 5 29), (0, u "([CIILjava/lang/Void;)V"), (8, .fieldref 10 39), (0, .nameAndType 40 26), (0, u "COMPACT_STRINGS"), (12, u "toBytes"), (53, .class_ 109), (1, u "java/lang/StringLatin1"), (32, u "()Z"), (66, .methodref 10 210), (0, .nameAndType 5 211), (0, u "([BB)V"), (122, u "()I"), (0, .methodref 10 336), (0, .nameAndType 17 337), (0, u "()B"), (31, u "(C)Z"), (21, u "(II)V"), (100, .methodref 10 493), (0, .nameAndType 494 142), (0, u "isLatin1"), (4, .methodref 10 500), (0, .nameAndType 501 391), (0, u "checkIndex"), (2, u "codePointAt"), (2, u "length"), (67, .class_ 576), (0, u "java/lang/CharSequence"), (22, u "CASE_INSENSITIVE_ORDER"), (0, u "Ljava/util/Comparator;"), (164, u "(I)I"), (16, u "valueOf"), (0, u "(C)Ljava/lang/String;"), (226, u "([C)V"), (4, .methodref 107 1016), (0, .nameAndType 1017 369), (0, u "canEncode"), (0, .methodref 107 1019), (0, .nameAndType 53 1020), (0, u "(C)[B"), (32, .fieldref 1054 1055), (0, .class_ 1056), (0, .nameAndType 1057 1058), (0, u "jdk/internal/util/Preconditions"), (0, u "SIOOBE_FORMATTER"), (0, u "Ljava/util/function/BiFunction;"), (0, .methodref 1054 1060), (0, .nameAndType 501 1061), (0, u "(IILjava/util/function/BiFunction;)I"), (39, u "serialPersistentFields"), (0, u "[Ljava/io/ObjectStreamField;"), (0, .class_ 1104), (0, u "java/lang/String$CaseInsensitiveComparator"), (1, .class_ 1107), (0, u "java/io/Serializable"), (0, .class_ 1109), (0, u "java/lang/Comparable"), (0, .class_ 1111), (0, u "java/lang/constant/Constable"), (0, .class_ 1113), (0, u "java/lang/constant/ConstantDesc"), (2, u "serialVersionUID"), (0, u "J"), (3, u "REPL"), (0, u "C"), (2, u "LATIN1"), (1, u "UTF16")] 323

def k9m0 : Method := { name := "<init>", desc := "()V", sig := { parameters := [], returnType := none }, accessFlags := 1, code := none }
def k9c1 : Code := { maxStack := 5, maxLocals := 2, code := jdk_42_method_3_code, exceptionTable := #[], attributes := #[] }
def k9m1 : Method := { name := "<init>", desc := "([C)V", sig := { parameters := [(.array .char)], returnType := none }, accessFlags := 1, code := some k9c1 }
def k9c2 : Code := { maxStack := 2, maxLocals := 1, code := jdk_42_method_54_code, exceptionTable := #[], attributes := #[] }
def k9m2 : Method := { name := "length", desc := "()I", sig := { parameters := [], returnType := some .int }, accessFlags := 1, code := some k9c2 }
def k9c3 : Code := { maxStack := 3, maxLocals := 3, code := jdk_42_method_57_code, exceptionTable := #[], attributes := #[] }
def k9m3 : Method := { name := "codePointAt", desc := "(I)I", sig := { parameters := [.int], returnType := some .int }, accessFlags := 1, code := some k9c3 }
def k9c4 : Code := { maxStack := 4, maxLocals := 1, code := jdk_42_method_139_code, exceptionTable := #[], attributes := #[] }
def k9m4 : Method := { name := "valueOf", desc := "(C)Ljava/lang/String;", sig := { parameters := [.char], returnType := some (.object "java/lang/String") }, accessFlags := 9, code := some k9c4 }
def k9c5 : Code := { maxStack := 4, maxLocals := 6, code := jdk_42_method_149_code, exceptionTable := #[], attributes := #[] }
def k9m5 : Method := { name := "<init>", desc := "([CIILjava/lang/Void;)V", sig := { parameters := [(.array .char), .int, .int, (.object "java/lang/Void")], returnType := none }, accessFlags := 2, code := some k9c5 }
def k9c6 : Code := { maxStack := 2, maxLocals := 3, code := jdk_42_method_151_code, exceptionTable := #[], attributes := #[] }
def k9m6 : Method := { name := "<init>", desc := "([BB)V", sig := { parameters := [(.array .byte), .byte], returnType := none }, accessFlags := 0, code := some k9c6 }
def k9c7 : Code := { maxStack := 1, maxLocals := 1, code := jdk_42_method_152_code, exceptionTable := #[], attributes := #[] }
def k9m7 : Method := { name := "coder", desc := "()B", sig := { parameters := [], returnType := some .byte }, accessFlags := 0, code := some k9c7 }
def k9c8 : Code := { maxStack := 1, maxLocals := 1, code := jdk_42_method_154_code, exceptionTable := #[], attributes := #[] }
def k9m8 : Method := { name := "isLatin1", desc := "()Z", sig := { parameters := [], returnType := some .boolean }, accessFlags := 0, code := some k9c8 }
def k9c9 : Code := { maxStack := 3, maxLocals := 2, code := jdk_42_method_155_code, exceptionTable := #[], attributes := #[] }
def k9m9 : Method := { name := "checkIndex", desc := "(II)V", sig := { parameters := [.int, .int], returnType := none }, accessFlags := 8, code := some k9c9 }
/-- java/lang/String -/
def k9 : Class := { plain "java/lang/String" (some 0) with
  accessFlags := 49
  interfaces := #[4, 3, 7, 2, 8]
  cf := some (fileOf pool9 10 #[.nestMembers #[1103]] #[{ accessFlags := 1, nameIndex := 5, descriptorIndex := 6, attributes := #[] }, { accessFlags := 1, nameIndex := 5, descriptorIndex := 1010, attributes := #[] }, { accessFlags := 1, nameIndex := 507, descriptorIndex := 334, attributes := #[] }, { accessFlags := 1, nameIndex := 504, descriptorIndex := 765, attributes := #[] }, { accessFlags := 9, nameIndex := 782, descriptorIndex := 783, attributes := #[] }, { accessFlags := 2, nameIndex := 5, descriptorIndex := 29, attributes := #[] }, { accessFlags := 0, nameIndex := 5, descriptorIndex := 211, attributes := #[] }, { accessFlags := 0, nameIndex := 17, descriptorIndex := 337, attributes := #[] }, { accessFlags := 0, nameIndex := 494, descriptorIndex := 142, attributes := #[] }, { accessFlags := 8, nameIndex := 501, descriptorIndex := 391, attributes := #[] }] 49 2 #[1106, 1108, 575, 1110, 1112] #[{ accessFlags := 18, nameIndex := 13, descriptorIndex := 14, attributes := #[] }, { accessFlags := 18, nameIndex := 17, descriptorIndex := 18, attributes := #[] }, { accessFlags := 2, nameIndex := 21, descriptorIndex := 22, attributes := #[] }, { accessFlags := 2, nameIndex := 25, descriptorIndex := 26, attributes := #[] }, { accessFlags := 26, nameIndex := 1116, descriptorIndex := 1117, attributes := #[] }, { accessFlags := 24, nameIndex := 40, descriptorIndex := 26, attributes := #[] }, { accessFlags := 26, nameIndex := 1101, descriptorIndex := 1102, attributes := #[] }, { accessFlags := 26, nameIndex := 1121, descriptorIndex := 1122, attributes := #[] }, { accessFlags := 25, nameIndex := 599, descriptorIndex := 600, attributes := #[] }, { accessFlags := 24, nameIndex := 1125, descriptorIndex := 18, attributes := #[] }, { accessFlags := 24, nameIndex := 1127, descriptorIndex := 18, attributes := #[] }])
  fields := #[{ name := "value", type := (.array .byte), accessFlags := 18, slot := 0, constantValue := 0 }, { name := "coder", type := .byte, accessFlags := 18, slot := 1, constantValue := 0 }, { name := "hash", type := .int, accessFlags := 2, slot := 2, constantValue := 0 }, { name := "hashIsZero", type := .boolean, accessFlags := 2, slot := 3, constantValue := 0 }, { name := "serialVersionUID", type := .long, accessFlags := 26, slot := 0, constantValue := 0 }, { name := "COMPACT_STRINGS", type := .boolean, accessFlags := 24, slot := 1, constantValue := 0 }, { name := "serialPersistentFields", type := (.array (.object "java/io/ObjectStreamField")), accessFlags := 26, slot := 2, constantValue := 0 }, { name := "REPL", type := .char, accessFlags := 26, slot := 3, constantValue := 0 }, { name := "CASE_INSENSITIVE_ORDER", type := (.object "java/util/Comparator"), accessFlags := 25, slot := 4, constantValue := 0 }, { name := "LATIN1", type := .byte, accessFlags := 24, slot := 5, constantValue := 0 }, { name := "UTF16", type := .byte, accessFlags := 24, slot := 6, constantValue := 0 }]
  methods := #[k9m0, k9m1, k9m2, k9m3, k9m4, k9m5, k9m6, k9m7, k9m8, k9m9]
  instanceTypes := #[(.array .byte), .byte, .int, .boolean]
  staticTypes := #[.long, .boolean, (.array (.object "java/io/ObjectStreamField")), .char, (.object "java/util/Comparator"), .byte, .byte]
  resolved := Array.replicate 1451 none
  statics := some 1 }

def pool10 : Array CpInfo := pool [(4, .class_ 6), (1, u "java/lang/Object"), (0, u "<init>"), (0, u "()V"), (5, .class_ 16), (1, u "java/lang/StringLatin1"), (73, u "canEncode"), (14, u "(C)Z"), (15, u "$assertionsDisabled"), (0, u "Z"), (98, .class_ 223), (1, u "java/lang/StringLatin1$LinesSpliterator"), (156, u "toBytes"), (1, u "(C)[B"), (7, .class_ 391), (0, u "java/lang/StringLatin1$CharsSpliterator")] 3

def k10m0 : Method := { name := "<init>", desc := "()V", sig := { parameters := [], returnType := none }, accessFlags := 0, code := none }
def k10c1 : Code := { maxStack := 2, maxLocals := 1, code := jdk_43_method_3_code, exceptionTable := #[], attributes := #[] }
def k10m1 : Method := { name := "canEncode", desc := "(C)Z", sig := { parameters := [.char], returnType := some .boolean }, accessFlags := 9, code := some k10c1 }
def k10c2 : Code := { maxStack := 4, maxLocals := 1, code := jdk_43_method_46_code, exceptionTable := #[], attributes := #[] }
def k10m2 : Method := { name := "toBytes", desc := "(C)[B", sig := { parameters := [.char], returnType := some (.array .byte) }, accessFlags := 9, code := some k10c2 }
/-- java/lang/StringLatin1 -/
def k10 : Class := { plain "java/lang/StringLatin1" (some 0) with
  accessFlags := 48
  interfaces := #[]
  cf := some (fileOf pool10 14 #[.nestMembers #[390, 221]] #[{ accessFlags := 0, nameIndex := 7, descriptorIndex := 8, attributes := #[] }, { accessFlags := 9, nameIndex := 90, descriptorIndex := 105, attributes := #[] }, { accessFlags := 9, nameIndex := 380, descriptorIndex := 382, attributes := #[] }] 48 4 #[] #[{ accessFlags := 4120, nameIndex := 121, descriptorIndex := 122, attributes := #[] }])
  fields := #[{ name := "$assertionsDisabled", type := .boolean, accessFlags := 4120, slot := 0, constantValue := 0 }]
  methods := #[k10m0, k10m1, k10m2]
  instanceTypes := #[]
  staticTypes := #[.boolean]
  resolved := Array.replicate 395 none
  statics := none }

def pool11 : Array CpInfo := pool [(1, .methodref 2 3), (0, .class_ 4), (0, .nameAndType 5 6), (0, u "java/lang/Object"), (0, u "<init>"), (0, u "()V"), (2, .long 9223372036854775808), (1, .fieldref 12 13), (0, .class_ 14), (0, .nameAndType 15 16), (0, u "com/example/huntaway/huntaway/Precedence"), (0, u "highest"), (0, u "J"), (0, .fieldref 12 18), (0, .nameAndType 19 20), (0, u "permitting"), (0, u "Ljava/lang/String;"), (0, .fieldref 12 22), (0, .nameAndType 23 20), (0, u "forbidding"), (0, .fieldref 25 26), (0, .class_ 27), (0, .nameAndType 28 29), (0, u "com/example/huntaway/huntaway/Effect"), (0, u "FORBID"), (0, u "Lcom/example/huntaway/huntaway/Effect;"), (0, .methodref 31 32), (0, .class_ 33), (0, .nameAndType 34 35), (0, u "com/example/huntaway/huntaway/CodePointOrder"), (0, u "min"), (0, u "(Ljava/lang/String;Ljava/lang/String;)Ljava/lang/String;"), (20, u "offer"), (0, u "(Lcom/example/huntaway/huntaway/Effect;JLjava/lang/String;)V"), (0, u "isEmpty"), (0, u "()Z")] 4

def k11c0 : Code := { maxStack := 3, maxLocals := 1, code := prog_9_method_1_code, exceptionTable := #[], attributes := #[] }
def k11m0 : Method := { name := "<init>", desc := "()V", sig := { parameters := [], returnType := none }, accessFlags := 0, code := some k11c0 }
def k11c1 : Code := { maxStack := 4, maxLocals := 5, code := prog_9_method_3_code, exceptionTable := #[], attributes := #[] }
def k11m1 : Method := { name := "offer", desc := "(Lcom/example/huntaway/huntaway/Effect;JLjava/lang/String;)V", sig := { parameters := [(.object "com/example/huntaway/huntaway/Effect"), .long, (.object "java/lang/String")], returnType := none }, accessFlags := 0, code := some k11c1 }
def k11c2 : Code := { maxStack := 1, maxLocals := 1, code := prog_9_method_4_code, exceptionTable := #[], attributes := #[] }
def k11m2 : Method := { name := "isEmpty", desc := "()Z", sig := { parameters := [], returnType := some .boolean }, accessFlags := 0, code := some k11c2 }
/-- com/example/huntaway/huntaway/Precedence -/
def k11 : Class := { plain "com/example/huntaway/huntaway/Precedence" (some 0) with
  accessFlags := 48
  interfaces := #[]
  cf := some (fileOf pool11 12 #[] #[{ accessFlags := 0, nameIndex := 5, descriptorIndex := 6, attributes := #[] }, { accessFlags := 0, nameIndex := 56, descriptorIndex := 57, attributes := #[] }, { accessFlags := 0, nameIndex := 58, descriptorIndex := 59, attributes := #[] }] 48 2 #[] #[{ accessFlags := 2, nameIndex := 15, descriptorIndex := 16, attributes := #[] }, { accessFlags := 2, nameIndex := 19, descriptorIndex := 20, attributes := #[] }, { accessFlags := 2, nameIndex := 23, descriptorIndex := 20, attributes := #[] }])
  fields := #[{ name := "highest", type := .long, accessFlags := 2, slot := 0, constantValue := 0 }, { name := "permitting", type := (.object "java/lang/String"), accessFlags := 2, slot := 1, constantValue := 0 }, { name := "forbidding", type := (.object "java/lang/String"), accessFlags := 2, slot := 2, constantValue := 0 }]
  methods := #[k11m0, k11m1, k11m2]
  instanceTypes := #[.long, (.object "java/lang/String"), (.object "java/lang/String")]
  staticTypes := #[]
  resolved := Array.replicate 64 none
  statics := none }

def pool12 : Array CpInfo := pool [(19, .class_ 20), (0, u "java/util/Comparator"), (84, .class_ 106), (0, u "java/lang/Object")] 181

/-- java/util/Comparator -/
def k12 : Class := { plain "java/util/Comparator" (some 0) with
  accessFlags := 1537
  interfaces := #[]
  cf := some (fileOf pool12 19 #[] #[] 1537 105 #[] #[])
  fields := #[]
  methods := #[]
  instanceTypes := #[]
  staticTypes := #[]
  resolved := Array.replicate 288 none
  statics := none }

def pool13 : Array CpInfo := pool [(2, .class_ 4), (1, u "java/lang/Object"), (0, u "<init>"), (0, u "()V"), (0, .methodref 8 9), (0, .class_ 10), (0, .nameAndType 11 12), (0, u "java/lang/String"), (0, u "length"), (0, u "()I"), (0, .methodref 8 14), (0, .nameAndType 15 16), (0, u "codePointAt"), (0, u "(I)I"), (0, .methodref 18 19), (0, .class_ 20), (0, .nameAndType 21 22), (0, u "java/lang/Integer"), (0, u "compare"), (0, u "(II)I"), (0, .methodref 24 25), (0, .class_ 26), (0, .nameAndType 27 16), (0, u "java/lang/Character"), (0, u "charCount"), (0, .fieldref 29 30), (0, .class_ 31), (0, .nameAndType 32 33), (0, u "com/example/huntaway/huntaway/CodePointOrder"), (0, u "INSTANCE"), (0, u "Lcom/example/huntaway/huntaway/CodePointOrder;"), (0, .methodref 29 35), (0, .nameAndType 21 36), (0, u "(Ljava/lang/String;Ljava/lang/String;)I"), (10, .class_ 48), (0, u "java/util/Comparator"), (3, u "min"), (0, u "(Ljava/lang/String;Ljava/lang/String;)Ljava/lang/String;")] 10

def k13m0 : Method := { name := "<init>", desc := "()V", sig := { parameters := [], returnType := none }, accessFlags := 2, code := none }
def k13c1 : Code := { maxStack := 3, maxLocals := 7, code := prog_1_method_2_code, exceptionTable := #[], attributes := #[] }
def k13m1 : Method := { name := "compare", desc := "(Ljava/lang/String;Ljava/lang/String;)I", sig := { parameters := [(.object "java/lang/String"), (.object "java/lang/String")], returnType := some .int }, accessFlags := 1, code := some k13c1 }
def k13c2 : Code := { maxStack := 3, maxLocals := 2, code := prog_1_method_3_code, exceptionTable := #[], attributes := #[] }
def k13m2 : Method := { name := "min", desc := "(Ljava/lang/String;Ljava/lang/String;)Ljava/lang/String;", sig := { parameters := [(.object "java/lang/String"), (.object "java/lang/String")], returnType := some (.object "java/lang/String") }, accessFlags := 8, code := some k13c2 }
/-- com/example/huntaway/huntaway/CodePointOrder -/
def k13 : Class := { plain "com/example/huntaway/huntaway/CodePointOrder" (some 0) with
  accessFlags := 48
  interfaces := #[12]
  cf := some (fileOf pool13 29 #[] #[{ accessFlags := 2, nameIndex := 5, descriptorIndex := 6, attributes := #[] }, { accessFlags := 1, nameIndex := 21, descriptorIndex := 36, attributes := #[] }, { accessFlags := 8, nameIndex := 52, descriptorIndex := 53, attributes := #[] }] 48 2 #[47] #[{ accessFlags := 24, nameIndex := 32, descriptorIndex := 33, attributes := #[] }])
  fields := #[{ name := "INSTANCE", type := (.object "com/example/huntaway/huntaway/CodePointOrder"), accessFlags := 24, slot := 0, constantValue := 0 }]
  methods := #[k13m0, k13m1, k13m2]
  instanceTypes := #[]
  staticTypes := #[(.object "com/example/huntaway/huntaway/CodePointOrder")]
  resolved := Array.replicate 64 none
  statics := some 2 }

def pool14 : Array CpInfo := pool [(2, .class_ 4), (1, u "java/lang/Object"), (0, u "<init>"), (0, u "()V"), (17, .class_ 26), (1, u "jdk/internal/util/Preconditions"), (6, u "checkIndex"), (21, .class_ 56), (0, u "jdk/internal/util/Preconditions$4"), (57, .class_ 115), (0, u "jdk/internal/util/Preconditions$1"), (7, u "SIOOBE_FORMATTER"), (0, u "Ljava/util/function/BiFunction;"), (0, .class_ 126), (0, u "jdk/internal/util/Preconditions$2"), (3, u "AIOOBE_FORMATTER"), (0, .class_ 132), (0, u "jdk/internal/util/Preconditions$3"), (3, u "IOOBE_FORMATTER"), (41, u "(IILjava/util/function/BiFunction;)I")] 15

def k14m0 : Method := { name := "<init>", desc := "()V", sig := { parameters := [], returnType := none }, accessFlags := 1, code := none }
def k14c1 : Code := { maxStack := 3, maxLocals := 3, code := jdk_41_method_11_code, exceptionTable := #[], attributes := #[] }
def k14m1 : Method := { name := "checkIndex", desc := "(IILjava/util/function/BiFunction;)I", sig := { parameters := [.int, .int, (.object "java/util/function/BiFunction")], returnType := some .int }, accessFlags := 9, code := some k14c1 }
/-- jdk/internal/util/Preconditions -/
def k14 : Class := { plain "jdk/internal/util/Preconditions" (some 0) with
  accessFlags := 33
  interfaces := #[]
  cf := some (fileOf pool14 24 #[.nestMembers #[55, 131, 125, 114]] #[{ accessFlags := 1, nameIndex := 5, descriptorIndex := 6, attributes := #[] }, { accessFlags := 9, nameIndex := 33, descriptorIndex := 178, attributes := #[] }] 33 2 #[] #[{ accessFlags := 25, nameIndex := 123, descriptorIndex := 124, attributes := #[] }, { accessFlags := 25, nameIndex := 130, descriptorIndex := 124, attributes := #[] }, { accessFlags := 25, nameIndex := 136, descriptorIndex := 124, attributes := #[] }])
  fields := #[{ name := "SIOOBE_FORMATTER", type := (.object "java/util/function/BiFunction"), accessFlags := 25, slot := 0, constantValue := 0 }, { name := "AIOOBE_FORMATTER", type := (.object "java/util/function/BiFunction"), accessFlags := 25, slot := 1, constantValue := 0 }, { name := "IOOBE_FORMATTER", type := (.object "java/util/function/BiFunction"), accessFlags := 25, slot := 2, constantValue := 0 }]
  methods := #[k14m0, k14m1]
  instanceTypes := #[]
  staticTypes := #[(.object "java/util/function/BiFunction"), (.object "java/util/function/BiFunction"), (.object "java/util/function/BiFunction")]
  resolved := Array.replicate 194 none
  statics := some 3 }

def pool15 : Array CpInfo := pool [(1, .class_ 2), (0, u "java/lang/Character"), (18, u "value"), (0, u "C"), (19, .class_ 44), (1, u "java/lang/Object"), (3, .class_ 50), (1, u "java/lang/Character$CharacterCache"), (22, .integer 65536), (100, u "(I)I"), (109, u "$assertionsDisabled"), (0, u "Z"), (21, .class_ 309), (1, u "java/lang/Character$UnicodeBlock"), (73, u "TYPE"), (0, u "Ljava/lang/Class;"), (0, .class_ 386), (0, u "java/io/Serializable"), (0, .class_ 388), (0, u "java/lang/Comparable"), (0, .class_ 390), (0, u "java/lang/constant/Constable"), (0, u "MIN_RADIX"), (0, u "I"), (2, u "MAX_RADIX"), (1, u "MIN_VALUE"), (1, u "MAX_VALUE"), (3, u "UNASSIGNED"), (0, u "B"), (0, u "UPPERCASE_LETTER"), (1, u "LOWERCASE_LETTER"), (0, u "TITLECASE_LETTER"), (1, u "MODIFIER_LETTER"), (1, u "OTHER_LETTER"), (1, u "NON_SPACING_MARK"), (1, u "ENCLOSING_MARK"), (1, u "COMBINING_SPACING_MARK"), (1, u "DECIMAL_DIGIT_NUMBER"), (1, u "LETTER_NUMBER"), (1, u "OTHER_NUMBER"), (1, u "SPACE_SEPARATOR"), (1, u "LINE_SEPARATOR"), (1, u "PARAGRAPH_SEPARATOR"), (1, u "CONTROL"), (1, u "FORMAT"), (1, u "PRIVATE_USE"), (1, u "SURROGATE"), (1, u "DASH_PUNCTUATION"), (1, u "START_PUNCTUATION"), (1, u "END_PUNCTUATION"), (1, u "CONNECTOR_PUNCTUATION"), (1, u "OTHER_PUNCTUATION"), (1, u "MATH_SYMBOL"), (1, u "CURRENCY_SYMBOL"), (1, u "MODIFIER_SYMBOL"), (1, u "OTHER_SYMBOL"), (1, u "INITIAL_QUOTE_PUNCTUATION"), (1, u "FINAL_QUOTE_PUNCTUATION"), (1, u "ERROR"), (1, u "DIRECTIONALITY_UNDEFINED"), (0, u "DIRECTIONALITY_LEFT_TO_RIGHT"), (0, u "DIRECTIONALITY_RIGHT_TO_LEFT"), (0, u "DIRECTIONALITY_RIGHT_TO_LEFT_ARABIC"), (0, u "DIRECTIONALITY_EUROPEAN_NUMBER"), (0, u "DIRECTIONALITY_EUROPEAN_NUMBER_SEPARATOR"), (0, u "DIRECTIONALITY_EUROPEAN_NUMBER_TERMINATOR"), (0, u "DIRECTIONALITY_ARABIC_NUMBER"), (0, u "DIRECTIONALITY_COMMON_NUMBER_SEPARATOR"), (0, u "DIRECTIONALITY_NONSPACING_MARK"), (0, u "DIRECTIONALITY_BOUNDARY_NEUTRAL"), (0, u "DIRECTIONALITY_PARAGRAPH_SEPARATOR"), (0, u "DIRECTIONALITY_SEGMENT_SEPARATOR"), (0, u "DIRECTIONALITY_WHITESPACE"), (0, u "DIRECTIONALITY_OTHER_NEUTRALS"), (0, u "DIRECTIONALITY_LEFT_TO_RIGHT_EMBEDDING"), (0, u "DIRECTIONALITY_LEFT_TO_RIGHT_OVERRIDE"), (0, u "DIRECTIONALITY_RIGHT_TO_LEFT_EMBEDDING"), (0, u "DIRECTIONALITY_RIGHT_TO_LEFT_OVERRIDE"), (1, u "DIRECTIONALITY_POP_DIRECTIONAL_FORMAT"), (0, u "DIRECTIONALITY_LEFT_TO_RIGHT_ISOLATE"), (0, u "DIRECTIONALITY_RIGHT_TO_LEFT_ISOLATE"), (0, u "DIRECTIONALITY_FIRST_STRONG_ISOLATE"), (0, u "DIRECTIONALITY_POP_DIRECTIONAL_ISOLATE"), (0, u "MIN_HIGH_SURROGATE"), (0, u "MAX_HIGH_SURROGATE"), (1, u "MIN_LOW_SURROGATE"), (0, u "MAX_LOW_SURROGATE"), (1, u "MIN_SURROGATE"), (0, u "MAX_SURROGATE"), (0, u "MIN_SUPPLEMENTARY_CODE_POINT"), (0, u "MIN_CODE_POINT"), (0, u "MAX_CODE_POINT"), (1, u "serialVersionUID"), (0, u "J"), (2, u "SIZE"), (0, u "BYTES"), (29, u "charCount"), (58, .class_ 596), (0, u "java/lang/Character$UnicodeScript"), (0, .class_ 598), (0, u "java/lang/Character$Subset")] 5

def k15c0 : Code := { maxStack := 2, maxLocals := 1, code := jdk_89_method_18_code, exceptionTable := #[], attributes := #[] }
def k15m0 : Method := { name := "charCount", desc := "(I)I", sig := { parameters := [.int], returnType := some .int }, accessFlags := 9, code := some k15c0 }
/-- java/lang/Character -/
def k15 : Class := { plain "java/lang/Character" (some 0) with
  accessFlags := 49
  interfaces := #[4, 3, 2]
  cf := some (fileOf pool15 1 #[.nestMembers #[48, 595, 307, 597]] #[{ accessFlags := 9, nameIndex := 536, descriptorIndex := 174, attributes := #[] }] 49 42 #[385, 387, 389] #[{ accessFlags := 25, nameIndex := 391, descriptorIndex := 392, attributes := #[] }, { accessFlags := 25, nameIndex := 395, descriptorIndex := 392, attributes := #[] }, { accessFlags := 25, nameIndex := 397, descriptorIndex := 22, attributes := #[] }, { accessFlags := 25, nameIndex := 399, descriptorIndex := 22, attributes := #[] }, { accessFlags := 25, nameIndex := 383, descriptorIndex := 384, attributes := #[] }, { accessFlags := 25, nameIndex := 403, descriptorIndex := 404, attributes := #[] }, { accessFlags := 25, nameIndex := 405, descriptorIndex := 404, attributes := #[] }, { accessFlags := 25, nameIndex := 407, descriptorIndex := 404, attributes := #[] }, { accessFlags := 25, nameIndex := 408, descriptorIndex := 404, attributes := #[] }, { accessFlags := 25, nameIndex := 410, descriptorIndex := 404, attributes := #[] }, { accessFlags := 25, nameIndex := 412, descriptorIndex := 404, attributes := #[] }, { accessFlags := 25, nameIndex := 414, descriptorIndex := 404, attributes := #[] }, { accessFlags := 25, nameIndex := 416, descriptorIndex := 404, attributes := #[] }, { accessFlags := 25, nameIndex := 418, descriptorIndex := 404, attributes := #[] }, { accessFlags := 25, nameIndex := 420, descriptorIndex := 404, attributes := #[] }, { accessFlags := 25, nameIndex := 422, descriptorIndex := 404, attributes := #[] }, { accessFlags := 25, nameIndex := 424, descriptorIndex := 404, attributes := #[] }, { accessFlags := 25, nameIndex := 426, descriptorIndex := 404, attributes := #[] }, { accessFlags := 25, nameIndex := 428, descriptorIndex := 404, attributes := #[] }, { accessFlags := 25, nameIndex := 430, descriptorIndex := 404, attributes := #[] }, { accessFlags := 25, nameIndex := 432, descriptorIndex := 404, attributes := #[] }, { accessFlags := 25, nameIndex := 434, descriptorIndex := 404, attributes := #[] }, { accessFlags := 25, nameIndex := 436, descriptorIndex := 404, attributes := #[] }, { accessFlags := 25, nameIndex := 438, descriptorIndex := 404, attributes := #[] }, { accessFlags := 25, nameIndex := 440, descriptorIndex := 404, attributes := #[] }, { accessFlags := 25, nameIndex := 442, descriptorIndex := 404, attributes := #[] }, { accessFlags := 25, nameIndex := 444, descriptorIndex := 404, attributes := #[] }, { accessFlags := 25, nameIndex := 446, descriptorIndex := 404, attributes := #[] }, { accessFlags := 25, nameIndex := 448, descriptorIndex := 404, attributes := #[] }, { accessFlags := 25, nameIndex := 450, descriptorIndex := 404, attributes := #[] }, { accessFlags := 25, nameIndex := 452, descriptorIndex := 404, attributes := #[] }, { accessFlags := 25, nameIndex := 454, descriptorIndex := 404, attributes := #[] }, { accessFlags := 25, nameIndex := 456, descriptorIndex := 404, attributes := #[] }, { accessFlags := 25, nameIndex := 458, descriptorIndex := 404, attributes := #[] }, { accessFlags := 25, nameIndex := 460, descriptorIndex := 404, attributes := #[] }, { accessFlags := 24, nameIndex := 462, descriptorIndex := 392, attributes := #[] }, { accessFlags := 25, nameIndex := 464, descriptorIndex := 404, attributes := #[] }, { accessFlags := 25, nameIndex := 465, descriptorIndex := 404, attributes := #[] }, { accessFlags := 25, nameIndex := 466, descriptorIndex := 404, attributes := #[] }, { accessFlags := 25, nameIndex := 467, descriptorIndex := 404, attributes := #[] }, { accessFlags := 25, nameIndex := 468, descriptorIndex := 404, attributes := #[] }, { accessFlags := 25, nameIndex := 469, descriptorIndex := 404, attributes := #[] }, { accessFlags := 25, nameIndex := 470, descriptorIndex := 404, attributes := #[] }, { accessFlags := 25, nameIndex := 471, descriptorIndex := 404, attributes := #[] }, { accessFlags := 25, nameIndex := 472, descriptorIndex := 404, attributes := #[] }, { accessFlags := 25, nameIndex := 473, descriptorIndex := 404, attributes := #[] }, { accessFlags := 25, nameIndex := 474, descriptorIndex := 404, attributes := #[] }, { accessFlags := 25, nameIndex := 475, descriptorIndex := 404, attributes := #[] }, { accessFlags := 25, nameIndex := 476, descriptorIndex := 404, attributes := #[] }, { accessFlags := 25, nameIndex := 477, descriptorIndex := 404, attributes := #[] }, { accessFlags := 25, nameIndex := 478, descriptorIndex := 404, attributes := #[] }, { accessFlags := 25, nameIndex := 479, descriptorIndex := 404, attributes := #[] }, { accessFlags := 25, nameIndex := 480, descriptorIndex := 404, attributes := #[] }, { accessFlags := 25, nameIndex := 481, descriptorIndex := 404, attributes := #[] }, { accessFlags := 25, nameIndex := 482, descriptorIndex := 404, attributes := #[] }, { accessFlags := 25, nameIndex := 484, descriptorIndex := 404, attributes := #[] }, { accessFlags := 25, nameIndex := 485, descriptorIndex := 404, attributes := #[] }, { accessFlags := 25, nameIndex := 486, descriptorIndex := 404, attributes := #[] }, { accessFlags := 25, nameIndex := 487, descriptorIndex := 404, attributes := #[] }, { accessFlags := 25, nameIndex := 488, descriptorIndex := 404, attributes := #[] }, { accessFlags := 25, nameIndex := 489, descriptorIndex := 22, attributes := #[] }, { accessFlags := 25, nameIndex := 490, descriptorIndex := 22, attributes := #[] }, { accessFlags := 25, nameIndex := 492, descriptorIndex := 22, attributes := #[] }, { accessFlags := 25, nameIndex := 493, descriptorIndex := 22, attributes := #[] }, { accessFlags := 25, nameIndex := 495, descriptorIndex := 22, attributes := #[] }, { accessFlags := 25, nameIndex := 496, descriptorIndex := 22, attributes := #[] }, { accessFlags := 25, nameIndex := 497, descriptorIndex := 392, attributes := #[] }, { accessFlags := 25, nameIndex := 498, descriptorIndex := 392, attributes := #[] }, { accessFlags := 25, nameIndex := 499, descriptorIndex := 392, attributes := #[] }, { accessFlags := 18, nameIndex := 21, descriptorIndex := 22, attributes := #[] }, { accessFlags := 26, nameIndex := 501, descriptorIndex := 502, attributes := #[] }, { accessFlags := 25, nameIndex := 505, descriptorIndex := 392, attributes := #[] }, { accessFlags := 25, nameIndex := 506, descriptorIndex := 392, attributes := #[] }, { accessFlags := 4120, nameIndex := 284, descriptorIndex := 285, attributes := #[] }])
  fields := #[{ name := "MIN_RADIX", type := .int, accessFlags := 25, slot := 0, constantValue := 0 }, { name := "MAX_RADIX", type := .int, accessFlags := 25, slot := 1, constantValue := 0 }, { name := "MIN_VALUE", type := .char, accessFlags := 25, slot := 2, constantValue := 0 }, { name := "MAX_VALUE", type := .char, accessFlags := 25, slot := 3, constantValue := 0 }, { name := "TYPE", type := (.object "java/lang/Class"), accessFlags := 25, slot := 4, constantValue := 0 }, { name := "UNASSIGNED", type := .byte, accessFlags := 25, slot := 5, constantValue := 0 }, { name := "UPPERCASE_LETTER", type := .byte, accessFlags := 25, slot := 6, constantValue := 0 }, { name := "LOWERCASE_LETTER", type := .byte, accessFlags := 25, slot := 7, constantValue := 0 }, { name := "TITLECASE_LETTER", type := .byte, accessFlags := 25, slot := 8, constantValue := 0 }, { name := "MODIFIER_LETTER", type := .byte, accessFlags := 25, slot := 9, constantValue := 0 }, { name := "OTHER_LETTER", type := .byte, accessFlags := 25, slot := 10, constantValue := 0 }, { name := "NON_SPACING_MARK", type := .byte, accessFlags := 25, slot := 11, constantValue := 0 }, { name := "ENCLOSING_MARK", type := .byte, accessFlags := 25, slot := 12, constantValue := 0 }, { name := "COMBINING_SPACING_MARK", type := .byte, accessFlags := 25, slot := 13, constantValue := 0 }, { name := "DECIMAL_DIGIT_NUMBER", type := .byte, accessFlags := 25, slot := 14, constantValue := 0 }, { name := "LETTER_NUMBER", type := .byte, accessFlags := 25, slot := 15, constantValue := 0 }, { name := "OTHER_NUMBER", type := .byte, accessFlags := 25, slot := 16, constantValue := 0 }, { name := "SPACE_SEPARATOR", type := .byte, accessFlags := 25, slot := 17, constantValue := 0 }, { name := "LINE_SEPARATOR", type := .byte, accessFlags := 25, slot := 18, constantValue := 0 }, { name := "PARAGRAPH_SEPARATOR", type := .byte, accessFlags := 25, slot := 19, constantValue := 0 }, { name := "CONTROL", type := .byte, accessFlags := 25, slot := 20, constantValue := 0 }, { name := "FORMAT", type := .byte, accessFlags := 25, slot := 21, constantValue := 0 }, { name := "PRIVATE_USE", type := .byte, accessFlags := 25, slot := 22, constantValue := 0 }, { name := "SURROGATE", type := .byte, accessFlags := 25, slot := 23, constantValue := 0 }, { name := "DASH_PUNCTUATION", type := .byte, accessFlags := 25, slot := 24, constantValue := 0 }, { name := "START_PUNCTUATION", type := .byte, accessFlags := 25, slot := 25, constantValue := 0 }, { name := "END_PUNCTUATION", type := .byte, accessFlags := 25, slot := 26, constantValue := 0 }, { name := "CONNECTOR_PUNCTUATION", type := .byte, accessFlags := 25, slot := 27, constantValue := 0 }, { name := "OTHER_PUNCTUATION", type := .byte, accessFlags := 25, slot := 28, constantValue := 0 }, { name := "MATH_SYMBOL", type := .byte, accessFlags := 25, slot := 29, constantValue := 0 }, { name := "CURRENCY_SYMBOL", type := .byte, accessFlags := 25, slot := 30, constantValue := 0 }, { name := "MODIFIER_SYMBOL", type := .byte, accessFlags := 25, slot := 31, constantValue := 0 }, { name := "OTHER_SYMBOL", type := .byte, accessFlags := 25, slot := 32, constantValue := 0 }, { name := "INITIAL_QUOTE_PUNCTUATION", type := .byte, accessFlags := 25, slot := 33, constantValue := 0 }, { name := "FINAL_QUOTE_PUNCTUATION", type := .byte, accessFlags := 25, slot := 34, constantValue := 0 }, { name := "ERROR", type := .int, accessFlags := 24, slot := 35, constantValue := 0 }, { name := "DIRECTIONALITY_UNDEFINED", type := .byte, accessFlags := 25, slot := 36, constantValue := 0 }, { name := "DIRECTIONALITY_LEFT_TO_RIGHT", type := .byte, accessFlags := 25, slot := 37, constantValue := 0 }, { name := "DIRECTIONALITY_RIGHT_TO_LEFT", type := .byte, accessFlags := 25, slot := 38, constantValue := 0 }, { name := "DIRECTIONALITY_RIGHT_TO_LEFT_ARABIC", type := .byte, accessFlags := 25, slot := 39, constantValue := 0 }, { name := "DIRECTIONALITY_EUROPEAN_NUMBER", type := .byte, accessFlags := 25, slot := 40, constantValue := 0 }, { name := "DIRECTIONALITY_EUROPEAN_NUMBER_SEPARATOR", type := .byte, accessFlags := 25, slot := 41, constantValue := 0 }, { name := "DIRECTIONALITY_EUROPEAN_NUMBER_TERMINATOR", type := .byte, accessFlags := 25, slot := 42, constantValue := 0 }, { name := "DIRECTIONALITY_ARABIC_NUMBER", type := .byte, accessFlags := 25, slot := 43, constantValue := 0 }, { name := "DIRECTIONALITY_COMMON_NUMBER_SEPARATOR", type := .byte, accessFlags := 25, slot := 44, constantValue := 0 }, { name := "DIRECTIONALITY_NONSPACING_MARK", type := .byte, accessFlags := 25, slot := 45, constantValue := 0 }, { name := "DIRECTIONALITY_BOUNDARY_NEUTRAL", type := .byte, accessFlags := 25, slot := 46, constantValue := 0 }, { name := "DIRECTIONALITY_PARAGRAPH_SEPARATOR", type := .byte, accessFlags := 25, slot := 47, constantValue := 0 }, { name := "DIRECTIONALITY_SEGMENT_SEPARATOR", type := .byte, accessFlags := 25, slot := 48, constantValue := 0 }, { name := "DIRECTIONALITY_WHITESPACE", type := .byte, accessFlags := 25, slot := 49, constantValue := 0 }, { name := "DIRECTIONALITY_OTHER_NEUTRALS", type := .byte, accessFlags := 25, slot := 50, constantValue := 0 }, { name := "DIRECTIONALITY_LEFT_TO_RIGHT_EMBEDDING", type := .byte, accessFlags := 25, slot := 51, constantValue := 0 }, { name := "DIRECTIONALITY_LEFT_TO_RIGHT_OVERRIDE", type := .byte, accessFlags := 25, slot := 52, constantValue := 0 }, { name := "DIRECTIONALITY_RIGHT_TO_LEFT_EMBEDDING", type := .byte, accessFlags := 25, slot := 53, constantValue := 0 }, { name := "DIRECTIONALITY_RIGHT_TO_LEFT_OVERRIDE", type := .byte, accessFlags := 25, slot := 54, constantValue := 0 }, { name := "DIRECTIONALITY_POP_DIRECTIONAL_FORMAT", type := .byte, accessFlags := 25, slot := 55, constantValue := 0 }, { name := "DIRECTIONALITY_LEFT_TO_RIGHT_ISOLATE", type := .byte, accessFlags := 25, slot := 56, constantValue := 0 }, { name := "DIRECTIONALITY_RIGHT_TO_LEFT_ISOLATE", type := .byte, accessFlags := 25, slot := 57, constantValue := 0 }, { name := "DIRECTIONALITY_FIRST_STRONG_ISOLATE", type := .byte, accessFlags := 25, slot := 58, constantValue := 0 }, { name := "DIRECTIONALITY_POP_DIRECTIONAL_ISOLATE", type := .byte, accessFlags := 25, slot := 59, constantValue := 0 }, { name := "MIN_HIGH_SURROGATE", type := .char, accessFlags := 25, slot := 60, constantValue := 0 }, { name := "MAX_HIGH_SURROGATE", type := .char, accessFlags := 25, slot := 61, constantValue := 0 }, { name := "MIN_LOW_SURROGATE", type := .char, accessFlags := 25, slot := 62, constantValue := 0 }, { name := "MAX_LOW_SURROGATE", type := .char, accessFlags := 25, slot := 63, constantValue := 0 }, { name := "MIN_SURROGATE", type := .char, accessFlags := 25, slot := 64, constantValue := 0 }, { name := "MAX_SURROGATE", type := .char, accessFlags := 25, slot := 65, constantValue := 0 }, { name := "MIN_SUPPLEMENTARY_CODE_POINT", type := .int, accessFlags := 25, slot := 66, constantValue := 0 }, { name := "MIN_CODE_POINT", type := .int, accessFlags := 25, slot := 67, constantValue := 0 }, { name := "MAX_CODE_POINT", type := .int, accessFlags := 25, slot := 68, constantValue := 0 }, { name := "value", type := .char, accessFlags := 18, slot := 0, constantValue := 0 }, { name := "serialVersionUID", type := .long, accessFlags := 26, slot := 69, constantValue := 0 }, { name := "SIZE", type := .int, accessFlags := 25, slot := 70, constantValue := 0 }, { name := "BYTES", type := .int, accessFlags := 25, slot := 71, constantValue := 0 }, { name := "$assertionsDisabled", type := .boolean, accessFlags := 4120, slot := 72, constantValue := 0 }]
  methods := #[k15m0]
  instanceTypes := #[.char]
  staticTypes := #[.int, .int, .char, .char, (.object "java/lang/Class"), .byte, .byte, .byte, .byte, .byte, .byte, .byte, .byte, .byte, .byte, .byte, .byte, .byte, .byte, .byte, .byte, .byte, .byte, .byte, .byte, .byte, .byte, .byte, .byte, .byte, .byte, .byte, .byte, .byte, .byte, .int, .byte, .byte, .byte, .byte, .byte, .byte, .byte, .byte, .byte, .byte, .byte, .byte, .byte, .byte, .byte, .byte, .byte, .byte, .byte, .byte, .byte, .byte, .byte, .byte, .char, .char, .char, .char, .char, .char, .int, .int, .int, .long, .int, .int, .boolean]
  resolved := Array.replicate 604 none
  statics := none }

def pool16 : Array CpInfo := pool [(2, .class_ 4), (1, u "java/lang/Object"), (0, u "<init>"), (0, u "()V"), (1, .class_ 10), (1, u "java/lang/Number"), (2, .class_ 14), (0, u "java/io/Serializable"), (0, u "serialVersionUID"), (0, u "J")] 20

def k16m0 : Method := { name := "<init>", desc := "()V", sig := { parameters := [], returnType := none }, accessFlags := 1, code := none }
/-- java/lang/Number -/
def k16 : Class := { plain "java/lang/Number" (some 0) with
  accessFlags := 1057
  interfaces := #[4]
  cf := some (fileOf pool16 8 #[] #[{ accessFlags := 1, nameIndex := 5, descriptorIndex := 6, attributes := #[] }] 1057 2 #[13] #[{ accessFlags := 26, nameIndex := 15, descriptorIndex := 16, attributes := #[] }])
  fields := #[{ name := "serialVersionUID", type := .long, accessFlags := 26, slot := 0, constantValue := 0 }]
  methods := #[k16m0]
  instanceTypes := #[]
  staticTypes := #[.long]
  resolved := Array.replicate 37 none
  statics := none }

def pool17 : Array CpInfo := pool [(1, .class_ 2), (0, u "java/lang/Integer"), (16, u "digits"), (0, u "[C"), (39, u "(II)I"), (24, u "DigitOnes"), (0, u "[B"), (2, u "DigitTens"), (99, .class_ 190), (0, u "java/lang/Integer$IntegerCache"), (3, u "I"), (8, .class_ 204), (0, u "java/lang/Number"), (2, u "value"), (53, u "compare"), (40, u "TYPE"), (0, u "Ljava/lang/Class;"), (0, .class_ 305), (0, u "java/lang/Comparable"), (0, .class_ 307), (0, u "java/lang/constant/Constable"), (0, .class_ 309), (0, u "java/lang/constant/ConstantDesc"), (0, u "MIN_VALUE"), (1, u "MAX_VALUE"), (3, u "SIZE"), (1, u "BYTES"), (1, u "serialVersionUID"), (0, u "J")] 131

def k17c0 : Code := { maxStack := 2, maxLocals := 2, code := jdk_33_method_40_code, exceptionTable := #[], attributes := #[] }
def k17m0 : Method := { name := "compare", desc := "(II)I", sig := { parameters := [.int, .int], returnType := some .int }, accessFlags := 9, code := some k17c0 }
/-- java/lang/Integer -/
def k17 : Class := { plain "java/lang/Integer" (some 16) with
  accessFlags := 49
  interfaces := #[3, 2, 8]
  cf := some (fileOf pool17 1 #[.nestMembers #[189]] #[{ accessFlags := 9, nameIndex := 261, descriptorIndex := 60, attributes := #[] }] 49 203 #[304, 306, 308] #[{ accessFlags := 25, nameIndex := 310, descriptorIndex := 194, attributes := #[] }, { accessFlags := 25, nameIndex := 312, descriptorIndex := 194, attributes := #[] }, { accessFlags := 25, nameIndex := 302, descriptorIndex := 303, attributes := #[] }, { accessFlags := 24, nameIndex := 19, descriptorIndex := 20, attributes := #[] }, { accessFlags := 24, nameIndex := 89, descriptorIndex := 86, attributes := #[] }, { accessFlags := 24, nameIndex := 85, descriptorIndex := 86, attributes := #[] }, { accessFlags := 18, nameIndex := 207, descriptorIndex := 194, attributes := #[] }, { accessFlags := 25, nameIndex := 316, descriptorIndex := 194, attributes := #[] }, { accessFlags := 25, nameIndex := 318, descriptorIndex := 194, attributes := #[] }, { accessFlags := 26, nameIndex := 320, descriptorIndex := 321, attributes := #[] }])
  fields := #[{ name := "MIN_VALUE", type := .int, accessFlags := 25, slot := 0, constantValue := 0 }, { name := "MAX_VALUE", type := .int, accessFlags := 25, slot := 1, constantValue := 0 }, { name := "TYPE", type := (.object "java/lang/Class"), accessFlags := 25, slot := 2, constantValue := 0 }, { name := "digits", type := (.array .char), accessFlags := 24, slot := 3, constantValue := 0 }, { name := "DigitTens", type := (.array .byte), accessFlags := 24, slot := 4, constantValue := 0 }, { name := "DigitOnes", type := (.array .byte), accessFlags := 24, slot := 5, constantValue := 0 }, { name := "value", type := .int, accessFlags := 18, slot := 0, constantValue := 0 }, { name := "SIZE", type := .int, accessFlags := 25, slot := 6, constantValue := 0 }, { name := "BYTES", type := .int, accessFlags := 25, slot := 7, constantValue := 0 }, { name := "serialVersionUID", type := .long, accessFlags := 26, slot := 8, constantValue := 0 }]
  methods := #[k17m0]
  instanceTypes := #[.int]
  staticTypes := #[.int, .int, (.object "java/lang/Class"), (.array .char), (.array .byte), (.array .byte), .int, .int, .long]
  resolved := Array.replicate 453 none
  statics := none }

def pool18 : Array CpInfo := pool [(9, u "<init>"), (6, .class_ 18), (1, u "java/lang/Object"), (0, u "()V"), (1, .class_ 23), (1, u "jdk/internal/util/ArraysSupport"), (0, u "LOG2_ARRAY_LONG_INDEX_SCALE"), (0, u "I"), (2, u "U"), (0, u "Ljdk/internal/misc/Unsafe;"), (8, u "BIG_ENDIAN"), (0, u "Z"), (8, u "LOG2_BYTE_BIT_SIZE"), (4, u "LOG2_ARRAY_INT_INDEX_SCALE"), (54, u "JLA"), (0, u "Ljdk/internal/access/JavaLangAccess;"), (11, u "LOG2_ARRAY_BOOLEAN_INDEX_SCALE"), (9, u "LOG2_ARRAY_BYTE_INDEX_SCALE"), (5, u "LOG2_ARRAY_CHAR_INDEX_SCALE"), (5, u "LOG2_ARRAY_SHORT_INDEX_SCALE"), (18, u "LOG2_ARRAY_FLOAT_INDEX_SCALE"), (24, u "LOG2_ARRAY_DOUBLE_INDEX_SCALE"), (89, u "T_BOOLEAN"), (2, u "T_CHAR"), (1, u "T_FLOAT"), (1, u "T_DOUBLE"), (1, u "T_BYTE"), (1, u "T_SHORT"), (1, u "T_INT"), (1, u "T_LONG"), (1, u "SOFT_MAX_ARRAY_LENGTH")] 83

def k18m0 : Method := { name := "<init>", desc := "()V", sig := { parameters := [], returnType := none }, accessFlags := 2, code := none }
/-- jdk/internal/util/ArraysSupport -/
def k18 : Class := { plain "jdk/internal/util/ArraysSupport" (some 0) with
  accessFlags := 33
  interfaces := #[]
  cf := some (fileOf pool18 21 #[] #[{ accessFlags := 2, nameIndex := 9, descriptorIndex := 19, attributes := #[] }] 33 16 #[] #[{ accessFlags := 24, nameIndex := 28, descriptorIndex := 29, attributes := #[] }, { accessFlags := 26, nameIndex := 38, descriptorIndex := 39, attributes := #[] }, { accessFlags := 25, nameIndex := 121, descriptorIndex := 25, attributes := #[] }, { accessFlags := 25, nameIndex := 131, descriptorIndex := 25, attributes := #[] }, { accessFlags := 25, nameIndex := 137, descriptorIndex := 25, attributes := #[] }, { accessFlags := 25, nameIndex := 143, descriptorIndex := 25, attributes := #[] }, { accessFlags := 25, nameIndex := 53, descriptorIndex := 25, attributes := #[] }, { accessFlags := 25, nameIndex := 24, descriptorIndex := 25, attributes := #[] }, { accessFlags := 25, nameIndex := 162, descriptorIndex := 25, attributes := #[] }, { accessFlags := 25, nameIndex := 187, descriptorIndex := 25, attributes := #[] }, { accessFlags := 26, nameIndex := 48, descriptorIndex := 25, attributes := #[] }, { accessFlags := 25, nameIndex := 277, descriptorIndex := 25, attributes := #[] }, { accessFlags := 25, nameIndex := 280, descriptorIndex := 25, attributes := #[] }, { accessFlags := 25, nameIndex := 282, descriptorIndex := 25, attributes := #[] }, { accessFlags := 25, nameIndex := 284, descriptorIndex := 25, attributes := #[] }, { accessFlags := 25, nameIndex := 286, descriptorIndex := 25, attributes := #[] }, { accessFlags := 25, nameIndex := 288, descriptorIndex := 25, attributes := #[] }, { accessFlags := 25, nameIndex := 290, descriptorIndex := 25, attributes := #[] }, { accessFlags := 25, nameIndex := 292, descriptorIndex := 25, attributes := #[] }, { accessFlags := 26, nameIndex := 108, descriptorIndex := 109, attributes := #[] }, { accessFlags := 25, nameIndex := 294, descriptorIndex := 25, attributes := #[] }])
  fields := #[{ name := "U", type := (.object "jdk/internal/misc/Unsafe"), accessFlags := 24, slot := 0, constantValue := 0 }, { name := "BIG_ENDIAN", type := .boolean, accessFlags := 26, slot := 1, constantValue := 0 }, { name := "LOG2_ARRAY_BOOLEAN_INDEX_SCALE", type := .int, accessFlags := 25, slot := 2, constantValue := 0 }, { name := "LOG2_ARRAY_BYTE_INDEX_SCALE", type := .int, accessFlags := 25, slot := 3, constantValue := 0 }, { name := "LOG2_ARRAY_CHAR_INDEX_SCALE", type := .int, accessFlags := 25, slot := 4, constantValue := 0 }, { name := "LOG2_ARRAY_SHORT_INDEX_SCALE", type := .int, accessFlags := 25, slot := 5, constantValue := 0 }, { name := "LOG2_ARRAY_INT_INDEX_SCALE", type := .int, accessFlags := 25, slot := 6, constantValue := 0 }, { name := "LOG2_ARRAY_LONG_INDEX_SCALE", type := .int, accessFlags := 25, slot := 7, constantValue := 0 }, { name := "LOG2_ARRAY_FLOAT_INDEX_SCALE", type := .int, accessFlags := 25, slot := 8, constantValue := 0 }, { name := "LOG2_ARRAY_DOUBLE_INDEX_SCALE", type := .int, accessFlags := 25, slot := 9, constantValue := 0 }, { name := "LOG2_BYTE_BIT_SIZE", type := .int, accessFlags := 26, slot := 10, constantValue := 0 }, { name := "T_BOOLEAN", type := .int, accessFlags := 25, slot := 11, constantValue := 0 }, { name := "T_CHAR", type := .int, accessFlags := 25, slot := 12, constantValue := 0 }, { name := "T_FLOAT", type := .int, accessFlags := 25, slot := 13, constantValue := 0 }, { name := "T_DOUBLE", type := .int, accessFlags := 25, slot := 14, constantValue := 0 }, { name := "T_BYTE", type := .int, accessFlags := 25, slot := 15, constantValue := 0 }, { name := "T_SHORT", type := .int, accessFlags := 25, slot := 16, constantValue := 0 }, { name := "T_INT", type := .int, accessFlags := 25, slot := 17, constantValue := 0 }, { name := "T_LONG", type := .int, accessFlags := 25, slot := 18, constantValue := 0 }, { name := "JLA", type := (.object "jdk/internal/access/JavaLangAccess"), accessFlags := 26, slot := 19, constantValue := 0 }, { name := "SOFT_MAX_ARRAY_LENGTH", type := .int, accessFlags := 25, slot := 20, constantValue := 0 }]
  methods := #[k18m0]
  instanceTypes := #[]
  staticTypes := #[(.object "jdk/internal/misc/Unsafe"), .boolean, .int, .int, .int, .int, .int, .int, .int, .int, .int, .int, .int, .int, .int, .int, .int, .int, .int, (.object "jdk/internal/access/JavaLangAccess"), .int]
  resolved := Array.replicate 378 none
  statics := none }

def pool19 : Array CpInfo := pool [(1, u "java/lang/Cloneable"), (0, .class_ 1), (0, u "java/lang/Object"), (0, .class_ 3)] 3

/-- java/lang/Cloneable -/
def k19 : Class := { plain "java/lang/Cloneable" (some 0) with
  accessFlags := 1537
  interfaces := #[]
  cf := some (fileOf pool19 2 #[] #[] 1537 4 #[] #[])
  fields := #[]
  methods := #[]
  instanceTypes := #[]
  staticTypes := #[]
  resolved := Array.replicate 8 none
  statics := none }

/-- the primitive byte -/
def k20 : Class := { plain "byte" none with kind := .primitive 'B', accessFlags := 0x411 }
/-- [B -/
def k21 : Class := { plain "[B" (some 0) with kind := .array 20 .byte, interfaces := #[19, 4], accessFlags := 1041 }

/-- the primitive char -/
def k22 : Class := { plain "char" none with kind := .primitive 'C', accessFlags := 0x411 }
/-- [C -/
def k23 : Class := { plain "[C" (some 0) with kind := .array 22 .char, interfaces := #[19, 4], accessFlags := 1041 }

/-- the primitive int -/
def k24 : Class := { plain "int" none with kind := .primitive 'I', accessFlags := 0x411 }
/-- [I -/
def k25 : Class := { plain "[I" (some 0) with kind := .array 24 .int, interfaces := #[19, 4], accessFlags := 1041 }

def heap : Heap := #[{ cls := 6, slots := #[.ref 4, .ref 5, .null], vm := .statics 6 },
  { cls := 9, slots := #[.long 0, .int 1, .null, .int 0, .null, .int 0, .int 0], vm := .statics 9 },
  { cls := 13, slots := #[.ref 6], vm := .statics 13 },
  { cls := 14, slots := #[.null, .null, .null], vm := .statics 14 },
  { cls := 6, slots := #[.null, .int 0, .int 0], vm := .none },
  { cls := 6, slots := #[.null, .int 1, .int 0], vm := .none },
  { cls := 13, slots := #[], vm := .none }]
def classes : Array Class := #[k0, k1, k2, k3, k4, k5, k6, k7, k8, k9, k10, k11, k12, k13, k14, k15, k16, k17, k18, k19, k20, k21, k22, k23, k24, k25]
def interned : List (Array UInt16 × Addr) := []
def slotsUsed : Nat := 20
def theMethod : MethodId := ⟨1, 3⟩
def args0 : Array Value := #[.int 3, .long 5, .long 6, .long 7, .int 3]
def aboutOver (below : List Frame) : State where
  vm := { classes := classes, interned := interned.toArray }
  heap := heap
  slotsUsed := slotsUsed
  threads := #[{ frames := .invoking theMethod args0 :: below }]
def below0 : List Frame := [.native { method := ⟨0, 0⟩, args := #[] }]
def about1 : State := aboutOver below0
def p0 : Program := .bare "" "" ""
def e0 : Env := launch0.env 0 0 0
theorem w_frames : about1.frames = Frame.invoking theMethod args0 :: below0 := rfl
set_option maxRecDepth 65536 in
theorem w_args : argsFit about1.vm theMethod args0 = true := by decide +kernel
set_option maxRecDepth 65536 in
theorem w_heap : heapFits about1 = true := by decide +kernel
set_option maxRecDepth 65536 in
theorem w_runnable : about1.curStatus? = some .runnable := by decide +kernel
set_option maxRecDepth 65536 in
theorem w_alone : about1.alone = true := by decide +kernel
set_option maxRecDepth 65536 in
theorem w_named : about1.methodNamed? x = some theMethod := by decide +kernel
set_option maxRecDepth 65536 in
theorem w_hears : about1.hears theMethod below0 = true := by decide +kernel
set_option maxRecDepth 65536 in
theorem w_ripe : about1.ripe theMethod args0 below0 = true := by decide +kernel
theorem w_running : about1.status = .running := rfl
set_option maxRecDepth 65536 in
theorem w_room : about1.hasRoom e0.platform room_1 = true :=
  launch0.hasRoom_least _ room_1 (by decide +kernel) (by decide +kernel) (by decide +kernel) (by decide +kernel) (by decide +kernel) (by decide +kernel)
theorem allAtoms_all (ts : List Jvm.Cond) (a : Array Jvm.Value) (st : Jvm.State) : (allAtoms ts).before a st = ts.all (fun c => c.before a st) := by
  induction ts with
  | nil => rfl
  | cons c t ih =>
    show (Jvm.Cond.and c (allAtoms t)).before a st = _
    rw [Jvm.Cond.before_and, ih, List.all_cons]
def words1 : List Jvm.Cond := Jvm.Cond.code x code maxLocals ret :: tables_1
/-- a 'code' word, met by the world's own term for the bytes: nothing is compared byte by byte -/
theorem code_word {y : MethodName} {bytes : ByteArray} {mx : Nat} {rt : Option FieldType} {a : Array Value} {s : State} {m : MethodId} {meth : Method} {c : Code} (h1 : s.methodNamed? y = some m) (h2 : s.vm.method? m = some meth) (h3 : meth.code = some c) (h4 : c.code = bytes)
    (h5 : (c.maxLocals == mx && c.exceptionTable.isEmpty && decide (c.maxStack ≤ mostOperands) && decide (meth.sig.returnType = rt) && !meth.locks && decide (parseMethodDescriptor y.desc = some meth.sig)) = true) : (Jvm.Cond.code y bytes mx rt).before a s = true := by
  simp only [Bool.and_eq_true, beq_iff_eq, Bool.not_eq_true', decide_eq_true_eq] at h5
  obtain ⟨⟨⟨⟨⟨g1, g2⟩, g3⟩, g4⟩, g5⟩, g6⟩ := h5
  simp [Cond.before, Cond.holds, Cond.value, h1, h2, h3, h4, g1, g2, g3, g4, g5, g6]
def isCode : Jvm.Cond → Bool
  | .code _ _ _ _ => true
  | _ => false
theorem all_split {L : List Jvm.Cond} {P : Jvm.Cond → Bool} (h1 : L.all (fun c => isCode c || P c) = true) (h2 : ∀ c ∈ L.filter isCode, P c = true) : L.all P = true := by
  refine List.all_eq_true.mpr fun c hc => ?_
  have h := List.all_eq_true.mp h1 c hc
  rcases Bool.eq_false_or_eq_true (isCode c) with hi | hi
  · exact h2 c (List.mem_filter.mpr ⟨hc, hi⟩)
  · simpa [hi] using h
set_option maxRecDepth 65536 in
theorem w_c0 : (Jvm.Cond.code x code maxLocals ret).before args0 about1 = true := code_word (m := ⟨1, 3⟩) (meth := k1m3) (c := k1c3) (by decide +kernel) rfl rfl rfl (by decide +kernel)
set_option maxRecDepth 65536 in
theorem w_c1 : (Jvm.Cond.code ({ cls := "com/example/huntaway/huntaway/PrecedenceIsEmptyPinLaw", name := "effect", desc := "(Z)Lcom/example/huntaway/huntaway/Effect;" } : Jvm.MethodName) method_3_code (1 : Nat) (Option.some (Jvm.ClassFile.FieldType.object "com/example/huntaway/huntaway/Effect"))).before args0 about1 = true := code_word (m := ⟨1, 2⟩) (meth := k1m2) (c := k1c2) (by decide +kernel) rfl rfl rfl (by decide +kernel)
set_option maxRecDepth 65536 in
theorem w_c2 : (Jvm.Cond.code ({ cls := "com/example/huntaway/huntaway/PrecedenceIsEmptyPinLaw", name := "name", desc := "(IZ)Ljava/lang/String;" } : Jvm.MethodName) method_2_code (2 : Nat) (Option.some (Jvm.ClassFile.FieldType.object "java/lang/String"))).before args0 about1 = true := code_word (m := ⟨1, 1⟩) (meth := k1m1) (c := k1c1) (by decide +kernel) rfl rfl rfl (by decide +kernel)
set_option maxRecDepth 65536 in
theorem w_c3 : (Jvm.Cond.code ({ cls := "java/lang/String", name := "valueOf", desc := "(C)Ljava/lang/String;" } : Jvm.MethodName) jdk_42_method_139_code (1 : Nat) (Option.some (Jvm.ClassFile.FieldType.object "java/lang/String"))).before args0 about1 = true := code_word (m := ⟨9, 4⟩) (meth := k9m4) (c := k9c4) (by decide +kernel) rfl rfl rfl (by decide +kernel)
set_option maxRecDepth 65536 in
theorem w_c4 : (Jvm.Cond.code ({ cls := "java/lang/StringLatin1", name := "canEncode", desc := "(C)Z" } : Jvm.MethodName) jdk_43_method_3_code (1 : Nat) (Option.some Jvm.ClassFile.FieldType.boolean)).before args0 about1 = true := code_word (m := ⟨10, 1⟩) (meth := k10m1) (c := k10c1) (by decide +kernel) rfl rfl rfl (by decide +kernel)
set_option maxRecDepth 65536 in
theorem w_c5 : (Jvm.Cond.code ({ cls := "java/lang/StringLatin1", name := "toBytes", desc := "(C)[B" } : Jvm.MethodName) jdk_43_method_46_code (1 : Nat) (Option.some (Jvm.ClassFile.FieldType.array Jvm.ClassFile.FieldType.byte))).before args0 about1 = true := code_word (m := ⟨10, 2⟩) (meth := k10m2) (c := k10c2) (by decide +kernel) rfl rfl rfl (by decide +kernel)
set_option maxRecDepth 65536 in
theorem w_c6 : (Jvm.Cond.code ({ cls := "java/lang/String", name := "<init>", desc := "([BB)V" } : Jvm.MethodName) jdk_42_method_151_code (3 : Nat) (Option.none : Option Jvm.ClassFile.FieldType)).before args0 about1 = true := code_word (m := ⟨9, 6⟩) (meth := k9m6) (c := k9c6) (by decide +kernel) rfl rfl rfl (by decide +kernel)
set_option maxRecDepth 65536 in
theorem w_c7 : (Jvm.Cond.code ({ cls := "java/lang/Object", name := "<init>", desc := "()V" } : Jvm.MethodName) object_method_1_code (1 : Nat) (Option.none : Option Jvm.ClassFile.FieldType)).before args0 about1 = true := code_word (m := ⟨0, 0⟩) (meth := k0m0) (c := k0c0) (by decide +kernel) rfl rfl rfl (by decide +kernel)
set_option maxRecDepth 65536 in
theorem w_c8 : (Jvm.Cond.code ({ cls := "com/example/huntaway/huntaway/Precedence", name := "<init>", desc := "()V" } : Jvm.MethodName) prog_9_method_1_code (1 : Nat) (Option.none : Option Jvm.ClassFile.FieldType)).before args0 about1 = true := code_word (m := ⟨11, 0⟩) (meth := k11m0) (c := k11c0) (by decide +kernel) rfl rfl rfl (by decide +kernel)
set_option maxRecDepth 65536 in
theorem w_c9 : (Jvm.Cond.code ({ cls := "com/example/huntaway/huntaway/Precedence", name := "isEmpty", desc := "()Z" } : Jvm.MethodName) prog_9_method_4_code (1 : Nat) (Option.some Jvm.ClassFile.FieldType.boolean)).before args0 about1 = true := code_word (m := ⟨11, 2⟩) (meth := k11m2) (c := k11c2) (by decide +kernel) rfl rfl rfl (by decide +kernel)
set_option maxRecDepth 65536 in
theorem w_c10 : (Jvm.Cond.code ({ cls := "com/example/huntaway/huntaway/Precedence", name := "offer", desc := "(Lcom/example/huntaway/huntaway/Effect;JLjava/lang/String;)V" } : Jvm.MethodName) prog_9_method_3_code (5 : Nat) (Option.none : Option Jvm.ClassFile.FieldType)).before args0 about1 = true := code_word (m := ⟨11, 1⟩) (meth := k11m1) (c := k11c1) (by decide +kernel) rfl rfl rfl (by decide +kernel)
set_option maxRecDepth 65536 in
theorem w_c11 : (Jvm.Cond.code ({ cls := "com/example/huntaway/huntaway/CodePointOrder", name := "min", desc := "(Ljava/lang/String;Ljava/lang/String;)Ljava/lang/String;" } : Jvm.MethodName) prog_1_method_3_code (2 : Nat) (Option.some (Jvm.ClassFile.FieldType.object "java/lang/String"))).before args0 about1 = true := code_word (m := ⟨13, 2⟩) (meth := k13m2) (c := k13c2) (by decide +kernel) rfl rfl rfl (by decide +kernel)
set_option maxRecDepth 65536 in
theorem w_c12 : (Jvm.Cond.code ({ cls := "java/lang/String", name := "<init>", desc := "([C)V" } : Jvm.MethodName) jdk_42_method_3_code (2 : Nat) (Option.none : Option Jvm.ClassFile.FieldType)).before args0 about1 = true := code_word (m := ⟨9, 1⟩) (meth := k9m1) (c := k9c1) (by decide +kernel) rfl rfl rfl (by decide +kernel)
set_option maxRecDepth 65536 in
theorem w_c13 : (Jvm.Cond.code ({ cls := "java/lang/String", name := "<init>", desc := "([CIILjava/lang/Void;)V" } : Jvm.MethodName) jdk_42_method_149_code (6 : Nat) (Option.none : Option Jvm.ClassFile.FieldType)).before args0 about1 = true := code_word (m := ⟨9, 5⟩) (meth := k9m5) (c := k9c5) (by decide +kernel) rfl rfl rfl (by decide +kernel)
set_option maxRecDepth 65536 in
theorem w_c14 : (Jvm.Cond.code ({ cls := "com/example/huntaway/huntaway/CodePointOrder", name := "compare", desc := "(Ljava/lang/String;Ljava/lang/String;)I" } : Jvm.MethodName) prog_1_method_2_code (7 : Nat) (Option.some Jvm.ClassFile.FieldType.int)).before args0 about1 = true := code_word (m := ⟨13, 1⟩) (meth := k13m1) (c := k13c1) (by decide +kernel) rfl rfl rfl (by decide +kernel)
set_option maxRecDepth 65536 in
theorem w_c15 : (Jvm.Cond.code ({ cls := "java/lang/String", name := "length", desc := "()I" } : Jvm.MethodName) jdk_42_method_54_code (1 : Nat) (Option.some Jvm.ClassFile.FieldType.int)).before args0 about1 = true := code_word (m := ⟨9, 2⟩) (meth := k9m2) (c := k9c2) (by decide +kernel) rfl rfl rfl (by decide +kernel)
set_option maxRecDepth 65536 in
theorem w_c16 : (Jvm.Cond.code ({ cls := "java/lang/String", name := "coder", desc := "()B" } : Jvm.MethodName) jdk_42_method_152_code (1 : Nat) (Option.some Jvm.ClassFile.FieldType.byte)).before args0 about1 = true := code_word (m := ⟨9, 7⟩) (meth := k9m7) (c := k9c7) (by decide +kernel) rfl rfl rfl (by decide +kernel)
set_option maxRecDepth 65536 in
theorem w_c17 : (Jvm.Cond.code ({ cls := "java/lang/String", name := "codePointAt", desc := "(I)I" } : Jvm.MethodName) jdk_42_method_57_code (3 : Nat) (Option.some Jvm.ClassFile.FieldType.int)).before args0 about1 = true := code_word (m := ⟨9, 3⟩) (meth := k9m3) (c := k9c3) (by decide +kernel) rfl rfl rfl (by decide +kernel)
set_option maxRecDepth 65536 in
theorem w_c18 : (Jvm.Cond.code ({ cls := "java/lang/String", name := "isLatin1", desc := "()Z" } : Jvm.MethodName) jdk_42_method_154_code (1 : Nat) (Option.some Jvm.ClassFile.FieldType.boolean)).before args0 about1 = true := code_word (m := ⟨9, 8⟩) (meth := k9m8) (c := k9c8) (by decide +kernel) rfl rfl rfl (by decide +kernel)
set_option maxRecDepth 65536 in
theorem w_c19 : (Jvm.Cond.code ({ cls := "java/lang/String", name := "checkIndex", desc := "(II)V" } : Jvm.MethodName) jdk_42_method_155_code (2 : Nat) (Option.none : Option Jvm.ClassFile.FieldType)).before args0 about1 = true := code_word (m := ⟨9, 9⟩) (meth := k9m9) (c := k9c9) (by decide +kernel) rfl rfl rfl (by decide +kernel)
set_option maxRecDepth 65536 in
theorem w_c20 : (Jvm.Cond.code ({ cls := "jdk/internal/util/Preconditions", name := "checkIndex", desc := "(IILjava/util/function/BiFunction;)I" } : Jvm.MethodName) jdk_41_method_11_code (3 : Nat) (Option.some Jvm.ClassFile.FieldType.int)).before args0 about1 = true := code_word (m := ⟨14, 1⟩) (meth := k14m1) (c := k14c1) (by decide +kernel) rfl rfl rfl (by decide +kernel)
set_option maxRecDepth 65536 in
theorem w_c21 : (Jvm.Cond.code ({ cls := "java/lang/Character", name := "charCount", desc := "(I)I" } : Jvm.MethodName) jdk_89_method_18_code (1 : Nat) (Option.some Jvm.ClassFile.FieldType.int)).before args0 about1 = true := code_word (m := ⟨15, 0⟩) (meth := k15m0) (c := k15c0) (by decide +kernel) rfl rfl rfl (by decide +kernel)
set_option maxRecDepth 65536 in
theorem w_c22 : (Jvm.Cond.code ({ cls := "java/lang/Integer", name := "compare", desc := "(II)I" } : Jvm.MethodName) jdk_33_method_40_code (2 : Nat) (Option.some Jvm.ClassFile.FieldType.int)).before args0 about1 = true := code_word (m := ⟨17, 0⟩) (meth := k17m0) (c := k17c0) (by decide +kernel) rfl rfl rfl (by decide +kernel)
def codes1 : List Jvm.Cond := [Jvm.Cond.code x code maxLocals ret, Jvm.Cond.code ({ cls := "com/example/huntaway/huntaway/PrecedenceIsEmptyPinLaw", name := "effect", desc := "(Z)Lcom/example/huntaway/huntaway/Effect;" } : Jvm.MethodName) method_3_code (1 : Nat) (Option.some (Jvm.ClassFile.FieldType.object "com/example/huntaway/huntaway/Effect")), Jvm.Cond.code ({ cls := "com/example/huntaway/huntaway/PrecedenceIsEmptyPinLaw", name := "name", desc := "(IZ)Ljava/lang/String;" } : Jvm.MethodName) method_2_code (2 : Nat) (Option.some (Jvm.ClassFile.FieldType.object "java/lang/String")), Jvm.Cond.code ({ cls := "java/lang/String", name := "valueOf", desc := "(C)Ljava/lang/String;" } : Jvm.MethodName) jdk_42_method_139_code (1 : Nat) (Option.some (Jvm.ClassFile.FieldType.object "java/lang/String")), Jvm.Cond.code ({ cls := "java/lang/StringLatin1", name := "canEncode", desc := "(C)Z" } : Jvm.MethodName) jdk_43_method_3_code (1 : Nat) (Option.some Jvm.ClassFile.FieldType.boolean), Jvm.Cond.code ({ cls := "java/lang/StringLatin1", name := "toBytes", desc := "(C)[B" } : Jvm.MethodName) jdk_43_method_46_code (1 : Nat) (Option.some (Jvm.ClassFile.FieldType.array Jvm.ClassFile.FieldType.byte)), Jvm.Cond.code ({ cls := "java/lang/String", name := "<init>", desc := "([BB)V" } : Jvm.MethodName) jdk_42_method_151_code (3 : Nat) (Option.none : Option Jvm.ClassFile.FieldType), Jvm.Cond.code ({ cls := "java/lang/Object", name := "<init>", desc := "()V" } : Jvm.MethodName) object_method_1_code (1 : Nat) (Option.none : Option Jvm.ClassFile.FieldType), Jvm.Cond.code ({ cls := "com/example/huntaway/huntaway/Precedence", name := "<init>", desc := "()V" } : Jvm.MethodName) prog_9_method_1_code (1 : Nat) (Option.none : Option Jvm.ClassFile.FieldType), Jvm.Cond.code ({ cls := "com/example/huntaway/huntaway/Precedence", name := "isEmpty", desc := "()Z" } : Jvm.MethodName) prog_9_method_4_code (1 : Nat) (Option.some Jvm.ClassFile.FieldType.boolean), Jvm.Cond.code ({ cls := "com/example/huntaway/huntaway/Precedence", name := "offer", desc := "(Lcom/example/huntaway/huntaway/Effect;JLjava/lang/String;)V" } : Jvm.MethodName) prog_9_method_3_code (5 : Nat) (Option.none : Option Jvm.ClassFile.FieldType), Jvm.Cond.code ({ cls := "com/example/huntaway/huntaway/CodePointOrder", name := "min", desc := "(Ljava/lang/String;Ljava/lang/String;)Ljava/lang/String;" } : Jvm.MethodName) prog_1_method_3_code (2 : Nat) (Option.some (Jvm.ClassFile.FieldType.object "java/lang/String")), Jvm.Cond.code ({ cls := "java/lang/String", name := "<init>", desc := "([C)V" } : Jvm.MethodName) jdk_42_method_3_code (2 : Nat) (Option.none : Option Jvm.ClassFile.FieldType), Jvm.Cond.code ({ cls := "java/lang/String", name := "<init>", desc := "([CIILjava/lang/Void;)V" } : Jvm.MethodName) jdk_42_method_149_code (6 : Nat) (Option.none : Option Jvm.ClassFile.FieldType), Jvm.Cond.code ({ cls := "com/example/huntaway/huntaway/CodePointOrder", name := "compare", desc := "(Ljava/lang/String;Ljava/lang/String;)I" } : Jvm.MethodName) prog_1_method_2_code (7 : Nat) (Option.some Jvm.ClassFile.FieldType.int), Jvm.Cond.code ({ cls := "java/lang/String", name := "length", desc := "()I" } : Jvm.MethodName) jdk_42_method_54_code (1 : Nat) (Option.some Jvm.ClassFile.FieldType.int), Jvm.Cond.code ({ cls := "java/lang/String", name := "coder", desc := "()B" } : Jvm.MethodName) jdk_42_method_152_code (1 : Nat) (Option.some Jvm.ClassFile.FieldType.byte), Jvm.Cond.code ({ cls := "java/lang/String", name := "codePointAt", desc := "(I)I" } : Jvm.MethodName) jdk_42_method_57_code (3 : Nat) (Option.some Jvm.ClassFile.FieldType.int), Jvm.Cond.code ({ cls := "java/lang/String", name := "isLatin1", desc := "()Z" } : Jvm.MethodName) jdk_42_method_154_code (1 : Nat) (Option.some Jvm.ClassFile.FieldType.boolean), Jvm.Cond.code ({ cls := "java/lang/String", name := "checkIndex", desc := "(II)V" } : Jvm.MethodName) jdk_42_method_155_code (2 : Nat) (Option.none : Option Jvm.ClassFile.FieldType), Jvm.Cond.code ({ cls := "jdk/internal/util/Preconditions", name := "checkIndex", desc := "(IILjava/util/function/BiFunction;)I" } : Jvm.MethodName) jdk_41_method_11_code (3 : Nat) (Option.some Jvm.ClassFile.FieldType.int), Jvm.Cond.code ({ cls := "java/lang/Character", name := "charCount", desc := "(I)I" } : Jvm.MethodName) jdk_89_method_18_code (1 : Nat) (Option.some Jvm.ClassFile.FieldType.int), Jvm.Cond.code ({ cls := "java/lang/Integer", name := "compare", desc := "(II)I" } : Jvm.MethodName) jdk_33_method_40_code (2 : Nat) (Option.some Jvm.ClassFile.FieldType.int)]
set_option maxRecDepth 65536 in
theorem codes_eq : words1.filter isCode = codes1 := rfl
theorem w_codes : ∀ c ∈ words1.filter isCode, c.before args0 about1 = true := by
  rw [codes_eq]
  intro c hc
  simp only [codes1, List.mem_cons, List.not_mem_nil, or_false] at hc
  rcases hc with rfl | rfl | rfl | rfl | rfl | rfl | rfl | rfl | rfl | rfl | rfl | rfl | rfl | rfl | rfl | rfl | rfl | rfl | rfl | rfl | rfl | rfl | rfl
  · exact w_c0
  · exact w_c1
  · exact w_c2
  · exact w_c3
  · exact w_c4
  · exact w_c5
  · exact w_c6
  · exact w_c7
  · exact w_c8
  · exact w_c9
  · exact w_c10
  · exact w_c11
  · exact w_c12
  · exact w_c13
  · exact w_c14
  · exact w_c15
  · exact w_c16
  · exact w_c17
  · exact w_c18
  · exact w_c19
  · exact w_c20
  · exact w_c21
  · exact w_c22
set_option maxRecDepth 65536 in
theorem w_t1 : (words1.take 24).all (fun c => isCode c || c.before args0 about1) = true := by decide +kernel
set_option maxRecDepth 65536 in
theorem w_t2 : ((words1.drop 24).take 24).all (fun c => isCode c || c.before args0 about1) = true := by decide +kernel
set_option maxRecDepth 65536 in
theorem w_t3 : (((words1.drop 24).drop 24).take 24).all (fun c => isCode c || c.before args0 about1) = true := by decide +kernel
set_option maxRecDepth 65536 in
theorem w_t4 : ((((words1.drop 24).drop 24).drop 24).take 24).all (fun c => isCode c || c.before args0 about1) = true := by decide +kernel
set_option maxRecDepth 65536 in
theorem w_t5 : (((((words1.drop 24).drop 24).drop 24).drop 24).take 24).all (fun c => isCode c || c.before args0 about1) = true := by decide +kernel
set_option maxRecDepth 65536 in
theorem w_t6 : (((((words1.drop 24).drop 24).drop 24).drop 24).drop 24).all (fun c => isCode c || c.before args0 about1) = true := by decide +kernel
theorem w_tables : (allAtoms (Jvm.Cond.code x code maxLocals ret :: tables_1)).before args0 about1 = true := by
  rw [allAtoms_all]
  show words1.all (fun c => c.before args0 about1) = true
  refine all_split ?_ w_codes
  rw [← List.take_append_drop 24 words1, List.all_append, w_t1, ← List.take_append_drop 24 (words1.drop 24), List.all_append, w_t2, ← List.take_append_drop 24 ((words1.drop 24).drop 24), List.all_append, w_t3, ← List.take_append_drop 24 (((words1.drop 24).drop 24).drop 24), List.all_append, w_t4, ← List.take_append_drop 24 ((((words1.drop 24).drop 24).drop 24).drop 24), List.all_append, w_t5, w_t6]
  rfl
set_option maxRecDepth 65536 in
theorem w_rest : rest_1_c.before args0 about1 = true := by decide +kernel
set_option maxRecDepth 65536 in
theorem w_case : (Jvm.Cond.and given_1 narrow_1).before args0 about1 = true := by decide +kernel
set_option maxRecDepth 65536 in
theorem w_consts : constsHeld consts_1 about1 := Jvm.Lit.constsHeldB_iff.mp (by decide +kernel)
theorem w_applies : (headSpec (Jvm.Cond.code x code maxLocals ret :: tables_1) room_1).applies x e0.platform about1 = true :=
  (Spec.applies_iff w_frames).mpr ⟨w_running, w_runnable, w_alone, w_named, w_hears, w_ripe, w_room, w_tables⟩
theorem atStart : AtStart classFile x code maxLocals ret World_1 tables_1 room_1 Calls_1 rest_1 Pre_1 launch0 p0 e0 about1 theMethod args0 below0 :=
  ⟨lists_1, trivial, launch0.admits_env _ _ _, launch0.least_env, fairChoices_fair.cas, fairChoices_fair.clock, w_frames, w_args, w_heap, w_applies, ⟨w_consts, trivial⟩, w_rest, w_case⟩
end start1
theorem witness_1 : WitnessClaimed_1 := ⟨start1.p0, start1.e0, start1.about1, start1.theMethod, start1.args0, start1.below0, start1.atStart⟩
end Jvm.Pilot.@@N@@
