import JvmDerived
import JvmDerived.Pilot.@@N@@Statement
import JvmDerived.Pilot.@@N@@Code
set_option linter.unusedVariables false
set_option linter.unusedSimpArgs false
namespace Jvm.Pilot.@@N@@
open Jvm Jvm.ClassFile Sem Op Lib Jvm.Free Jvm.Stand Jvm.LawKit Jvm.RoadKit Bundle Jvm.Pilot.@@N@@.Jvm.D
/-- whatever is reached from v is reached from u -/
abbrev To (tb : Tables) (e : Env) (below : List Frame) (u v : State) : Prop := ∀ t, Steps tb e below v t → Steps tb e below u t
/-- a body's contract: called with as' over the heap h0 it returns, and Q holds of what it returns, of the heap and of the places written -/
abbrev Con (l : Launch) (Z : State) (y : MethodName) (bs : ByteArray) (ml : Nat) (rt : Option FieldType) (ws : List Jvm.Cond) (R : Room) (as' : Array Value) (h0 : Heap) (Q : Option Value → Heap → List Loc → Prop) : Prop :=
  MetFree l y (head1 (Jvm.Cond.code y bs ml rt :: ws) R) (fun a U => a = as' ∧ Z.Warmed39 U.vm ∧ U.heap = h0) (fun _ _ _ _ _ => True) (fun _ U o U' => ∃ v L, o = .returned v ∧ Q v U'.heap L ∧ FrameEnd U o U' L R.cells R.slots)
/-- the walk from S0 has ended well -/
def Fin (p : Program) (e : Env) (below : List Frame) (s : State) (R : Room) (S0 : State) (Q : Option Value → Heap → List Loc → Prop) : Prop :=
  ∃ s₂ o, Steps p.tables e below S0 s₂ ∧ s₂.status = .running ∧ Ended s₂ below o ∧ ∃ v L, o = .returned v ∧ Q v s₂.heap L ∧ FrameEnd s o s₂ L R.cells R.slots
def slotsOf : List Value → List Slot
  | [] => []
  | v :: r => if v.category = 2 then .val v :: .second :: slotsOf r else .val v :: slotsOf r
theorem foldl_slots (L : List Value) : ∀ acc : Array Slot, L.foldl (fun acc v => if v.category = 2 then (acc.push (Slot.val v)).push Slot.second else acc.push (Slot.val v)) acc = acc ++ (slotsOf L).toArray := by
  induction L with
  | nil => intro acc; simp [slotsOf]
  | cons v r ih =>
    intro acc
    rw [List.foldl_cons, ih]
    by_cases h : v.category = 2
    · simp [slotsOf, h]
    · simp [slotsOf, h]
theorem entry_eq {m : MethodId} {L : List Value} {ml : Nat} {Ls : List Slot} (h : slotsOf L ++ List.replicate (ml - (slotsOf L).length) Slot.unset = Ls) : entryFrame m L.toArray ml = mkF m 0 Ls.toArray [] := by
  subst h
  have e : argsToLocals L.toArray ml = (slotsOf L ++ List.replicate (ml - (slotsOf L).length) Slot.unset).toArray := by
    show (L.toArray.foldl (init := #[]) fun acc v => if v.category = 2 then (acc.push (Slot.val v)).push Slot.second else acc.push (Slot.val v)) ++ Array.replicate (ml - (L.toArray.foldl (init := #[]) fun acc v => if v.category = 2 then (acc.push (Slot.val v)).push Slot.second else acc.push (Slot.val v)).size) Slot.unset = _
    rw [List.foldl_toArray, foldl_slots]
    simp
  show ({ method := m, pc := 0, locals := argsToLocals L.toArray ml, stack := [], locked := none } : JFrame) = _
  rw [e]
section Own
variable {p : Program} {l : Launch} {e : Env} {R : Room} {s : State} {m : MethodId} {args : Array Value} {below : List Frame} {meth : Method} {c : Code} {T S0 : State} {locs : List Loc} {cells slots : Nat} {Z : State} {a0 : Array Value} {h : Heap} {Q : Option Value → Heap → List Loc → Prop}
theorem enter {y : MethodName} {bs : ByteArray} {ml : Nat} {rt : Option FieldType} {ws : List Jvm.Cond} {as' : Array Value} {h0 : Heap} {Ls : Array Slot} (hpl : plainFor y = true) (hef : ∀ m, entryFrame m as' ml = mkF m 0 Ls [])
    (body : ∀ (p : Program) (e : Env) (s : State) (m : MethodId) (below : List Frame) (meth : Method) (c : Code) (s₁ S0 : State), p.tables.exec = Jvm.exec → c.code = bs → c.maxLocals = ml → meth.sig.returnType = rt → meth.locks = false → meth.name = y.name →
      s.vm.findClass y.cls = some m.cls → Z.Warmed39 s.vm → Stand p l e R s m as' below meth c s₁ [] 0 0 → s₁.heap = h0 → To p.tables e below S0 (s₁.setTop (mkF m 0 Ls [])) → Fin p e below s R S0 Q) : Con l Z y bs ml rt ws R as' h0 Q := by
  refine MetFree.of_bodySF hpl hisR ?_
  intro p e s m args below meth c s₁ Bd hml0 hP hK
  obtain ⟨rfl, hZ, hh⟩ := hP
  exact body p e s m below meth c s₁ _ Bd.exec Bd.bytes hml0 Bd.returns Bd.notSynchronized (name_of_methodNamed Bd.named Bd.method).1 (findClass_of_methodNamed Bd.named) hZ (Stand.of_body Bd) (by rw [← hh, Bd.state]; rfl) (fun t k => castTop (hef m) k)
theorem retV (X : Stand p l e R s m args below meth c T locs cells slots) (hx : p.tables.exec = Jvm.exec) {pc : Nat} {Ls : Array Slot} {w : Value} {t : FieldType} {i : Instr} {rest : List Value} (hret : meth.sig.returnType = some t) (hlk : meth.locks = false) (hn : narrow t w = w)
    (hi : (i = .ireturn ∧ (t = .int ∨ t = .boolean ∨ t = .byte ∨ t = .char ∨ t = .short) ∧ ∃ z, w = .int z) ∨ (i = .lreturn ∧ t = .long ∧ ∃ z, w = .long z) ∨ (i = .dreturn ∧ t = .double ∧ ∃ z, w = .double z) ∨ (i = .freturn ∧ t = .float ∧ ∃ z, w = .float z) ∨ (i = .areturn ∧ t.isReference = true ∧ w.isRef = true))
    (hd : decode c.code pc = .ok (i, 1)) (k : To p.tables e below S0 (T.setTop (mkF m pc Ls (w :: rest)))) (hQ : Q (some w) T.heap locs) (hc : cells ≤ R.cells) (hs : slots ≤ R.slots) : Fin p e below s R S0 Q := by
  obtain ⟨fs, hr, hrun, hended, hW, hsame⟩ := X.leave (v := some w) (fun h => by rw [hret] at h; cases h) hlk
  exact ⟨_, _, k _ (retOut X hx hret hn hi hd hr), hrun, hended, _, _, rfl, hQ, ⟨_, rfl⟩, hW, hsame.mono hc hs⟩
theorem retInt (X : Stand p l e R s m args below meth c T locs cells slots) (hx : p.tables.exec = Jvm.exec) {pc : Nat} {Ls : Array Slot} {z : Int32} {t : FieldType} {rest : List Value} (hret : meth.sig.returnType = some t) (hlk : meth.locks = false) (ht : t = .int ∨ t = .boolean ∨ t = .byte ∨ t = .char ∨ t = .short) (hn : narrow t (.int z) = .int z)
    (hd : decode c.code pc = .ok (.ireturn, 1)) (k : To p.tables e below S0 (T.setTop (mkF m pc Ls (.int z :: rest)))) (hQ : Q (some (.int z)) T.heap locs) (hc : cells ≤ R.cells) (hs : slots ≤ R.slots) : Fin p e below s R S0 Q :=
  retV X hx hret hlk hn (Or.inl ⟨rfl, ht, z, rfl⟩) hd k hQ hc hs
theorem retRef (X : Stand p l e R s m args below meth c T locs cells slots) (hx : p.tables.exec = Jvm.exec) {pc : Nat} {Ls : Array Slot} {w : Value} {t : FieldType} {rest : List Value} (hret : meth.sig.returnType = some t) (hlk : meth.locks = false) (ht : t.isReference = true) (hw : w.isRef = true)
    (hd : decode c.code pc = .ok (.areturn, 1)) (k : To p.tables e below S0 (T.setTop (mkF m pc Ls (w :: rest)))) (hQ : Q (some w) T.heap locs) (hc : cells ≤ R.cells) (hs : slots ≤ R.slots) : Fin p e below s R S0 Q :=
  retV X hx hret hlk (by rcases ref_cases hw with rfl | ⟨z, rfl⟩ <;> cases t <;> first | rfl | (cases ht; done)) (Or.inr (Or.inr (Or.inr (Or.inr ⟨rfl, ht, hw⟩)))) hd k hQ hc hs
theorem retLong (X : Stand p l e R s m args below meth c T locs cells slots) (hx : p.tables.exec = Jvm.exec) {pc : Nat} {Ls : Array Slot} {z : Int64} {rest : List Value} (hret : meth.sig.returnType = some .long) (hlk : meth.locks = false)
    (hd : decode c.code pc = .ok (.lreturn, 1)) (k : To p.tables e below S0 (T.setTop (mkF m pc Ls (.long z :: rest)))) (hQ : Q (some (.long z)) T.heap locs) (hc : cells ≤ R.cells) (hs : slots ≤ R.slots) : Fin p e below s R S0 Q :=
  retV X hx hret hlk rfl (Or.inr (Or.inl ⟨rfl, rfl, z, rfl⟩)) hd k hQ hc hs
theorem retVoid (X : Stand p l e R s m args below meth c T locs cells slots) (hx : p.tables.exec = Jvm.exec) {pc : Nat} {Ls : Array Slot} (hret : meth.sig.returnType = none) (hlk : meth.locks = false)
    (hd : decode c.code pc = .ok (.return_, 1)) (k : To p.tables e below S0 (T.setTop (mkF m pc Ls []))) (hQ : Q none T.heap locs) (hc : cells ≤ R.cells) (hs : slots ≤ R.slots) : Fin p e below s R S0 Q := by
  obtain ⟨fs, hr, hrun, hended, hW, hsame⟩ := X.leave (v := none) (fun _ => rfl) hlk
  exact ⟨_, _, k _ (X.returnOut hx hret hd hr), hrun, hended, _, _, rfl, hQ, ⟨_, rfl⟩, hW, hsame.mono hc hs⟩
theorem backC {y : MethodName} {bs : ByteArray} {ml : Nat} {rt : Option FieldType} {rm : Room} {len W : Nat} {as' : Array Value} (hM : Con l Z y bs ml rt [] rm as' h Q) (hZ : Z.Warmed39 s.vm) (wc : (Cond.code y bs ml rt).before a0 Z = true) (wz : (Cond.initialized y.cls).before a0 Z = true) (hf : rm.frames + 1 ≤ R.frames) (hl : W + (ml + 11) + rm.locals ≤ R.locals) :
    Back l R p e below s args y len W (fun A a => a = as' ∧ A.U.heap = h ∧ A.cells + rm.cells ≤ R.cells ∧ A.slots + rm.slots ≤ R.slots) (fun A _ v B => ∃ L, Q v B.U.heap L ∧ B.locs = A.locs ++ L ∧ B.cells = A.cells + rm.cells ∧ B.slots = A.slots + rm.slots) :=
  backOf (Q := Q) hM hZ wc wz hf hl
/-! calls by a contract -/
theorem callS' (X : Stand p l e R s m args below meth c T locs cells slots) (hx : p.tables.exec = Jvm.exec) (hZ : Z.Warmed39 s.vm) {own : String} {index : Nat} {y : MethodName} {bs : ByteArray} {ml : Nat} {rt : Option FieldType} {cc ss W : Nat} {as' : Array Value} {Q : Option Value → Heap → List Loc → Prop}
    (hown : s.vm.findClass own = some m.cls) (w1 : (Cond.methodLink own index y).before a0 Z = true) (w2 : (Cond.static y).before a0 Z = true) (w3 : (Cond.initialized y.cls).before a0 Z = true) (w4 : (Cond.code y bs ml rt).before a0 Z = true) (hy : y.cls ≠ "java/lang/invoke/MethodHandle" ∧ y.cls ≠ "java/lang/invoke/VarHandle")
    (hK : Back l R p e below s args y 3 W (fun A a => a = as' ∧ A.U.heap = h ∧ A.cells + cc ≤ R.cells ∧ A.slots + ss ≤ R.slots) (fun A _ v B => ∃ L, Q v B.U.heap L ∧ B.locs = A.locs ++ L ∧ B.cells = A.cells + cc ∧ B.slots = A.slots + ss)) (eT : T.heap = h) {pc : Nat} {Ls : Array Slot} {st argsL rest : List Value} (hst : st = argsL.reverse ++ rest) (has : argsL.toArray = as') {ps : List FieldType} {r : Option FieldType} (hpd : parseMethodDescriptor y.desc = some ⟨ps, r⟩) (hlen : argsL.length = ps.length) (hsize : Ls.size = c.maxLocals)
    (hd : decode c.code pc = .ok (.invokestatic index, 3)) (hW : (rest.map fun v => v.category).sum ≤ W) (hc : cells + cc ≤ R.cells) (hs : slots + ss ≤ R.slots) (k : To p.tables e below S0 (T.setTop (mkF m pc Ls st))) :
    ∃ v T' L, Stand p l e R s m args below meth c T' (locs ++ L) (cells + cc) (slots + ss) ∧ Q v T'.heap L ∧ To p.tables e below S0 (T'.setTop (mkF m (pc + 3) Ls (v.toList ++ rest))) := by
  obtain ⟨v, vm₁, ⟨T', L', k', n'⟩, -, X', ⟨L, hQ, q1, q2, q3⟩, stp⟩ := Jvm.LawKit.callS X hx hown (mvT hZ w1) (mvT hZ w2) (mvT hZ w3) (mvT hZ w4) hy hK (g := mkF m pc Ls st) rfl hsize (argsL := argsL) (rest := rest) (lenOf hpd hlen) hst (by show 2 * 0 + _ ≤ _; omega) hd (fun _ _ => ⟨has, eT, hc, hs⟩)
  dsimp only [Pt.U, Pt.locs, Pt.cells, Pt.slots] at X' q1 q2 q3 stp hQ
  subst q1 q2 q3
  exact ⟨v, T', L, X', hQ, fun t q => k t (stp t q)⟩
theorem callC' (X : Stand p l e R s m args below meth c T locs cells slots) (hx : p.tables.exec = Jvm.exec) (hZ : Z.Warmed39 s.vm) {own : String} {index : Nat} {y : MethodName} {bs : ByteArray} {ml : Nat} {cc ss W : Nat} {as' : Array Value} {Q : Option Value → Heap → List Loc → Prop}
    (hy1 : y.name = "<init>") (hown : s.vm.findClass own = some m.cls) (w1 : (Cond.methodLink own index y).before a0 Z = true) (w2 : (Cond.instanceMethod y).before a0 Z = true) (w4 : (Cond.code y bs ml none).before a0 Z = true) (hy : y.cls ≠ "java/lang/invoke/MethodHandle" ∧ y.cls ≠ "java/lang/invoke/VarHandle")
    (hK : Back l R p e below s args y 3 W (fun A a => a = as' ∧ A.U.heap = h ∧ A.cells + cc ≤ R.cells ∧ A.slots + ss ≤ R.slots) (fun A _ v B => ∃ L, Q v B.U.heap L ∧ B.locs = A.locs ++ L ∧ B.cells = A.cells + cc ∧ B.slots = A.slots + ss)) (eT : T.heap = h) {pc : Nat} {Ls : Array Slot} {a : Addr} {st argsL rest : List Value} (hst : st = argsL.reverse ++ .ref a :: rest) (has : (.ref a :: argsL).toArray = as') {ps : List FieldType} {r : Option FieldType} (hpd : parseMethodDescriptor y.desc = some ⟨ps, r⟩) (hlen : argsL.length = ps.length) (hsize : Ls.size = c.maxLocals)
    (hd : decode c.code pc = .ok (.invokespecial index, 3)) (hW : (rest.map fun v => v.category).sum ≤ W) (hc : cells + cc ≤ R.cells) (hs : slots + ss ≤ R.slots) (k : To p.tables e below S0 (T.setTop (mkF m pc Ls st))) :
    ∃ v T' L, Stand p l e R s m args below meth c T' (locs ++ L) (cells + cc) (slots + ss) ∧ Q v T'.heap L ∧ To p.tables e below S0 (T'.setTop (mkF m (pc + 3) Ls (v.toList ++ rest))) := by
  obtain ⟨v, vm₁, ⟨T', L', k', n'⟩, -, X', ⟨L, hQ, q1, q2, q3⟩, stp⟩ := X.specialBack hx hy1 hown (mvT hZ w1) (mvT hZ w2) (mvT hZ w4) hy hK (g := mkF m pc Ls st) rfl hsize (Steps.refl _) (a := a) (argsL := argsL) (rest := rest) (lenOf hpd hlen) hst (by show 2 * 0 + _ ≤ _; omega) hd (fun _ _ => ⟨has, eT, hc, hs⟩)
  dsimp only [Pt.U, Pt.locs, Pt.cells, Pt.slots] at X' q1 q2 q3 stp hQ
  subst q1 q2 q3
  exact ⟨v, T', L, X', hQ, fun t q => k t (stp.trans q)⟩
theorem callV' (X : Stand p l e R s m args below meth c T locs cells slots) (hx : p.tables.exec = Jvm.exec) (hZ : Z.Warmed39 s.vm) {own C : String} {index : Nat} {y z : MethodName} {cc ss W : Nat} {as' : Array Value} {Q : Option Value → Heap → List Loc → Prop}
    (hown : s.vm.findClass own = some m.cls) (w1 : (Cond.methodLink own index y).before a0 Z = true) (w2 : (Cond.declares y).before a0 Z = true) (hnf : NotFace s y) (w5 : (Cond.selects C y z).before a0 Z = true) (w6 : (Cond.instanceMethod z).before a0 Z = true)
    (hy : y.cls ≠ "java/lang/invoke/MethodHandle" ∧ y.cls ≠ "java/lang/invoke/VarHandle") {b : Addr} (E : Exa Z h b C)
    (hK : Back l R p e below s args z 3 W (fun A a => a = as' ∧ A.U.heap = h ∧ A.cells + cc ≤ R.cells ∧ A.slots + ss ≤ R.slots) (fun A _ v B => ∃ L, Q v B.U.heap L ∧ B.locs = A.locs ++ L ∧ B.cells = A.cells + cc ∧ B.slots = A.slots + ss)) (eT : T.heap = h) {pc : Nat} {Ls : Array Slot} {st argsL rest : List Value} (hst : st = argsL.reverse ++ .ref b :: rest) (has : (.ref b :: argsL).toArray = as') {ps : List FieldType} {r : Option FieldType} (hpd : parseMethodDescriptor y.desc = some ⟨ps, r⟩) (hlen : argsL.length = ps.length) (hsize : Ls.size = c.maxLocals)
    (hd : decode c.code pc = .ok (.invokevirtual index, 3)) (hW : (rest.map fun v => v.category).sum ≤ W) (hc : cells + cc ≤ R.cells) (hs : slots + ss ≤ R.slots) (k : To p.tables e below S0 (T.setTop (mkF m pc Ls st))) :
    ∃ v T' L, Stand p l e R s m args below meth c T' (locs ++ L) (cells + cc) (slots + ss) ∧ Q v T'.heap L ∧ To p.tables e below S0 (T'.setTop (mkF m (pc + 3) Ls (v.toList ++ rest))) := by
  obtain ⟨cq, kq, qa, qb, qc⟩ := isOf hZ eT E
  obtain ⟨v, vm₁, ⟨T', L', k', n'⟩, -, X', ⟨L, hQ, q1, q2, q3⟩, stp⟩ := X.virtualBack hx hown (mvT hZ w1) (mvT hZ w2) hnf (mvT hZ w5) (mvT hZ w6) hy hK qa qc (g := mkF m pc Ls st) rfl hsize (Steps.refl _) (argsL := argsL) (rest := rest) (lenOf hpd hlen) hst (by show 2 * 0 + _ ≤ _; omega) hd (fun _ _ => ⟨has, eT, hc, hs⟩)
  dsimp only [Pt.U, Pt.locs, Pt.cells, Pt.slots] at X' q1 q2 q3 stp hQ
  subst q1 q2 q3
  exact ⟨v, T', L, X', hQ, fun t q => k t (stp.trans q)⟩
theorem callU' (X : Stand p l e R s m args below meth c T locs cells slots) (hx : p.tables.exec = Jvm.exec) (hZ : Z.Warmed39 s.vm) {own C owner : String} {index : Nat} {y z : MethodName} {cc ss W : Nat} {as' : Array Value} {Q : Option Value → Heap → List Loc → Prop}
    (hown : s.vm.findClass own = some m.cls) (w1 : (Cond.methodLink own index y).before a0 Z = true) (w7 : (Cond.sameMethod y.cls owner y.name y.desc).before a0 Z = true) (w2 : (Cond.declares ⟨owner, y.name, y.desc⟩).before a0 Z = true) (w5 : (Cond.selects C y z).before a0 Z = true) (w6 : (Cond.instanceMethod z).before a0 Z = true)
    (hy : owner ≠ "java/lang/invoke/MethodHandle" ∧ owner ≠ "java/lang/invoke/VarHandle") {b : Addr} (E : Exa Z h b C)
    (hK : Back l R p e below s args z 3 W (fun A a => a = as' ∧ A.U.heap = h ∧ A.cells + cc ≤ R.cells ∧ A.slots + ss ≤ R.slots) (fun A _ v B => ∃ L, Q v B.U.heap L ∧ B.locs = A.locs ++ L ∧ B.cells = A.cells + cc ∧ B.slots = A.slots + ss)) (eT : T.heap = h) {pc : Nat} {Ls : Array Slot} {st argsL rest : List Value} (hst : st = argsL.reverse ++ .ref b :: rest) (has : (.ref b :: argsL).toArray = as') {ps : List FieldType} {r : Option FieldType} (hpd : parseMethodDescriptor y.desc = some ⟨ps, r⟩) (hlen : argsL.length = ps.length) (hsize : Ls.size = c.maxLocals)
    (hd : decode c.code pc = .ok (.invokevirtual index, 3)) (hW : (rest.map fun v => v.category).sum ≤ W) (hc : cells + cc ≤ R.cells) (hs : slots + ss ≤ R.slots) (k : To p.tables e below S0 (T.setTop (mkF m pc Ls st))) :
    ∃ v T' L, Stand p l e R s m args below meth c T' (locs ++ L) (cells + cc) (slots + ss) ∧ Q v T'.heap L ∧ To p.tables e below S0 (T'.setTop (mkF m (pc + 3) Ls (v.toList ++ rest))) := by
  obtain ⟨cq, kq, qa, qb, qc⟩ := isOf hZ eT E
  obtain ⟨v, vm₁, ⟨T', L', k', n'⟩, -, X', ⟨L, hQ, q1, q2, q3⟩, stp⟩ := X.virtualBackUp hx hown (mvT hZ w1) (mvT hZ w7) (mvT hZ w2) hy (mvT hZ w5) (mvT hZ w6) hK qa qc (g := mkF m pc Ls st) rfl hsize (Steps.refl _) (argsL := argsL) (rest := rest) (lenOf hpd hlen) hst (by show 2 * 0 + _ ≤ _; omega) hd (fun _ _ => ⟨has, eT, hc, hs⟩)
  dsimp only [Pt.U, Pt.locs, Pt.cells, Pt.slots] at X' q1 q2 q3 stp hQ
  subst q1 q2 q3
  exact ⟨v, T', L, X', hQ, fun t q => k t (stp.trans q)⟩
theorem callI' (X : Stand p l e R s m args below meth c T locs cells slots) (hx : p.tables.exec = Jvm.exec) (hZ : Z.Warmed39 s.vm) {own C : String} {index count : Nat} {y z : MethodName} {cc ss W : Nat} {as' : Array Value} {Q : Option Value → Heap → List Loc → Prop}
    (hown : s.vm.findClass own = some m.cls) (w1 : (Cond.methodLink own index y).before a0 Z = true) (w2 : (Cond.declares y).before a0 Z = true) (w7 : (Cond.interfaceMethod y.cls y.cls y.name y.desc).before a0 Z = true) (hd7 : ((Cond.interfaceMethod y.cls y.cls y.name y.desc).onTables && (Cond.interfaceMethod y.cls y.cls y.name y.desc).keepsFace) = true) (w5 : (Cond.selects C y z).before a0 Z = true) (w6 : (Cond.instanceMethod z).before a0 Z = true) (w8 : (Cond.publicMethod z).before a0 Z = true) (w9 : (Cond.unhidden C y.name y.desc).before a0 Z = true) (w10 : (Cond.castable C y.cls).before a0 Z = true)
    (hy : y.cls ≠ "java/lang/invoke/MethodHandle" ∧ y.cls ≠ "java/lang/invoke/VarHandle") {b : Addr} (E : Exa Z h b C)
    (hK : Back l R p e below s args z 5 W (fun A a => a = as' ∧ A.U.heap = h ∧ A.cells + cc ≤ R.cells ∧ A.slots + ss ≤ R.slots) (fun A _ v B => ∃ L, Q v B.U.heap L ∧ B.locs = A.locs ++ L ∧ B.cells = A.cells + cc ∧ B.slots = A.slots + ss)) (eT : T.heap = h) {pc : Nat} {Ls : Array Slot} {st argsL rest : List Value} (hst : st = argsL.reverse ++ .ref b :: rest) (has : (.ref b :: argsL).toArray = as') {ps : List FieldType} {r : Option FieldType} (hpd : parseMethodDescriptor y.desc = some ⟨ps, r⟩) (hlen : argsL.length = ps.length) (hsize : Ls.size = c.maxLocals)
    (hd : decode c.code pc = .ok (.invokeinterface index count, 5)) (hW : (rest.map fun v => v.category).sum ≤ W) (hc : cells + cc ≤ R.cells) (hs : slots + ss ≤ R.slots) (k : To p.tables e below S0 (T.setTop (mkF m pc Ls st))) :
    ∃ v T' L, Stand p l e R s m args below meth c T' (locs ++ L) (cells + cc) (slots + ss) ∧ Q v T'.heap L ∧ To p.tables e below S0 (T'.setTop (mkF m (pc + 5) Ls (v.toList ++ rest))) := by
  obtain ⟨cq, kq, qa, qb, qc⟩ := isOf hZ eT E
  obtain ⟨v, vm₁, ⟨T', L', k', n'⟩, -, X', ⟨L, hQ, q1, q2, q3⟩, stp⟩ := X.interfaceBack hx hown (mvT hZ w1) (mvT hZ w2) (mvT hZ w7 hd7) (mvT hZ w5) (mvT hZ w6) (mvT hZ w8) (mvT hZ w9) (mvT hZ w10) hy hK qa qb qc (g := mkF m pc Ls st) rfl hsize (Steps.refl _) (argsL := argsL) (rest := rest) (lenOf hpd hlen) hst (by show 2 * 0 + _ ≤ _; omega) hd (fun _ _ => ⟨has, eT, hc, hs⟩)
  dsimp only [Pt.U, Pt.locs, Pt.cells, Pt.slots] at X' q1 q2 q3 stp hQ
  subst q1 q2 q3
  exact ⟨v, T', L, X', hQ, fun t q => k t (stp.trans q)⟩
theorem staOld {n0 : Nat} {C n d : String} {v : Value} (F : Sta Z Z.heap C n d v) (O : Old Z n0 h) : Sta Z h C n d v := F.ext O.2
theorem exaOld {n0 : Nat} {C : String} {a : Addr} (F : Exa Z Z.heap a C) (O : Old Z n0 h) : Exa Z h a C := F.ext O.2
theorem fldOld {n0 : Nat} {C n d : String} {a : Addr} {v : Value} (F : Fld Z Z.heap a C n d v) (O : Old Z n0 h) : Fld Z h a C n d v := F.ext O.2
theorem joinT (X : Stand p l e R s m args below meth c T locs cells slots) (eT : T.heap = h) (F : JFrame) {G : Prop} (br : (∀ T', Stand p l e R s m args below meth c T' locs cells slots → T'.heap = h → To p.tables e below S0 (T'.setTop F) → G) → G)
    (rest : ∀ T', Stand p l e R s m args below meth c T' locs cells slots → T'.heap = h → To p.tables e below S0 (T'.setTop F) → G) : G := br rest
theorem adr_ne {a b : Nat} (h : ¬ a = b) : a ≠ b := h
theorem own_nz {s : State} {args : Array Value} {t : Term} {z : Int32} (e : t.eval args s none [] s = some (.int z)) (h : (Jvm.Cond.not (.eq t (.int 0))).value args s none s [] = some true) : ¬ z = (0 : Int32) := fun q => by
  subst q; have h2 := not_v h; simp [Cond.value, e, Term.eval] at h2
theorem fits_isref {C : String} {w : Value} (h : w.isRef = true) : fits (.object C) w = true := by rcases ref_cases h with rfl | ⟨z, rfl⟩ <;> rfl
theorem narrow_ref {t : FieldType} {w : Value} (h : w.isRef = true) : narrow t w = w := by rcases ref_cases h with rfl | ⟨z, rfl⟩ <;> cases t <;> rfl
end Own
theorem own_and255 (c : Int32) : ¬ (c &&& 255).toInt < 0 ∧ (c &&& 255).toInt ≤ 255 := by
  have h : (c &&& 255).toBitVec.toNat ≤ 255 := by
    rw [Int32.toBitVec_and, BitVec.toNat_and]; exact Nat.and_le_right
  have h2 : (c &&& 255).toInt = ((c &&& 255).toBitVec.toNat : Int) := by
    show (c &&& 255).toBitVec.toInt = _
    rw [BitVec.toInt_eq_toNat_of_lt (by omega)]
  omega
theorem own_small (c : Int32) : (c &&& 255) < (65536 : Int32) := by
  have h := own_and255 c
  rw [Int32.lt_iff_toInt_lt]; have : (65536 : Int32).toInt = 65536 := by decide
  omega
theorem d_jdk_43_method_3_code_0 : decode jdk_43_method_3_code 0 = .ok (.iload_n 0, 1) := by decide +kernel
theorem d_jdk_43_method_3_code_1 : decode jdk_43_method_3_code 1 = .ok (.sipush 255, 3) := by decide +kernel
theorem d_jdk_43_method_3_code_4 : decode jdk_43_method_3_code 4 = .ok (.if_icmp .gt 7, 3) := by decide +kernel
theorem d_jdk_43_method_3_code_7 : decode jdk_43_method_3_code 7 = .ok (.iconst 1, 1) := by decide +kernel
theorem d_jdk_43_method_3_code_8 : decode jdk_43_method_3_code 8 = .ok (.goto 4, 3) := by decide +kernel
theorem d_jdk_43_method_3_code_11 : decode jdk_43_method_3_code 11 = .ok (.iconst 0, 1) := by decide +kernel
theorem d_jdk_43_method_3_code_12 : decode jdk_43_method_3_code 12 = .ok (.ireturn, 1) := by decide +kernel
theorem pn_0 : plainName "java/lang/StringLatin1" = true := by first | (simp [plainName, overriddenIn]; done) | decide +kernel
set_option maxRecDepth 65536 in
set_option maxHeartbeats 40000000 in
theorem rm_enc (l : Launch) (Z : State) (a0 : Array Value) (hw : ∀ d ∈ tables_1, d.before a0 Z = true) (c : Int32) (h0 : Heap) (n0 : Nat) (hn0 : n0 ≤ h0.size) (hc : ¬ (255 : Int32) < c) :
    Con l Z (⟨"java/lang/StringLatin1", "canEncode", "(C)Z"⟩ : MethodName) jdk_43_method_3_code 1 (some .boolean) [] ({ frames := 0, cells := 0, slots := 0, locals := 0 } : Room) #[(.int c)] h0 (fun v h L => v = some (.int (1 : Int32)) ∧ Fr n0 L ∧ h = h0) := by
  refine enter (Ls := #[.val (.int c)]) (plainFor_of_name pn_0) (fun m => by exact entry_eq rfl) ?_
  intro p e s m below meth cd_ s₁ S0 hx hby hml hret hlk hnm hown hZ X0 e0 k0
  have N0 := Fr.nil n0
  have k1 : To p.tables e below S0 (s₁.setTop (mkF m 12 #[.val (.int c)] [(.int (1 : Int32))])) := fun tt hq => k0 tt (by
    show Steps _ _ _ (s₁.setTop (mkF m 0 #[.val (.int c)] [])) _
    refine XS.iloadN X0.here hx rfl (hb hby d_jdk_43_method_3_code_0) rfl ?_
    show Steps _ _ _ (s₁.setTop (mkF m 1 #[.val (.int c)] [(.int c)])) _
    refine XS.sipush X0.here hx rfl (hb hby d_jdk_43_method_3_code_1) ?_
    show Steps _ _ _ (s₁.setTop (mkF m 4 #[.val (.int c)] [(.int (255 : Int32)), (.int c)])) _
    refine XS.icmpNo X0.here hx rfl (hb hby d_jdk_43_method_3_code_4) rfl (flt hc).2.2.1 ?_
    show Steps _ _ _ (s₁.setTop (mkF m 7 #[.val (.int c)] [])) _
    refine XS.iconst X0.here hx rfl (hb hby d_jdk_43_method_3_code_7) ?_
    show Steps _ _ _ (s₁.setTop (mkF m 8 #[.val (.int c)] [(.int (1 : Int32))])) _
    refine XS.goto X0.here hx rfl (pc0 := 8) (pc' := 12) rfl (hb hby d_jdk_43_method_3_code_8) (by decide) (by decide) ?_
    show Steps _ _ _ (s₁.setTop (mkF m 12 #[.val (.int c)] [(.int (1 : Int32))])) _
    exact hq)
  have hE := e0
  refine retInt X0 hx hret hlk (by simp) rfl (hb hby d_jdk_43_method_3_code_12) k1 ?_ (by decide) (by decide)
  try rw [hE]
  exact ⟨rfl, N0, rfl⟩
theorem d_jdk_43_method_46_code_0 : decode jdk_43_method_46_code 0 = .ok (.iconst 1, 1) := by decide +kernel
theorem d_jdk_43_method_46_code_1 : decode jdk_43_method_46_code 1 = .ok (.newarray .byte, 2) := by decide +kernel
theorem d_jdk_43_method_46_code_3 : decode jdk_43_method_46_code 3 = .ok (.dup, 1) := by decide +kernel
theorem d_jdk_43_method_46_code_4 : decode jdk_43_method_46_code 4 = .ok (.iconst 0, 1) := by decide +kernel
theorem d_jdk_43_method_46_code_5 : decode jdk_43_method_46_code 5 = .ok (.iload_n 0, 1) := by decide +kernel
theorem d_jdk_43_method_46_code_6 : decode jdk_43_method_46_code 6 = .ok (.i2b, 1) := by decide +kernel
theorem d_jdk_43_method_46_code_7 : decode jdk_43_method_46_code 7 = .ok (.bastore, 1) := by decide +kernel
theorem d_jdk_43_method_46_code_8 : decode jdk_43_method_46_code 8 = .ok (.areturn, 1) := by decide +kernel
set_option maxRecDepth 65536 in
set_option maxHeartbeats 40000000 in
theorem rm_tob (l : Launch) (Z : State) (a0 : Array Value) (hw : ∀ d ∈ tables_1, d.before a0 Z = true) (c : Int32) (h0 : Heap) (n0 : Nat) (hn0 : n0 ≤ h0.size)  :
    Con l Z (⟨"java/lang/StringLatin1", "toBytes", "(C)[B"⟩ : MethodName) jdk_43_method_46_code 1 (some (.array .byte)) [] ({ frames := 0, cells := 1, slots := 1, locals := 0 } : Room) #[(.int c)] h0 (fun v h L => ∃ (t : Addr) (k : ClassId), v = some (.ref t) ∧ Fr n0 L ∧ h0.size ≤ t ∧ Keep h0 h [] ∧ Arv Z h t k .byte (1 : Int32) [(.int (nar .byte (c.toInt8.toInt32)))] (.int (0 : Int32))) := by
  refine enter (Ls := #[.val (.int c)]) (plainFor_of_name pn_0) (fun m => by exact entry_eq rfl) ?_
  intro p e s m below meth cd_ s₁ S0 hx hby hml hret hlk hnm hown hZ X0 e0 k0
  have N0 := Fr.nil n0
  have k1 : To p.tables e below S0 (s₁.setTop (mkF m 1 #[.val (.int c)] [(.int (1 : Int32))])) := fun tt hq => k0 tt (by
    show Steps _ _ _ (s₁.setTop (mkF m 0 #[.val (.int c)] [])) _
    refine XS.iconst X0.here hx rfl (hb hby d_jdk_43_method_46_code_0) ?_
    show Steps _ _ _ (s₁.setTop (mkF m 1 #[.val (.int c)] [(.int (1 : Int32))])) _
    exact hq)
  obtain ⟨T2, h2, c2, X2, e2, E2, A2, st2⟩ := newP X0 hx hZ (hw _ (List.mem_of_getElem? (i := 17) rfl)) e0 (g := (mkF m 1 #[.val (.int c)] [(.int (1 : Int32))])) rfl (hb hby d_jdk_43_method_46_code_1) rfl (by decide) (cap := 1) (by decide) (by decide) (by decide) (by decide)
  obtain ⟨b2, g2⟩ : ∃ z, z = h0.size := ⟨_, rfl⟩
  rw [← g2] at A2 st2
  have k2 : To p.tables e below S0 (T2.setTop (mkF m 3 #[.val (.int c)] [(.ref b2)])) := fun tt hq => k1 tt (st2 tt hq)
  have z2 : h0.size ≤ h2.size := E2.1
  have V2 : Arv Z h2 b2 c2 .byte (1 : Int32) [(.int (0 : Int32))] (.int (0 : Int32)) := (Arv.new A2 (by decide)).pad (pad_rep [] (.int (0 : Int32)) 1)
  have y2 : @LT.lt Nat instLTNat b2 h2.size := V2.lt
  have k3 : To p.tables e below S0 (T2.setTop (mkF m 7 #[.val (.int c)] [(.int (c.toInt8.toInt32)), (.int (0 : Int32)), (.ref b2), (.ref b2)])) := fun tt hq => k2 tt (by
    show Steps _ _ _ (T2.setTop (mkF m 3 #[.val (.int c)] [(.ref b2)])) _
    refine XS.dup X2.here hx rfl (hb hby d_jdk_43_method_46_code_3) rfl rfl ?_
    show Steps _ _ _ (T2.setTop (mkF m 4 #[.val (.int c)] [(.ref b2), (.ref b2)])) _
    refine XS.iconst X2.here hx rfl (hb hby d_jdk_43_method_46_code_4) ?_
    show Steps _ _ _ (T2.setTop (mkF m 5 #[.val (.int c)] [(.int (0 : Int32)), (.ref b2), (.ref b2)])) _
    refine XS.iloadN X2.here hx rfl (hb hby d_jdk_43_method_46_code_5) rfl ?_
    show Steps _ _ _ (T2.setTop (mkF m 6 #[.val (.int c)] [(.int c), (.int (0 : Int32)), (.ref b2), (.ref b2)])) _
    refine XS.i2b X2.here hx rfl (hb hby d_jdk_43_method_46_code_6) rfl ?_
    show Steps _ _ _ (T2.setTop (mkF m 7 #[.val (.int c)] [(.int (c.toInt8.toInt32)), (.int (0 : Int32)), (.ref b2), (.ref b2)])) _
    exact hq)
  obtain ⟨cl4, Ar4, q4, S4, M4, G4, J4⟩ := id V2
  obtain ⟨T4, h4, X4, e4, W4, st4⟩ := stB X2 hx hZ e2 Ar4 (j := (0 : Int32)) (inb_of S4 ⟨by decide, by decide⟩) (g := (mkF m 7 #[.val (.int c)] [(.int (c.toInt8.toInt32)), (.int (0 : Int32)), (.ref b2), (.ref b2)])) rfl rfl (hb hby d_jdk_43_method_46_code_7)
  have k4 : To p.tables e below S0 (T4.setTop (mkF m 8 #[.val (.int c)] [(.ref b2)])) := fun tt hq => k3 tt (st4 tt hq)
  have z4 : h4.size = h2.size := W4.size
  have V4 : Arv Z h4 b2 c2 .byte (1 : Int32) [(.int (nar .byte (c.toInt8.toInt32)))] (.int (0 : Int32)) := Arv.set Ar4 q4 S4 M4 G4 J4 (fits_nar_byte _) W4 0 rfl (Nat.le_of_ble_eq_true rfl)
  have N4 := Fr.snoc X4 N0 (by omega : n0 ≤ b2)
  have hE := e4
  refine retRef X4 hx hret hlk rfl rfl (hb hby d_jdk_43_method_46_code_8) k4 ?_ (by decide) (by decide)
  try rw [hE]
  exact ⟨b2, _, rfl, N4, (by omega), (((Keep.refl h0 []).ext E2).wr W4 (Or.inr (by omega))), V4⟩
theorem d_jdk_42_method_151_code_0 : decode jdk_42_method_151_code 0 = .ok (.aload_n 0, 1) := by decide +kernel
theorem d_jdk_42_method_151_code_1 : decode jdk_42_method_151_code 1 = .ok (.invokespecial 1, 3) := by decide +kernel
theorem d_jdk_42_method_151_code_4 : decode jdk_42_method_151_code 4 = .ok (.aload_n 0, 1) := by decide +kernel
theorem d_jdk_42_method_151_code_5 : decode jdk_42_method_151_code 5 = .ok (.aload_n 1, 1) := by decide +kernel
theorem d_jdk_42_method_151_code_6 : decode jdk_42_method_151_code 6 = .ok (.putfield 9, 3) := by decide +kernel
theorem d_jdk_42_method_151_code_9 : decode jdk_42_method_151_code 9 = .ok (.aload_n 0, 1) := by decide +kernel
theorem d_jdk_42_method_151_code_10 : decode jdk_42_method_151_code 10 = .ok (.iload_n 2, 1) := by decide +kernel
theorem d_jdk_42_method_151_code_11 : decode jdk_42_method_151_code 11 = .ok (.putfield 15, 3) := by decide +kernel
theorem d_jdk_42_method_151_code_14 : decode jdk_42_method_151_code 14 = .ok (.return_, 1) := by decide +kernel
theorem pn_1 : plainName "java/lang/String" = true := by first | (simp [plainName, overriddenIn]; done) | decide +kernel
set_option maxRecDepth 65536 in
set_option maxHeartbeats 40000000 in
theorem rm_sbb (l : Launch) (Z : State) (a0 : Array Value) (hw : ∀ d ∈ tables_1, d.before a0 Z = true) (a : Addr) (t : Addr) (u1 : Value) (u2 : Value) (h0 : Heap) (n0 : Nat) (hn0 : n0 ≤ h0.size) (E0 : Exa Z h0 a "java/lang/String") (F1 : Fld Z h0 a "java/lang/String" "value" "[B" u1) (F2 : Fld Z h0 a "java/lang/String" "coder" "B" u2) (ga : n0 ≤ a) :
    Con l Z (⟨"java/lang/String", "<init>", "([BB)V"⟩ : MethodName) jdk_42_method_151_code 3 none [] ({ frames := 1, cells := 0, slots := 0, locals := 12 } : Room) #[(.ref a), (.ref t), (.int (0 : Int32))] h0 (fun v h L => v = none ∧ Fr n0 L ∧ Keep h0 h [a] ∧ Exa Z h a "java/lang/String" ∧ Fld Z h a "java/lang/String" "value" "[B" (.ref t) ∧ Fld Z h a "java/lang/String" "coder" "B" (.int (0 : Int32))) := by
  refine enter (Ls := #[.val (.ref a), .val (.ref t), .val (.int (0 : Int32))]) (plainFor_of_name pn_1) (fun m => by exact entry_eq rfl) ?_
  intro p e s m below meth cd_ s₁ S0 hx hby hml hret hlk hnm hown hZ X0 e0 k0
  have N0 := Fr.nil n0
  have k1 : To p.tables e below S0 (s₁.setTop (mkF m 1 #[.val (.ref a), .val (.ref t), .val (.int (0 : Int32))] [(.ref a)])) := fun tt hq => k0 tt (by
    show Steps _ _ _ (s₁.setTop (mkF m 0 #[.val (.ref a), .val (.ref t), .val (.int (0 : Int32))] [])) _
    refine XS.aloadN X0.here hx rfl (hb hby d_jdk_42_method_151_code_0) rfl rfl ?_
    show Steps _ _ _ (s₁.setTop (mkF m 1 #[.val (.ref a), .val (.ref t), .val (.int (0 : Int32))] [(.ref a)])) _
    exact hq)
  obtain ⟨T2, X2, e2, st2⟩ := initO X0 hx hZ hown (hw _ (List.mem_of_getElem? (i := 22) rfl)) (hw _ (List.mem_of_getElem? (i := 23) rfl)) (hw _ (List.mem_of_getElem? (i := 24) rfl)) e0 (g := (mkF m 1 #[.val (.ref a), .val (.ref t), .val (.int (0 : Int32))] [(.ref a)])) rfl (by rw [hml]; rfl) rfl (hb hby d_jdk_42_method_151_code_1) (by decide) (W := 0) (by show 2 * 0 + _ ≤ _; exact Nat.le_of_eq rfl) (by decide)
  have k2 : To p.tables e below S0 (T2.setTop (mkF m 4 #[.val (.ref a), .val (.ref t), .val (.int (0 : Int32))] [])) := fun tt hq => k1 tt (st2 tt hq)
  have k3 : To p.tables e below S0 (T2.setTop (mkF m 6 #[.val (.ref a), .val (.ref t), .val (.int (0 : Int32))] [(.ref t), (.ref a)])) := fun tt hq => k2 tt (by
    show Steps _ _ _ (T2.setTop (mkF m 4 #[.val (.ref a), .val (.ref t), .val (.int (0 : Int32))] [])) _
    refine XS.aloadN X2.here hx rfl (hb hby d_jdk_42_method_151_code_4) rfl rfl ?_
    show Steps _ _ _ (T2.setTop (mkF m 5 #[.val (.ref a), .val (.ref t), .val (.int (0 : Int32))] [(.ref a)])) _
    refine XS.aloadN X2.here hx rfl (hb hby d_jdk_42_method_151_code_5) rfl rfl ?_
    show Steps _ _ _ (T2.setTop (mkF m 6 #[.val (.ref a), .val (.ref t), .val (.int (0 : Int32))] [(.ref t), (.ref a)])) _
    exact hq)
  obtain ⟨T4, h4, X4, e4, W4, st4⟩ := putF X2 hx hZ hown (host := "") (Or.inl (hw _ (List.mem_of_getElem? (i := 25) rfl))) Via.refl e2 F1 E0 (Or.inr ⟨(hw _ (List.mem_of_getElem? (i := 26) rfl)), rfl, hnm⟩) (hw _ (List.mem_of_getElem? (i := 13) rfl)) (ty := (.array .byte)) (by decide) rfl rfl (g := (mkF m 6 #[.val (.ref a), .val (.ref t), .val (.int (0 : Int32))] [(.ref t), (.ref a)])) rfl rfl (hb hby d_jdk_42_method_151_code_6)
  have k4 : To p.tables e below S0 (T4.setTop (mkF m 9 #[.val (.ref a), .val (.ref t), .val (.int (0 : Int32))] [])) := fun tt hq => k3 tt (st4 tt hq)
  have z4 : h4.size = h0.size := W4.size
  have F4 := F1.same W4
  have N4 := Fr.snoc X4 N0 (by omega : n0 ≤ a)
  have f5 : Exa Z h4 a "java/lang/String" := (E0.wr W4)
  have f6 : Fld Z h4 a "java/lang/String" "coder" "B" u2 := (F2.other W4 (Or.inr (slot_ne (Or.inr (hw _ (List.mem_of_getElem? (i := 28) rfl))) (Or.inr (hw _ (List.mem_of_getElem? (i := 26) rfl))) (by decide) (t := .byte) (t' := (.array .byte)) (by decide) (by decide))))
  have k7 : To p.tables e below S0 (T4.setTop (mkF m 11 #[.val (.ref a), .val (.ref t), .val (.int (0 : Int32))] [(.int (0 : Int32)), (.ref a)])) := fun tt hq => k4 tt (by
    show Steps _ _ _ (T4.setTop (mkF m 9 #[.val (.ref a), .val (.ref t), .val (.int (0 : Int32))] [])) _
    refine XS.aloadN X4.here hx rfl (hb hby d_jdk_42_method_151_code_9) rfl rfl ?_
    show Steps _ _ _ (T4.setTop (mkF m 10 #[.val (.ref a), .val (.ref t), .val (.int (0 : Int32))] [(.ref a)])) _
    refine XS.iloadN X4.here hx rfl (hb hby d_jdk_42_method_151_code_10) rfl ?_
    show Steps _ _ _ (T4.setTop (mkF m 11 #[.val (.ref a), .val (.ref t), .val (.int (0 : Int32))] [(.int (0 : Int32)), (.ref a)])) _
    exact hq)
  obtain ⟨T8, h8, X8, e8, W8, st8⟩ := putF X4 hx hZ hown (host := "") (Or.inl (hw _ (List.mem_of_getElem? (i := 27) rfl))) Via.refl e4 f6 f5 (Or.inr ⟨(hw _ (List.mem_of_getElem? (i := 28) rfl)), rfl, hnm⟩) (hw _ (List.mem_of_getElem? (i := 13) rfl)) (ty := .byte) (by decide) rfl rfl (g := (mkF m 11 #[.val (.ref a), .val (.ref t), .val (.int (0 : Int32))] [(.int (0 : Int32)), (.ref a)])) rfl rfl (hb hby d_jdk_42_method_151_code_11)
  have k8 : To p.tables e below S0 (T8.setTop (mkF m 14 #[.val (.ref a), .val (.ref t), .val (.int (0 : Int32))] [])) := fun tt hq => k7 tt (st8 tt hq)
  have z8 : h8.size = h4.size := W8.size
  have F8 := f6.same W8
  have N8 := Fr.snoc X8 N4 (by omega : n0 ≤ a)
  have f9 : Exa Z h8 a "java/lang/String" := (f5.wr W8)
  have f10 : Fld Z h8 a "java/lang/String" "value" "[B" (.ref t) := (F4.other W8 (Or.inr (slot_ne (Or.inr (hw _ (List.mem_of_getElem? (i := 26) rfl))) (Or.inr (hw _ (List.mem_of_getElem? (i := 28) rfl))) (by decide) (t := (.array .byte)) (t' := .byte) (by decide) (by decide))))
  have hE := e8
  refine retVoid X8 hx hret hlk (hb hby d_jdk_42_method_151_code_14) k8 ?_ (by decide) (by decide)
  try rw [hE]
  exact ⟨rfl, N8, (((Keep.refl h0 [a]).wr W4 (Or.inl (by simp))).wr W8 (Or.inl (by simp))), f9, f10, F8⟩
theorem d_jdk_42_method_139_code_0 : decode jdk_42_method_139_code 0 = .ok (.getstatic 38, 3) := by decide +kernel
theorem d_jdk_42_method_139_code_3 : decode jdk_42_method_139_code 3 = .ok (.ifCond .eq 23, 3) := by decide +kernel
theorem d_jdk_42_method_139_code_6 : decode jdk_42_method_139_code 6 = .ok (.iload_n 0, 1) := by decide +kernel
theorem d_jdk_42_method_139_code_7 : decode jdk_42_method_139_code 7 = .ok (.invokestatic 1015, 3) := by decide +kernel
theorem d_jdk_42_method_139_code_10 : decode jdk_42_method_139_code 10 = .ok (.ifCond .eq 16, 3) := by decide +kernel
theorem d_jdk_42_method_139_code_13 : decode jdk_42_method_139_code 13 = .ok (.new 10, 3) := by decide +kernel
theorem d_jdk_42_method_139_code_16 : decode jdk_42_method_139_code 16 = .ok (.dup, 1) := by decide +kernel
theorem d_jdk_42_method_139_code_17 : decode jdk_42_method_139_code 17 = .ok (.iload_n 0, 1) := by decide +kernel
theorem d_jdk_42_method_139_code_18 : decode jdk_42_method_139_code 18 = .ok (.invokestatic 1018, 3) := by decide +kernel
theorem d_jdk_42_method_139_code_21 : decode jdk_42_method_139_code 21 = .ok (.iconst 0, 1) := by decide +kernel
theorem d_jdk_42_method_139_code_22 : decode jdk_42_method_139_code 22 = .ok (.invokespecial 209, 3) := by decide +kernel
theorem d_jdk_42_method_139_code_25 : decode jdk_42_method_139_code 25 = .ok (.areturn, 1) := by decide +kernel
theorem d_jdk_42_method_139_code_26 : decode jdk_42_method_139_code 26 = .ok (.new 10, 3) := by decide +kernel
theorem d_jdk_42_method_139_code_29 : decode jdk_42_method_139_code 29 = .ok (.dup, 1) := by decide +kernel
theorem d_jdk_42_method_139_code_30 : decode jdk_42_method_139_code 30 = .ok (.iload_n 0, 1) := by decide +kernel
theorem d_jdk_42_method_139_code_31 : decode jdk_42_method_139_code 31 = .ok (.invokestatic 1021, 3) := by decide +kernel
theorem d_jdk_42_method_139_code_34 : decode jdk_42_method_139_code 34 = .ok (.iconst 1, 1) := by decide +kernel
theorem d_jdk_42_method_139_code_35 : decode jdk_42_method_139_code 35 = .ok (.invokespecial 209, 3) := by decide +kernel
theorem d_jdk_42_method_139_code_38 : decode jdk_42_method_139_code 38 = .ok (.areturn, 1) := by decide +kernel
theorem pd_0 : parseMethodDescriptor "(C)Z" = some ⟨[.char], some .boolean⟩ := by decide +kernel
theorem pd_1 : parseMethodDescriptor "(C)[B" = some ⟨[.char], some (.array .byte)⟩ := by decide +kernel
theorem pd_2 : parseMethodDescriptor "([BB)V" = some ⟨[(.array .byte), .byte], none⟩ := by decide +kernel
set_option maxRecDepth 65536 in
set_option maxHeartbeats 40000000 in
theorem rm_vof (l : Launch) (Z : State) (a0 : Array Value) (hw : ∀ d ∈ tables_1, d.before a0 Z = true) (zc : Int32) (c : Int32) (h0 : Heap) (n0 : Nat) (hn0 : n0 ≤ h0.size) (S_c : Sta Z Z.heap "java/lang/String" "COMPACT_STRINGS" "Z" (.int zc)) (hzc : ¬ zc = (0 : Int32)) (O0 : Old Z n0 h0) (hc : ¬ (255 : Int32) < c) :
    Con l Z (⟨"java/lang/String", "valueOf", "(C)Ljava/lang/String;"⟩ : MethodName) jdk_42_method_139_code 1 (some (.object "java/lang/String")) [] ({ frames := 2, cells := 2, slots := 5, locals := 27 } : Room) #[(.int c)] h0 (fun v h L => ∃ (a t : Addr) (k : ClassId), v = some (.ref a) ∧ Fr n0 L ∧ h0.size ≤ a ∧ h0.size ≤ t ∧ Keep h0 h [] ∧ Exa Z h a "java/lang/String" ∧ Fld Z h a "java/lang/String" "value" "[B" (.ref t) ∧ Fld Z h a "java/lang/String" "coder" "B" (.int (0 : Int32)) ∧ Arv Z h t k .byte (1 : Int32) [(.int (nar .byte (c.toInt8.toInt32)))] (.int (0 : Int32))) := by
  refine enter (Ls := #[.val (.int c)]) (plainFor_of_name pn_1) (fun m => by exact entry_eq rfl) ?_
  intro p e s m below meth cd_ s₁ S0 hx hby hml hret hlk hnm hown hZ X0 e0 k0
  have N0 := Fr.nil n0
  obtain ⟨T1, X1, e1, st1⟩ := getS2 X0 hx hZ hown (host := "") (Or.inl (hw _ (List.mem_of_getElem? (i := 7) rfl))) Via.refl e0 (staOld S_c O0) (g := (mkF m 0 #[.val (.int c)] [])) rfl (hb hby d_jdk_42_method_139_code_0)
  have k1 : To p.tables e below S0 (T1.setTop (mkF m 3 #[.val (.int c)] [(.int zc)])) := fun tt hq => k0 tt (st1 tt hq)
  have k2 : To p.tables e below S0 (T1.setTop (mkF m 7 #[.val (.int c)] [(.int c)])) := fun tt hq => k1 tt (by
    show Steps _ _ _ (T1.setTop (mkF m 3 #[.val (.int c)] [(.int zc)])) _
    refine XS.ifNo X1.here hx rfl (hb hby d_jdk_42_method_139_code_3) rfl ((if0 _ _).trans (feq hzc).1) ?_
    show Steps _ _ _ (T1.setTop (mkF m 6 #[.val (.int c)] [])) _
    refine XS.iloadN X1.here hx rfl (hb hby d_jdk_42_method_139_code_6) rfl ?_
    show Steps _ _ _ (T1.setTop (mkF m 7 #[.val (.int c)] [(.int c)])) _
    exact hq)
  obtain ⟨_, T3, L3, X3, ⟨rfl, Nq3, eq3⟩, k3a⟩ := callS' X1 hx hZ (y := (⟨"java/lang/StringLatin1", "canEncode", "(C)Z"⟩ : MethodName)) hown (hw _ (List.mem_of_getElem? (i := 8) rfl)) (hw _ (List.mem_of_getElem? (i := 9) rfl)) (hw _ (List.mem_of_getElem? (i := 10) rfl)) (hw _ (List.mem_of_getElem? (i := 11) rfl)) (by decide) (backC (W := 0) (rm_enc l Z a0 hw c h0 n0 (by omega) hc) hZ (hw _ (List.mem_of_getElem? (i := 11) rfl)) (hw _ (List.mem_of_getElem? (i := 10) rfl)) (by decide) (by decide)) e1 (argsL := [(.int c)]) (rest := []) rfl rfl pd_0 rfl (by rw [hml]; rfl) (hb hby d_jdk_42_method_139_code_7) (Nat.le_of_eq rfl) (by decide) (by decide) k2
  have k3 : To p.tables e below S0 (T3.setTop (mkF m 10 #[.val (.int c)] [(.int (1 : Int32))])) := k3a
  have N3 := N0.app Nq3
  have e3 : T3.heap = h0 := eq3
  have k4 : To p.tables e below S0 (T3.setTop (mkF m 13 #[.val (.int c)] [])) := fun tt hq => k3 tt (by
    show Steps _ _ _ (T3.setTop (mkF m 10 #[.val (.int c)] [(.int (1 : Int32))])) _
    refine XS.ifNo X3.here hx rfl (hb hby d_jdk_42_method_139_code_10) rfl ((if0 _ _).trans (feq (by decide)).1) ?_
    show Steps _ _ _ (T3.setTop (mkF m 13 #[.val (.int c)] [])) _
    exact hq)
  obtain ⟨T5, h5, X5, e5, E5, A5, D5, -, st5⟩ := newO X3 hx hZ hown (hw _ (List.mem_of_getElem? (i := 12) rfl)) (hw _ (List.mem_of_getElem? (i := 13) rfl)) (hw _ (List.mem_of_getElem? (i := 5) rfl)) e3 (g := (mkF m 13 #[.val (.int c)] [])) rfl (hb hby d_jdk_42_method_139_code_13) (by decide) (by decide)
  obtain ⟨b5, g5⟩ : ∃ z, z = h0.size := ⟨_, rfl⟩
  rw [← g5] at A5 D5 st5
  have k5 : To p.tables e below S0 (T5.setTop (mkF m 16 #[.val (.int c)] [(.ref b5)])) := fun tt hq => k4 tt (st5 tt hq)
  have z5 : h0.size ≤ h5.size := E5.1
  have y5 : @LT.lt Nat instLTNat b5 h5.size := A5.lt
  have F5_value : Fld Z h5 b5 "java/lang/String" "value" "[B" .null := D5 (Or.inr (hw _ (List.mem_of_getElem? (i := 26) rfl))) (ty := (.array .byte)) (by decide)
  have F5_coder : Fld Z h5 b5 "java/lang/String" "coder" "B" (.int (0 : Int32)) := D5 (Or.inr (hw _ (List.mem_of_getElem? (i := 28) rfl))) (ty := .byte) (by decide)
  have k6 : To p.tables e below S0 (T5.setTop (mkF m 18 #[.val (.int c)] [(.int c), (.ref b5), (.ref b5)])) := fun tt hq => k5 tt (by
    show Steps _ _ _ (T5.setTop (mkF m 16 #[.val (.int c)] [(.ref b5)])) _
    refine XS.dup X5.here hx rfl (hb hby d_jdk_42_method_139_code_16) rfl rfl ?_
    show Steps _ _ _ (T5.setTop (mkF m 17 #[.val (.int c)] [(.ref b5), (.ref b5)])) _
    refine XS.iloadN X5.here hx rfl (hb hby d_jdk_42_method_139_code_17) rfl ?_
    show Steps _ _ _ (T5.setTop (mkF m 18 #[.val (.int c)] [(.int c), (.ref b5), (.ref b5)])) _
    exact hq)
  obtain ⟨_, T7, L7, X7, ⟨t7, kt7, rfl, Nq7, gt7, Kq7, V7⟩, k7a⟩ := callS' X5 hx hZ (y := (⟨"java/lang/StringLatin1", "toBytes", "(C)[B"⟩ : MethodName)) hown (hw _ (List.mem_of_getElem? (i := 14) rfl)) (hw _ (List.mem_of_getElem? (i := 15) rfl)) (hw _ (List.mem_of_getElem? (i := 10) rfl)) (hw _ (List.mem_of_getElem? (i := 16) rfl)) (by decide) (backC (W := 2) (rm_tob l Z a0 hw c h5 n0 (by omega)) hZ (hw _ (List.mem_of_getElem? (i := 16) rfl)) (hw _ (List.mem_of_getElem? (i := 10) rfl)) (by decide) (by decide)) e5 (argsL := [(.int c)]) (rest := [(.ref b5), (.ref b5)]) rfl rfl pd_1 rfl (by rw [hml]; rfl) (hb hby d_jdk_42_method_139_code_18) (Nat.le_of_eq rfl) (by decide) (by decide) k6
  have k7 : To p.tables e below S0 (T7.setTop (mkF m 21 #[.val (.int c)] [(.ref t7), (.ref b5), (.ref b5)])) := k7a
  have N7 := N3.app Nq7
  obtain ⟨h7, e7⟩ : ∃ z, T7.heap = z := ⟨_, rfl⟩
  rw [e7] at Kq7 V7
  have z7 : h5.size ≤ h7.size := Kq7.1
  have y7 : @LT.lt Nat instLTNat t7 h7.size := V7.lt
  have k8 : To p.tables e below S0 (T7.setTop (mkF m 22 #[.val (.int c)] [(.int (0 : Int32)), (.ref t7), (.ref b5), (.ref b5)])) := fun tt hq => k7 tt (by
    show Steps _ _ _ (T7.setTop (mkF m 21 #[.val (.int c)] [(.ref t7), (.ref b5), (.ref b5)])) _
    refine XS.iconst X7.here hx rfl (hb hby d_jdk_42_method_139_code_21) ?_
    show Steps _ _ _ (T7.setTop (mkF m 22 #[.val (.int c)] [(.int (0 : Int32)), (.ref t7), (.ref b5), (.ref b5)])) _
    exact hq)
  have f9 : Exa Z h7 b5 "java/lang/String" := (A5.keep Kq7)
  have f10 : Fld Z h7 b5 "java/lang/String" "value" "[B" .null := (F5_value.keep Kq7 nin0)
  have f11 : Fld Z h7 b5 "java/lang/String" "coder" "B" (.int (0 : Int32)) := (F5_coder.keep Kq7 nin0)
  obtain ⟨_, T12, L12, X12, ⟨rfl, Nq12, Kq12, A12, Fv12, Fc12⟩, k12a⟩ := callC' X7 hx hZ (y := (⟨"java/lang/String", "<init>", "([BB)V"⟩ : MethodName)) rfl hown (hw _ (List.mem_of_getElem? (i := 18) rfl)) (hw _ (List.mem_of_getElem? (i := 19) rfl)) (hw _ (List.mem_of_getElem? (i := 21) rfl)) (by decide) (backC (W := 1) (rm_sbb l Z a0 hw b5 t7 .null (.int (0 : Int32)) h7 n0 (by omega) f9 f10 f11 (by omega)) hZ (hw _ (List.mem_of_getElem? (i := 21) rfl)) (hw _ (List.mem_of_getElem? (i := 5) rfl)) (by decide) (by decide)) e7 (argsL := [(.ref t7), (.int (0 : Int32))]) (rest := [(.ref b5)]) rfl rfl pd_2 rfl (by rw [hml]; rfl) (hb hby d_jdk_42_method_139_code_22) (Nat.le_of_eq rfl) (by decide) (by decide) k8
  have k12 : To p.tables e below S0 (T12.setTop (mkF m 25 #[.val (.int c)] [(.ref b5)])) := k12a
  have N12 := N7.app Nq12
  obtain ⟨h12, e12⟩ : ∃ z, T12.heap = z := ⟨_, rfl⟩
  rw [e12] at Kq12 A12 Fv12 Fc12
  have z12 : h7.size ≤ h12.size := Kq12.1
  have f13 : Arv Z h12 t7 kt7 .byte (1 : Int32) [(.int (nar .byte (c.toInt8.toInt32)))] (.int (0 : Int32)) := (V7.keep Kq12 (ninS (adr_ne (by omega)) nin0))
  have hE := e12
  refine retRef X12 hx hret hlk rfl rfl (hb hby d_jdk_42_method_139_code_25) k12 ?_ (by decide) (by decide)
  try rw [hE]
  exact ⟨b5, t7, kt7, rfl, N12, (by omega), (by omega), ((((Keep.refl h0 []).ext E5).trans Kq7 all0).trans Kq12 (allS (Or.inr (by omega)) all0)), A12, Fv12, Fc12, f13⟩
theorem d_jdk_42_method_152_code_0 : decode jdk_42_method_152_code 0 = .ok (.getstatic 38, 3) := by decide +kernel
theorem d_jdk_42_method_152_code_3 : decode jdk_42_method_152_code 3 = .ok (.ifCond .eq 10, 3) := by decide +kernel
theorem d_jdk_42_method_152_code_6 : decode jdk_42_method_152_code 6 = .ok (.aload_n 0, 1) := by decide +kernel
theorem d_jdk_42_method_152_code_7 : decode jdk_42_method_152_code 7 = .ok (.getfield 15, 3) := by decide +kernel
theorem d_jdk_42_method_152_code_10 : decode jdk_42_method_152_code 10 = .ok (.goto 4, 3) := by decide +kernel
theorem d_jdk_42_method_152_code_13 : decode jdk_42_method_152_code 13 = .ok (.iconst 1, 1) := by decide +kernel
theorem d_jdk_42_method_152_code_14 : decode jdk_42_method_152_code 14 = .ok (.ireturn, 1) := by decide +kernel
set_option maxRecDepth 65536 in
set_option maxHeartbeats 40000000 in
theorem rm_coder (l : Launch) (Z : State) (a0 : Array Value) (hw : ∀ d ∈ tables_1, d.before a0 Z = true) (zc : Int32) (a : Addr) (h0 : Heap) (n0 : Nat) (hn0 : n0 ≤ h0.size) (S_c : Sta Z Z.heap "java/lang/String" "COMPACT_STRINGS" "Z" (.int zc)) (hzc : ¬ zc = (0 : Int32)) (O0 : Old Z n0 h0) (F0 : Fld Z h0 a "java/lang/String" "coder" "B" (.int (0 : Int32))) :
    Con l Z (⟨"java/lang/String", "coder", "()B"⟩ : MethodName) jdk_42_method_152_code 1 (some .byte) [] ({ frames := 0, cells := 0, slots := 0, locals := 0 } : Room) #[(.ref a)] h0 (fun v h L => v = some (.int (0 : Int32)) ∧ Fr n0 L ∧ h = h0) := by
  refine enter (Ls := #[.val (.ref a)]) (plainFor_of_name pn_1) (fun m => by exact entry_eq rfl) ?_
  intro p e s m below meth cd_ s₁ S0 hx hby hml hret hlk hnm hown hZ X0 e0 k0
  have N0 := Fr.nil n0
  obtain ⟨T1, X1, e1, st1⟩ := getS2 X0 hx hZ hown (host := "") (Or.inl (hw _ (List.mem_of_getElem? (i := 7) rfl))) Via.refl e0 (staOld S_c O0) (g := (mkF m 0 #[.val (.ref a)] [])) rfl (hb hby d_jdk_42_method_152_code_0)
  have k1 : To p.tables e below S0 (T1.setTop (mkF m 3 #[.val (.ref a)] [(.int zc)])) := fun tt hq => k0 tt (st1 tt hq)
  have k2 : To p.tables e below S0 (T1.setTop (mkF m 7 #[.val (.ref a)] [(.ref a)])) := fun tt hq => k1 tt (by
    show Steps _ _ _ (T1.setTop (mkF m 3 #[.val (.ref a)] [(.int zc)])) _
    refine XS.ifNo X1.here hx rfl (hb hby d_jdk_42_method_152_code_3) rfl ((if0 _ _).trans (feq hzc).1) ?_
    show Steps _ _ _ (T1.setTop (mkF m 6 #[.val (.ref a)] [])) _
    refine XS.aloadN X1.here hx rfl (hb hby d_jdk_42_method_152_code_6) rfl rfl ?_
    show Steps _ _ _ (T1.setTop (mkF m 7 #[.val (.ref a)] [(.ref a)])) _
    exact hq)
  obtain ⟨T3, X3, e3, st3⟩ := getF X1 hx hZ hown (host := "") (Or.inl (hw _ (List.mem_of_getElem? (i := 27) rfl))) Via.refl e1 F0 (g := (mkF m 7 #[.val (.ref a)] [(.ref a)])) rfl rfl (hb hby d_jdk_42_method_152_code_7)
  have k3 : To p.tables e below S0 (T3.setTop (mkF m 10 #[.val (.ref a)] [(.int (0 : Int32))])) := fun tt hq => k2 tt (st3 tt hq)
  have k4 : To p.tables e below S0 (T3.setTop (mkF m 14 #[.val (.ref a)] [(.int (0 : Int32))])) := fun tt hq => k3 tt (by
    show Steps _ _ _ (T3.setTop (mkF m 10 #[.val (.ref a)] [(.int (0 : Int32))])) _
    refine XS.goto X3.here hx rfl (pc0 := 10) (pc' := 14) rfl (hb hby d_jdk_42_method_152_code_10) (by decide) (by decide) ?_
    show Steps _ _ _ (T3.setTop (mkF m 14 #[.val (.ref a)] [(.int (0 : Int32))])) _
    exact hq)
  have hE := e3
  refine retInt X3 hx hret hlk (by simp) rfl (hb hby d_jdk_42_method_152_code_14) k4 ?_ (by decide) (by decide)
  try rw [hE]
  exact ⟨rfl, N0, rfl⟩
theorem d_jdk_42_method_54_code_0 : decode jdk_42_method_54_code 0 = .ok (.aload_n 0, 1) := by decide +kernel
theorem d_jdk_42_method_54_code_1 : decode jdk_42_method_54_code 1 = .ok (.getfield 9, 3) := by decide +kernel
theorem d_jdk_42_method_54_code_4 : decode jdk_42_method_54_code 4 = .ok (.arraylength, 1) := by decide +kernel
theorem d_jdk_42_method_54_code_5 : decode jdk_42_method_54_code 5 = .ok (.aload_n 0, 1) := by decide +kernel
theorem d_jdk_42_method_54_code_6 : decode jdk_42_method_54_code 6 = .ok (.invokevirtual 335, 3) := by decide +kernel
theorem d_jdk_42_method_54_code_9 : decode jdk_42_method_54_code 9 = .ok (.ishr, 1) := by decide +kernel
theorem d_jdk_42_method_54_code_10 : decode jdk_42_method_54_code 10 = .ok (.ireturn, 1) := by decide +kernel
theorem pd_3 : parseMethodDescriptor "()B" = some ⟨[], some .byte⟩ := by decide +kernel
set_option maxRecDepth 65536 in
set_option maxHeartbeats 40000000 in
theorem rm_len1 (l : Launch) (Z : State) (a0 : Array Value) (hw : ∀ d ∈ tables_1, d.before a0 Z = true) (zc : Int32) (a : Addr) (t : Addr) (kt : ClassId) (c0 : Int32) (h0 : Heap) (n0 : Nat) (hn0 : n0 ≤ h0.size) (S_c : Sta Z Z.heap "java/lang/String" "COMPACT_STRINGS" "Z" (.int zc)) (hzc : ¬ zc = (0 : Int32)) (O0 : Old Z n0 h0) (P0 : Exa Z h0 a "java/lang/String") (P1 : Fld Z h0 a "java/lang/String" "value" "[B" (.ref t)) (P2 : Fld Z h0 a "java/lang/String" "coder" "B" (.int (0 : Int32))) (P3 : Arv Z h0 t kt .byte (1 : Int32) [(.int c0)] (.int 0)) :
    Con l Z (⟨"java/lang/String", "length", "()I"⟩ : MethodName) jdk_42_method_54_code 1 (some .int) [] ({ frames := 1, cells := 0, slots := 0, locals := 13 } : Room) #[(.ref a)] h0 (fun v h L => v = some (.int (1 : Int32)) ∧ Fr n0 L ∧ h = h0) := by
  refine enter (Ls := #[.val (.ref a)]) (plainFor_of_name pn_1) (fun m => by exact entry_eq rfl) ?_
  intro p e s m below meth cd_ s₁ S0 hx hby hml hret hlk hnm hown hZ X0 e0 k0
  have N0 := Fr.nil n0
  have k1 : To p.tables e below S0 (s₁.setTop (mkF m 1 #[.val (.ref a)] [(.ref a)])) := fun tt hq => k0 tt (by
    show Steps _ _ _ (s₁.setTop (mkF m 0 #[.val (.ref a)] [])) _
    refine XS.aloadN X0.here hx rfl (hb hby d_jdk_42_method_54_code_0) rfl rfl ?_
    show Steps _ _ _ (s₁.setTop (mkF m 1 #[.val (.ref a)] [(.ref a)])) _
    exact hq)
  obtain ⟨T2, X2, e2, st2⟩ := getF X0 hx hZ hown (host := "") (Or.inl (hw _ (List.mem_of_getElem? (i := 25) rfl))) Via.refl e0 P1 (g := (mkF m 1 #[.val (.ref a)] [(.ref a)])) rfl rfl (hb hby d_jdk_42_method_54_code_1)
  have k2 : To p.tables e below S0 (T2.setTop (mkF m 4 #[.val (.ref a)] [(.ref t)])) := fun tt hq => k1 tt (st2 tt hq)
  obtain ⟨cl3, Ar3, -, S3, M3, -, -⟩ := id P3
  have st3 := fun tt => X2.arraylength hx (by rw [e2]; exact Ar3.1) (State.isArrayOf_alike hZ.alike Ar3.2.1) (g := (mkF m 4 #[.val (.ref a)] [(.ref t)])) rfl rfl (hb hby d_jdk_42_method_54_code_4) tt
  rw [len_of S3 M3] at st3
  have k3 : To p.tables e below S0 (T2.setTop (mkF m 5 #[.val (.ref a)] [(.int (1 : Int32))])) := fun tt hq => k2 tt (st3 tt hq)
  have k4 : To p.tables e below S0 (T2.setTop (mkF m 6 #[.val (.ref a)] [(.ref a), (.int (1 : Int32))])) := fun tt hq => k3 tt (by
    show Steps _ _ _ (T2.setTop (mkF m 5 #[.val (.ref a)] [(.int (1 : Int32))])) _
    refine XS.aloadN X2.here hx rfl (hb hby d_jdk_42_method_54_code_5) rfl rfl ?_
    show Steps _ _ _ (T2.setTop (mkF m 6 #[.val (.ref a)] [(.ref a), (.int (1 : Int32))])) _
    exact hq)
  obtain ⟨_, T5, L5, X5, ⟨rfl, Nq5, eq5⟩, k5a⟩ := callV' X2 hx hZ (y := (⟨"java/lang/String", "coder", "()B"⟩ : MethodName)) (z := (⟨"java/lang/String", "coder", "()B"⟩ : MethodName)) hown (hw _ (List.mem_of_getElem? (i := 77) rfl)) (hw _ (List.mem_of_getElem? (i := 78) rfl)) (notFace_of_selects (args := #[]) (mvT hZ (hw _ (List.mem_of_getElem? (i := 80) rfl)))) (hw _ (List.mem_of_getElem? (i := 80) rfl)) (hw _ (List.mem_of_getElem? (i := 79) rfl)) (by decide) P0 (backC (W := 1) (rm_coder l Z a0 hw zc a h0 n0 (by omega) S_c hzc O0 P2) hZ (hw _ (List.mem_of_getElem? (i := 81) rfl)) (hw _ (List.mem_of_getElem? (i := 5) rfl)) (by decide) (by decide)) e2 (argsL := []) (rest := [(.int (1 : Int32))]) rfl rfl pd_3 rfl (by rw [hml]; rfl) (hb hby d_jdk_42_method_54_code_6) (Nat.le_of_eq rfl) (by decide) (by decide) k4
  have k5 : To p.tables e below S0 (T5.setTop (mkF m 9 #[.val (.ref a)] [(.int (0 : Int32)), (.int (1 : Int32))])) := k5a
  have N5 := N0.app Nq5
  have e5 : T5.heap = h0 := eq5
  have k6 : To p.tables e below S0 (T5.setTop (mkF m 10 #[.val (.ref a)] [(.int (1 : Int32))])) := fun tt hq => k5 tt (by
    show Steps _ _ _ (T5.setTop (mkF m 9 #[.val (.ref a)] [(.int (0 : Int32)), (.int (1 : Int32))])) _
    refine XS.ishr X5.here hx rfl (hb hby d_jdk_42_method_54_code_9) rfl ?_
    show Steps _ _ _ (T5.setTop (mkF m 10 #[.val (.ref a)] [(.int (1 : Int32))])) _
    exact hq)
  have hE := e5
  refine retInt X5 hx hret hlk (by simp) rfl (hb hby d_jdk_42_method_54_code_10) k6 ?_ (by decide) (by decide)
  try rw [hE]
  exact ⟨rfl, N5, rfl⟩
theorem d_jdk_42_method_154_code_0 : decode jdk_42_method_154_code 0 = .ok (.getstatic 38, 3) := by decide +kernel
theorem d_jdk_42_method_154_code_3 : decode jdk_42_method_154_code 3 = .ok (.ifCond .eq 14, 3) := by decide +kernel
theorem d_jdk_42_method_154_code_6 : decode jdk_42_method_154_code 6 = .ok (.aload_n 0, 1) := by decide +kernel
theorem d_jdk_42_method_154_code_7 : decode jdk_42_method_154_code 7 = .ok (.getfield 15, 3) := by decide +kernel
theorem d_jdk_42_method_154_code_10 : decode jdk_42_method_154_code 10 = .ok (.ifCond .ne 7, 3) := by decide +kernel
theorem d_jdk_42_method_154_code_13 : decode jdk_42_method_154_code 13 = .ok (.iconst 1, 1) := by decide +kernel
theorem d_jdk_42_method_154_code_14 : decode jdk_42_method_154_code 14 = .ok (.goto 4, 3) := by decide +kernel
theorem d_jdk_42_method_154_code_17 : decode jdk_42_method_154_code 17 = .ok (.iconst 0, 1) := by decide +kernel
theorem d_jdk_42_method_154_code_18 : decode jdk_42_method_154_code 18 = .ok (.ireturn, 1) := by decide +kernel
set_option maxRecDepth 65536 in
set_option maxHeartbeats 40000000 in
theorem rm_latin (l : Launch) (Z : State) (a0 : Array Value) (hw : ∀ d ∈ tables_1, d.before a0 Z = true) (zc : Int32) (a : Addr) (h0 : Heap) (n0 : Nat) (hn0 : n0 ≤ h0.size) (S_c : Sta Z Z.heap "java/lang/String" "COMPACT_STRINGS" "Z" (.int zc)) (hzc : ¬ zc = (0 : Int32)) (O0 : Old Z n0 h0) (F0 : Fld Z h0 a "java/lang/String" "coder" "B" (.int (0 : Int32))) :
    Con l Z (⟨"java/lang/String", "isLatin1", "()Z"⟩ : MethodName) jdk_42_method_154_code 1 (some .boolean) [] ({ frames := 0, cells := 0, slots := 0, locals := 0 } : Room) #[(.ref a)] h0 (fun v h L => v = some (.int (1 : Int32)) ∧ Fr n0 L ∧ h = h0) := by
  refine enter (Ls := #[.val (.ref a)]) (plainFor_of_name pn_1) (fun m => by exact entry_eq rfl) ?_
  intro p e s m below meth cd_ s₁ S0 hx hby hml hret hlk hnm hown hZ X0 e0 k0
  have N0 := Fr.nil n0
  obtain ⟨T1, X1, e1, st1⟩ := getS2 X0 hx hZ hown (host := "") (Or.inl (hw _ (List.mem_of_getElem? (i := 7) rfl))) Via.refl e0 (staOld S_c O0) (g := (mkF m 0 #[.val (.ref a)] [])) rfl (hb hby d_jdk_42_method_154_code_0)
  have k1 : To p.tables e below S0 (T1.setTop (mkF m 3 #[.val (.ref a)] [(.int zc)])) := fun tt hq => k0 tt (st1 tt hq)
  have k2 : To p.tables e below S0 (T1.setTop (mkF m 7 #[.val (.ref a)] [(.ref a)])) := fun tt hq => k1 tt (by
    show Steps _ _ _ (T1.setTop (mkF m 3 #[.val (.ref a)] [(.int zc)])) _
    refine XS.ifNo X1.here hx rfl (hb hby d_jdk_42_method_154_code_3) rfl ((if0 _ _).trans (feq hzc).1) ?_
    show Steps _ _ _ (T1.setTop (mkF m 6 #[.val (.ref a)] [])) _
    refine XS.aloadN X1.here hx rfl (hb hby d_jdk_42_method_154_code_6) rfl rfl ?_
    show Steps _ _ _ (T1.setTop (mkF m 7 #[.val (.ref a)] [(.ref a)])) _
    exact hq)
  obtain ⟨T3, X3, e3, st3⟩ := getF X1 hx hZ hown (host := "") (Or.inl (hw _ (List.mem_of_getElem? (i := 27) rfl))) Via.refl e1 F0 (g := (mkF m 7 #[.val (.ref a)] [(.ref a)])) rfl rfl (hb hby d_jdk_42_method_154_code_7)
  have k3 : To p.tables e below S0 (T3.setTop (mkF m 10 #[.val (.ref a)] [(.int (0 : Int32))])) := fun tt hq => k2 tt (st3 tt hq)
  have k4 : To p.tables e below S0 (T3.setTop (mkF m 18 #[.val (.ref a)] [(.int (1 : Int32))])) := fun tt hq => k3 tt (by
    show Steps _ _ _ (T3.setTop (mkF m 10 #[.val (.ref a)] [(.int (0 : Int32))])) _
    refine XS.ifNo X3.here hx rfl (hb hby d_jdk_42_method_154_code_10) rfl ((if0 _ _).trans (teq (by decide)).2) ?_
    show Steps _ _ _ (T3.setTop (mkF m 13 #[.val (.ref a)] [])) _
    refine XS.iconst X3.here hx rfl (hb hby d_jdk_42_method_154_code_13) ?_
    show Steps _ _ _ (T3.setTop (mkF m 14 #[.val (.ref a)] [(.int (1 : Int32))])) _
    refine XS.goto X3.here hx rfl (pc0 := 14) (pc' := 18) rfl (hb hby d_jdk_42_method_154_code_14) (by decide) (by decide) ?_
    show Steps _ _ _ (T3.setTop (mkF m 18 #[.val (.ref a)] [(.int (1 : Int32))])) _
    exact hq)
  have hE := e3
  refine retInt X3 hx hret hlk (by simp) rfl (hb hby d_jdk_42_method_154_code_18) k4 ?_ (by decide) (by decide)
  try rw [hE]
  exact ⟨rfl, N0, rfl⟩
theorem d_jdk_41_method_11_code_0 : decode jdk_41_method_11_code 0 = .ok (.iload_n 0, 1) := by decide +kernel
theorem d_jdk_41_method_11_code_1 : decode jdk_41_method_11_code 1 = .ok (.ifCond .lt 8, 3) := by decide +kernel
theorem d_jdk_41_method_11_code_4 : decode jdk_41_method_11_code 4 = .ok (.iload_n 0, 1) := by decide +kernel
theorem d_jdk_41_method_11_code_5 : decode jdk_41_method_11_code 5 = .ok (.iload_n 1, 1) := by decide +kernel
theorem d_jdk_41_method_11_code_6 : decode jdk_41_method_11_code 6 = .ok (.if_icmp .lt 10, 3) := by decide +kernel
theorem d_jdk_41_method_11_code_9 : decode jdk_41_method_11_code 9 = .ok (.aload_n 2, 1) := by decide +kernel
theorem d_jdk_41_method_11_code_10 : decode jdk_41_method_11_code 10 = .ok (.iload_n 0, 1) := by decide +kernel
theorem d_jdk_41_method_11_code_11 : decode jdk_41_method_11_code 11 = .ok (.iload_n 1, 1) := by decide +kernel
theorem d_jdk_41_method_11_code_12 : decode jdk_41_method_11_code 12 = .ok (.invokestatic 95, 3) := by decide +kernel
theorem d_jdk_41_method_11_code_15 : decode jdk_41_method_11_code 15 = .ok (.athrow, 1) := by decide +kernel
theorem d_jdk_41_method_11_code_16 : decode jdk_41_method_11_code 16 = .ok (.iload_n 0, 1) := by decide +kernel
theorem d_jdk_41_method_11_code_17 : decode jdk_41_method_11_code 17 = .ok (.ireturn, 1) := by decide +kernel
theorem pn_2 : plainName "jdk/internal/util/Preconditions" = true := by first | (simp [plainName, overriddenIn]; done) | decide +kernel
set_option maxRecDepth 65536 in
set_option maxHeartbeats 40000000 in
theorem rm_pchk (l : Launch) (Z : State) (a0 : Array Value) (hw : ∀ d ∈ tables_1, d.before a0 Z = true) (i : Int32) (n : Int32) (fm : Value) (h0 : Heap) (n0 : Nat) (hn0 : n0 ≤ h0.size) (hfm : fm.isRef = true) (hi0 : ¬ i < (0 : Int32)) (hi1 : i < n) :
    Con l Z (⟨"jdk/internal/util/Preconditions", "checkIndex", "(IILjava/util/function/BiFunction;)I"⟩ : MethodName) jdk_41_method_11_code 3 (some .int) [] ({ frames := 0, cells := 0, slots := 0, locals := 0 } : Room) #[(.int i), (.int n), fm] h0 (fun v h L => v = some (.int i) ∧ Fr n0 L ∧ h = h0) := by
  refine enter (Ls := #[.val (.int i), .val (.int n), .val fm]) (plainFor_of_name pn_2) (fun m => by rcases ref_cases hfm with rfl | ⟨z, rfl⟩ <;> exact entry_eq rfl) ?_
  intro p e s m below meth cd_ s₁ S0 hx hby hml hret hlk hnm hown hZ X0 e0 k0
  have N0 := Fr.nil n0
  have k1 : To p.tables e below S0 (s₁.setTop (mkF m 17 #[.val (.int i), .val (.int n), .val fm] [(.int i)])) := fun tt hq => k0 tt (by
    show Steps _ _ _ (s₁.setTop (mkF m 0 #[.val (.int i), .val (.int n), .val fm] [])) _
    refine XS.iloadN X0.here hx rfl (hb hby d_jdk_41_method_11_code_0) rfl ?_
    show Steps _ _ _ (s₁.setTop (mkF m 1 #[.val (.int i), .val (.int n), .val fm] [(.int i)])) _
    refine XS.ifNo X0.here hx rfl (hb hby d_jdk_41_method_11_code_1) rfl ((if0 _ _).trans (flt hi0).1) ?_
    show Steps _ _ _ (s₁.setTop (mkF m 4 #[.val (.int i), .val (.int n), .val fm] [])) _
    refine XS.iloadN X0.here hx rfl (hb hby d_jdk_41_method_11_code_4) rfl ?_
    show Steps _ _ _ (s₁.setTop (mkF m 5 #[.val (.int i), .val (.int n), .val fm] [(.int i)])) _
    refine XS.iloadN X0.here hx rfl (hb hby d_jdk_41_method_11_code_5) rfl ?_
    show Steps _ _ _ (s₁.setTop (mkF m 6 #[.val (.int i), .val (.int n), .val fm] [(.int n), (.int i)])) _
    refine XS.icmpYes X0.here hx rfl (pc0 := 6) (pc' := 16) rfl (hb hby d_jdk_41_method_11_code_6) rfl (tlt hi1).1 (by decide) (by decide) ?_
    show Steps _ _ _ (s₁.setTop (mkF m 16 #[.val (.int i), .val (.int n), .val fm] [])) _
    refine XS.iloadN X0.here hx rfl (hb hby d_jdk_41_method_11_code_16) rfl ?_
    show Steps _ _ _ (s₁.setTop (mkF m 17 #[.val (.int i), .val (.int n), .val fm] [(.int i)])) _
    exact hq)
  have hE := e0
  refine retInt X0 hx hret hlk (by simp) rfl (hb hby d_jdk_41_method_11_code_17) k1 ?_ (by decide) (by decide)
  try rw [hE]
  exact ⟨rfl, N0, rfl⟩
theorem d_jdk_42_method_155_code_0 : decode jdk_42_method_155_code 0 = .ok (.iload_n 0, 1) := by decide +kernel
theorem d_jdk_42_method_155_code_1 : decode jdk_42_method_155_code 1 = .ok (.iload_n 1, 1) := by decide +kernel
theorem d_jdk_42_method_155_code_2 : decode jdk_42_method_155_code 2 = .ok (.getstatic 1053, 3) := by decide +kernel
theorem d_jdk_42_method_155_code_5 : decode jdk_42_method_155_code 5 = .ok (.invokestatic 1059, 3) := by decide +kernel
theorem d_jdk_42_method_155_code_8 : decode jdk_42_method_155_code 8 = .ok (.pop, 1) := by decide +kernel
theorem d_jdk_42_method_155_code_9 : decode jdk_42_method_155_code 9 = .ok (.return_, 1) := by decide +kernel
theorem pd_4 : parseMethodDescriptor "(IILjava/util/function/BiFunction;)I" = some ⟨[.int, .int, (.object "java/util/function/BiFunction")], some .int⟩ := by decide +kernel
set_option maxRecDepth 65536 in
set_option maxHeartbeats 40000000 in
theorem rm_chk (l : Launch) (Z : State) (a0 : Array Value) (hw : ∀ d ∈ tables_1, d.before a0 Z = true) (fm : Value) (i : Int32) (n : Int32) (h0 : Heap) (n0 : Nat) (hn0 : n0 ≤ h0.size) (S_f : Sta Z Z.heap "jdk/internal/util/Preconditions" "SIOOBE_FORMATTER" "Ljava/util/function/BiFunction;" fm) (hfm : fm.isRef = true) (O0 : Old Z n0 h0) (hi0 : ¬ i < (0 : Int32)) (hi1 : i < n) :
    Con l Z (⟨"java/lang/String", "checkIndex", "(II)V"⟩ : MethodName) jdk_42_method_155_code 2 none [] ({ frames := 1, cells := 0, slots := 0, locals := 14 } : Room) #[(.int i), (.int n)] h0 (fun v h L => v = none ∧ Fr n0 L ∧ h = h0) := by
  refine enter (Ls := #[.val (.int i), .val (.int n)]) (plainFor_of_name pn_1) (fun m => by exact entry_eq rfl) ?_
  intro p e s m below meth cd_ s₁ S0 hx hby hml hret hlk hnm hown hZ X0 e0 k0
  have N0 := Fr.nil n0
  have k1 : To p.tables e below S0 (s₁.setTop (mkF m 2 #[.val (.int i), .val (.int n)] [(.int n), (.int i)])) := fun tt hq => k0 tt (by
    show Steps _ _ _ (s₁.setTop (mkF m 0 #[.val (.int i), .val (.int n)] [])) _
    refine XS.iloadN X0.here hx rfl (hb hby d_jdk_42_method_155_code_0) rfl ?_
    show Steps _ _ _ (s₁.setTop (mkF m 1 #[.val (.int i), .val (.int n)] [(.int i)])) _
    refine XS.iloadN X0.here hx rfl (hb hby d_jdk_42_method_155_code_1) rfl ?_
    show Steps _ _ _ (s₁.setTop (mkF m 2 #[.val (.int i), .val (.int n)] [(.int n), (.int i)])) _
    exact hq)
  obtain ⟨T2, X2, e2, st2⟩ := getS2 X0 hx hZ hown (host := "") (Or.inl (hw _ (List.mem_of_getElem? (i := 95) rfl))) Via.refl e0 (staOld S_f O0) (g := (mkF m 2 #[.val (.int i), .val (.int n)] [(.int n), (.int i)])) rfl (hb hby d_jdk_42_method_155_code_2)
  have k2 : To p.tables e below S0 (T2.setTop (mkF m 5 #[.val (.int i), .val (.int n)] [fm, (.int n), (.int i)])) := fun tt hq => k1 tt (st2 tt hq)
  obtain ⟨_, T3, L3, X3, ⟨rfl, Nq3, eq3⟩, k3a⟩ := callS' X2 hx hZ (y := (⟨"jdk/internal/util/Preconditions", "checkIndex", "(IILjava/util/function/BiFunction;)I"⟩ : MethodName)) hown (hw _ (List.mem_of_getElem? (i := 97) rfl)) (hw _ (List.mem_of_getElem? (i := 98) rfl)) (hw _ (List.mem_of_getElem? (i := 96) rfl)) (hw _ (List.mem_of_getElem? (i := 99) rfl)) (by decide) (backC (W := 0) (rm_pchk l Z a0 hw i n fm h0 n0 (by omega) hfm hi0 hi1) hZ (hw _ (List.mem_of_getElem? (i := 99) rfl)) (hw _ (List.mem_of_getElem? (i := 96) rfl)) (by decide) (by decide)) e2 (argsL := [(.int i), (.int n), fm]) (rest := []) rfl rfl pd_4 rfl (by rw [hml]; rfl) (hb hby d_jdk_42_method_155_code_5) (Nat.le_of_eq rfl) (by decide) (by decide) k2
  have k3 : To p.tables e below S0 (T3.setTop (mkF m 8 #[.val (.int i), .val (.int n)] [(.int i)])) := k3a
  have N3 := N0.app Nq3
  have e3 : T3.heap = h0 := eq3
  have k4 : To p.tables e below S0 (T3.setTop (mkF m 9 #[.val (.int i), .val (.int n)] [])) := fun tt hq => k3 tt (by
    show Steps _ _ _ (T3.setTop (mkF m 8 #[.val (.int i), .val (.int n)] [(.int i)])) _
    refine XS.pop X3.here hx rfl (hb hby d_jdk_42_method_155_code_8) rfl rfl ?_
    show Steps _ _ _ (T3.setTop (mkF m 9 #[.val (.int i), .val (.int n)] [])) _
    exact hq)
  have hE := e3
  refine retVoid X3 hx hret hlk (hb hby d_jdk_42_method_155_code_9) k4 ?_ (by decide) (by decide)
  try rw [hE]
  exact ⟨rfl, N3, rfl⟩
theorem d_jdk_42_method_57_code_0 : decode jdk_42_method_57_code 0 = .ok (.aload_n 0, 1) := by decide +kernel
theorem d_jdk_42_method_57_code_1 : decode jdk_42_method_57_code 1 = .ok (.invokevirtual 492, 3) := by decide +kernel
theorem d_jdk_42_method_57_code_4 : decode jdk_42_method_57_code 4 = .ok (.ifCond .eq 23, 3) := by decide +kernel
theorem d_jdk_42_method_57_code_7 : decode jdk_42_method_57_code 7 = .ok (.iload_n 1, 1) := by decide +kernel
theorem d_jdk_42_method_57_code_8 : decode jdk_42_method_57_code 8 = .ok (.aload_n 0, 1) := by decide +kernel
theorem d_jdk_42_method_57_code_9 : decode jdk_42_method_57_code 9 = .ok (.getfield 9, 3) := by decide +kernel
theorem d_jdk_42_method_57_code_12 : decode jdk_42_method_57_code 12 = .ok (.arraylength, 1) := by decide +kernel
theorem d_jdk_42_method_57_code_13 : decode jdk_42_method_57_code 13 = .ok (.invokestatic 499, 3) := by decide +kernel
theorem d_jdk_42_method_57_code_16 : decode jdk_42_method_57_code 16 = .ok (.aload_n 0, 1) := by decide +kernel
theorem d_jdk_42_method_57_code_17 : decode jdk_42_method_57_code 17 = .ok (.getfield 9, 3) := by decide +kernel
theorem d_jdk_42_method_57_code_20 : decode jdk_42_method_57_code 20 = .ok (.iload_n 1, 1) := by decide +kernel
theorem d_jdk_42_method_57_code_21 : decode jdk_42_method_57_code 21 = .ok (.baload, 1) := by decide +kernel
theorem d_jdk_42_method_57_code_22 : decode jdk_42_method_57_code 22 = .ok (.sipush 255, 3) := by decide +kernel
theorem d_jdk_42_method_57_code_25 : decode jdk_42_method_57_code 25 = .ok (.iand, 1) := by decide +kernel
theorem d_jdk_42_method_57_code_26 : decode jdk_42_method_57_code 26 = .ok (.ireturn, 1) := by decide +kernel
theorem d_jdk_42_method_57_code_27 : decode jdk_42_method_57_code 27 = .ok (.aload_n 0, 1) := by decide +kernel
theorem d_jdk_42_method_57_code_28 : decode jdk_42_method_57_code 28 = .ok (.getfield 9, 3) := by decide +kernel
theorem d_jdk_42_method_57_code_31 : decode jdk_42_method_57_code 31 = .ok (.arraylength, 1) := by decide +kernel
theorem d_jdk_42_method_57_code_32 : decode jdk_42_method_57_code 32 = .ok (.iconst 1, 1) := by decide +kernel
theorem d_jdk_42_method_57_code_33 : decode jdk_42_method_57_code 33 = .ok (.ishr, 1) := by decide +kernel
theorem d_jdk_42_method_57_code_34 : decode jdk_42_method_57_code 34 = .ok (.istore_n 2, 1) := by decide +kernel
theorem d_jdk_42_method_57_code_35 : decode jdk_42_method_57_code 35 = .ok (.iload_n 1, 1) := by decide +kernel
theorem d_jdk_42_method_57_code_36 : decode jdk_42_method_57_code 36 = .ok (.iload_n 2, 1) := by decide +kernel
theorem d_jdk_42_method_57_code_37 : decode jdk_42_method_57_code 37 = .ok (.invokestatic 499, 3) := by decide +kernel
theorem d_jdk_42_method_57_code_40 : decode jdk_42_method_57_code 40 = .ok (.aload_n 0, 1) := by decide +kernel
theorem d_jdk_42_method_57_code_41 : decode jdk_42_method_57_code 41 = .ok (.getfield 9, 3) := by decide +kernel
theorem d_jdk_42_method_57_code_44 : decode jdk_42_method_57_code 44 = .ok (.iload_n 1, 1) := by decide +kernel
theorem d_jdk_42_method_57_code_45 : decode jdk_42_method_57_code 45 = .ok (.iload_n 2, 1) := by decide +kernel
theorem d_jdk_42_method_57_code_46 : decode jdk_42_method_57_code 46 = .ok (.invokestatic 502, 3) := by decide +kernel
theorem d_jdk_42_method_57_code_49 : decode jdk_42_method_57_code 49 = .ok (.ireturn, 1) := by decide +kernel
theorem pd_5 : parseMethodDescriptor "()Z" = some ⟨[], some .boolean⟩ := by decide +kernel
theorem pd_6 : parseMethodDescriptor "(II)V" = some ⟨[.int, .int], none⟩ := by decide +kernel
set_option maxRecDepth 65536 in
set_option maxHeartbeats 40000000 in
theorem rm_cp1_0 (l : Launch) (Z : State) (a0 : Array Value) (hw : ∀ d ∈ tables_1, d.before a0 Z = true) (zc : Int32) (fm : Value) (a : Addr) (t : Addr) (kt : ClassId) (c0 : Int32) (h0 : Heap) (n0 : Nat) (hn0 : n0 ≤ h0.size) (S_c : Sta Z Z.heap "java/lang/String" "COMPACT_STRINGS" "Z" (.int zc)) (hzc : ¬ zc = (0 : Int32)) (S_f : Sta Z Z.heap "jdk/internal/util/Preconditions" "SIOOBE_FORMATTER" "Ljava/util/function/BiFunction;" fm) (hfm : fm.isRef = true) (O0 : Old Z n0 h0) (P0 : Exa Z h0 a "java/lang/String") (P1 : Fld Z h0 a "java/lang/String" "value" "[B" (.ref t)) (P2 : Fld Z h0 a "java/lang/String" "coder" "B" (.int (0 : Int32))) (P3 : Arv Z h0 t kt .byte (1 : Int32) [(.int c0)] (.int 0)) :
    Con l Z (⟨"java/lang/String", "codePointAt", "(I)I"⟩ : MethodName) jdk_42_method_57_code 3 (some .int) [] ({ frames := 2, cells := 0, slots := 0, locals := 27 } : Room) #[(.ref a), (.int (0 : Int32))] h0 (fun v h L => v = some (.int (c0 &&& (255 : Int32))) ∧ Fr n0 L ∧ h = h0) := by
  refine enter (Ls := #[.val (.ref a), .val (.int (0 : Int32)), .unset]) (plainFor_of_name pn_1) (fun m => by exact entry_eq rfl) ?_
  intro p e s m below meth cd_ s₁ S0 hx hby hml hret hlk hnm hown hZ X0 e0 k0
  have N0 := Fr.nil n0
  have k1 : To p.tables e below S0 (s₁.setTop (mkF m 1 #[.val (.ref a), .val (.int (0 : Int32)), .unset] [(.ref a)])) := fun tt hq => k0 tt (by
    show Steps _ _ _ (s₁.setTop (mkF m 0 #[.val (.ref a), .val (.int (0 : Int32)), .unset] [])) _
    refine XS.aloadN X0.here hx rfl (hb hby d_jdk_42_method_57_code_0) rfl rfl ?_
    show Steps _ _ _ (s₁.setTop (mkF m 1 #[.val (.ref a), .val (.int (0 : Int32)), .unset] [(.ref a)])) _
    exact hq)
  obtain ⟨_, T2, L2, X2, ⟨rfl, Nq2, eq2⟩, k2a⟩ := callV' X0 hx hZ (y := (⟨"java/lang/String", "isLatin1", "()Z"⟩ : MethodName)) (z := (⟨"java/lang/String", "isLatin1", "()Z"⟩ : MethodName)) hown (hw _ (List.mem_of_getElem? (i := 87) rfl)) (hw _ (List.mem_of_getElem? (i := 88) rfl)) (notFace_of_selects (args := #[]) (mvT hZ (hw _ (List.mem_of_getElem? (i := 90) rfl)))) (hw _ (List.mem_of_getElem? (i := 90) rfl)) (hw _ (List.mem_of_getElem? (i := 89) rfl)) (by decide) P0 (backC (W := 0) (rm_latin l Z a0 hw zc a h0 n0 (by omega) S_c hzc O0 P2) hZ (hw _ (List.mem_of_getElem? (i := 91) rfl)) (hw _ (List.mem_of_getElem? (i := 5) rfl)) (by decide) (by decide)) e0 (argsL := []) (rest := []) rfl rfl pd_5 rfl (by rw [hml]; rfl) (hb hby d_jdk_42_method_57_code_1) (Nat.le_of_eq rfl) (by decide) (by decide) k1
  have k2 : To p.tables e below S0 (T2.setTop (mkF m 4 #[.val (.ref a), .val (.int (0 : Int32)), .unset] [(.int (1 : Int32))])) := k2a
  have N2 := N0.app Nq2
  have e2 : T2.heap = h0 := eq2
  have k3 : To p.tables e below S0 (T2.setTop (mkF m 9 #[.val (.ref a), .val (.int (0 : Int32)), .unset] [(.ref a), (.int (0 : Int32))])) := fun tt hq => k2 tt (by
    show Steps _ _ _ (T2.setTop (mkF m 4 #[.val (.ref a), .val (.int (0 : Int32)), .unset] [(.int (1 : Int32))])) _
    refine XS.ifNo X2.here hx rfl (hb hby d_jdk_42_method_57_code_4) rfl ((if0 _ _).trans (feq (by decide)).1) ?_
    show Steps _ _ _ (T2.setTop (mkF m 7 #[.val (.ref a), .val (.int (0 : Int32)), .unset] [])) _
    refine XS.iloadN X2.here hx rfl (hb hby d_jdk_42_method_57_code_7) rfl ?_
    show Steps _ _ _ (T2.setTop (mkF m 8 #[.val (.ref a), .val (.int (0 : Int32)), .unset] [(.int (0 : Int32))])) _
    refine XS.aloadN X2.here hx rfl (hb hby d_jdk_42_method_57_code_8) rfl rfl ?_
    show Steps _ _ _ (T2.setTop (mkF m 9 #[.val (.ref a), .val (.int (0 : Int32)), .unset] [(.ref a), (.int (0 : Int32))])) _
    exact hq)
  obtain ⟨T4, X4, e4, st4⟩ := getF X2 hx hZ hown (host := "") (Or.inl (hw _ (List.mem_of_getElem? (i := 25) rfl))) Via.refl e2 P1 (g := (mkF m 9 #[.val (.ref a), .val (.int (0 : Int32)), .unset] [(.ref a), (.int (0 : Int32))])) rfl rfl (hb hby d_jdk_42_method_57_code_9)
  have k4 : To p.tables e below S0 (T4.setTop (mkF m 12 #[.val (.ref a), .val (.int (0 : Int32)), .unset] [(.ref t), (.int (0 : Int32))])) := fun tt hq => k3 tt (st4 tt hq)
  obtain ⟨cl5, Ar5, -, S5, M5, -, -⟩ := id P3
  have st5 := fun tt => X4.arraylength hx (by rw [e4]; exact Ar5.1) (State.isArrayOf_alike hZ.alike Ar5.2.1) (g := (mkF m 12 #[.val (.ref a), .val (.int (0 : Int32)), .unset] [(.ref t), (.int (0 : Int32))])) rfl rfl (hb hby d_jdk_42_method_57_code_12) tt
  rw [len_of S5 M5] at st5
  have k5 : To p.tables e below S0 (T4.setTop (mkF m 13 #[.val (.ref a), .val (.int (0 : Int32)), .unset] [(.int (1 : Int32)), (.int (0 : Int32))])) := fun tt hq => k4 tt (st5 tt hq)
  obtain ⟨_, T6, L6, X6, ⟨rfl, Nq6, eq6⟩, k6a⟩ := callS' X4 hx hZ (y := (⟨"java/lang/String", "checkIndex", "(II)V"⟩ : MethodName)) hown (hw _ (List.mem_of_getElem? (i := 92) rfl)) (hw _ (List.mem_of_getElem? (i := 93) rfl)) (hw _ (List.mem_of_getElem? (i := 5) rfl)) (hw _ (List.mem_of_getElem? (i := 94) rfl)) (by decide) (backC (W := 0) (rm_chk l Z a0 hw fm (0 : Int32) (1 : Int32) h0 n0 (by omega) S_f hfm O0 (by decide) (by decide)) hZ (hw _ (List.mem_of_getElem? (i := 94) rfl)) (hw _ (List.mem_of_getElem? (i := 5) rfl)) (by decide) (by decide)) e4 (argsL := [(.int (0 : Int32)), (.int (1 : Int32))]) (rest := []) rfl rfl pd_6 rfl (by rw [hml]; rfl) (hb hby d_jdk_42_method_57_code_13) (Nat.le_of_eq rfl) (by decide) (by decide) k5
  have k6 : To p.tables e below S0 (T6.setTop (mkF m 16 #[.val (.ref a), .val (.int (0 : Int32)), .unset] [])) := k6a
  have N6 := N2.app Nq6
  have e6 : T6.heap = h0 := eq6
  have k7 : To p.tables e below S0 (T6.setTop (mkF m 17 #[.val (.ref a), .val (.int (0 : Int32)), .unset] [(.ref a)])) := fun tt hq => k6 tt (by
    show Steps _ _ _ (T6.setTop (mkF m 16 #[.val (.ref a), .val (.int (0 : Int32)), .unset] [])) _
    refine XS.aloadN X6.here hx rfl (hb hby d_jdk_42_method_57_code_16) rfl rfl ?_
    show Steps _ _ _ (T6.setTop (mkF m 17 #[.val (.ref a), .val (.int (0 : Int32)), .unset] [(.ref a)])) _
    exact hq)
  obtain ⟨T8, X8, e8, st8⟩ := getF X6 hx hZ hown (host := "") (Or.inl (hw _ (List.mem_of_getElem? (i := 25) rfl))) Via.refl e6 P1 (g := (mkF m 17 #[.val (.ref a), .val (.int (0 : Int32)), .unset] [(.ref a)])) rfl rfl (hb hby d_jdk_42_method_57_code_17)
  have k8 : To p.tables e below S0 (T8.setTop (mkF m 20 #[.val (.ref a), .val (.int (0 : Int32)), .unset] [(.ref t)])) := fun tt hq => k7 tt (st8 tt hq)
  have k9 : To p.tables e below S0 (T8.setTop (mkF m 21 #[.val (.ref a), .val (.int (0 : Int32)), .unset] [(.int (0 : Int32)), (.ref t)])) := fun tt hq => k8 tt (by
    show Steps _ _ _ (T8.setTop (mkF m 20 #[.val (.ref a), .val (.int (0 : Int32)), .unset] [(.ref t)])) _
    refine XS.iloadN X8.here hx rfl (hb hby d_jdk_42_method_57_code_20) rfl ?_
    show Steps _ _ _ (T8.setTop (mkF m 21 #[.val (.ref a), .val (.int (0 : Int32)), .unset] [(.int (0 : Int32)), (.ref t)])) _
    exact hq)
  obtain ⟨cl10, Ar10, -, S10, -, G10, -⟩ := id P3
  have hi10 := inb_of (j := (0 : Int32)) S10 ⟨by decide, by decide⟩
  have st10 := fun tt => X8.baloadBytes hx (j := (0 : Int32)) (v := (.int c0)) (by rw [e8]; exact Ar10.1) (State.isArrayOf_alike hZ.alike Ar10.2.1) Ar10.2.2 hi10 (G10.at hi10 rfl) (g := (mkF m 21 #[.val (.ref a), .val (.int (0 : Int32)), .unset] [(.int (0 : Int32)), (.ref t)])) rfl rfl (hb hby d_jdk_42_method_57_code_21) tt
  have k10 : To p.tables e below S0 (T8.setTop (mkF m 22 #[.val (.ref a), .val (.int (0 : Int32)), .unset] [(.int c0)])) := fun tt hq => k9 tt (st10 tt hq)
  have k11 : To p.tables e below S0 (T8.setTop (mkF m 26 #[.val (.ref a), .val (.int (0 : Int32)), .unset] [(.int (c0 &&& (255 : Int32)))])) := fun tt hq => k10 tt (by
    show Steps _ _ _ (T8.setTop (mkF m 22 #[.val (.ref a), .val (.int (0 : Int32)), .unset] [(.int c0)])) _
    refine XS.sipush X8.here hx rfl (hb hby d_jdk_42_method_57_code_22) ?_
    show Steps _ _ _ (T8.setTop (mkF m 25 #[.val (.ref a), .val (.int (0 : Int32)), .unset] [(.int (255 : Int32)), (.int c0)])) _
    refine XS.iand X8.here hx rfl (hb hby d_jdk_42_method_57_code_25) rfl ?_
    show Steps _ _ _ (T8.setTop (mkF m 26 #[.val (.ref a), .val (.int (0 : Int32)), .unset] [(.int (c0 &&& (255 : Int32)))])) _
    exact hq)
  have hE := e8
  refine retInt X8 hx hret hlk (by simp) rfl (hb hby d_jdk_42_method_57_code_26) k11 ?_ (by decide) (by decide)
  try rw [hE]
  exact ⟨rfl, N6, rfl⟩
theorem d_jdk_33_method_40_code_0 : decode jdk_33_method_40_code 0 = .ok (.iload_n 0, 1) := by decide +kernel
theorem d_jdk_33_method_40_code_1 : decode jdk_33_method_40_code 1 = .ok (.iload_n 1, 1) := by decide +kernel
theorem d_jdk_33_method_40_code_2 : decode jdk_33_method_40_code 2 = .ok (.if_icmp .ge 7, 3) := by decide +kernel
theorem d_jdk_33_method_40_code_5 : decode jdk_33_method_40_code 5 = .ok (.iconst (-1), 1) := by decide +kernel
theorem d_jdk_33_method_40_code_6 : decode jdk_33_method_40_code 6 = .ok (.goto 13, 3) := by decide +kernel
theorem d_jdk_33_method_40_code_9 : decode jdk_33_method_40_code 9 = .ok (.iload_n 0, 1) := by decide +kernel
theorem d_jdk_33_method_40_code_10 : decode jdk_33_method_40_code 10 = .ok (.iload_n 1, 1) := by decide +kernel
theorem d_jdk_33_method_40_code_11 : decode jdk_33_method_40_code 11 = .ok (.if_icmp .ne 7, 3) := by decide +kernel
theorem d_jdk_33_method_40_code_14 : decode jdk_33_method_40_code 14 = .ok (.iconst 0, 1) := by decide +kernel
theorem d_jdk_33_method_40_code_15 : decode jdk_33_method_40_code 15 = .ok (.goto 4, 3) := by decide +kernel
theorem d_jdk_33_method_40_code_18 : decode jdk_33_method_40_code 18 = .ok (.iconst 1, 1) := by decide +kernel
theorem d_jdk_33_method_40_code_19 : decode jdk_33_method_40_code 19 = .ok (.ireturn, 1) := by decide +kernel
theorem pn_3 : plainName "java/lang/Integer" = true := by first | (simp [plainName, overriddenIn]; done) | decide +kernel
set_option maxRecDepth 65536 in
set_option maxHeartbeats 40000000 in
theorem rm_icmp (l : Launch) (Z : State) (a0 : Array Value) (hw : ∀ d ∈ tables_1, d.before a0 Z = true) (a : Int32) (b : Int32) (h0 : Heap) (n0 : Nat) (hn0 : n0 ≤ h0.size)  :
    Con l Z (⟨"java/lang/Integer", "compare", "(II)I"⟩ : MethodName) jdk_33_method_40_code 2 (some .int) [] ({ frames := 0, cells := 0, slots := 0, locals := 0 } : Room) #[(.int a), (.int b)] h0 (fun v h L => ∃ r : Int32, v = some (.int r) ∧ Fr n0 L ∧ h = h0 ∧ r = (if a < b then -1 else if a = b then 0 else 1)) := by
  refine enter (Ls := #[.val (.int a), .val (.int b)]) (plainFor_of_name pn_3) (fun m => by exact entry_eq rfl) ?_
  intro p e s m below meth cd_ s₁ S0 hx hby hml hret hlk hnm hown hZ X0 e0 k0
  have N0 := Fr.nil n0
  have k1 : To p.tables e below S0 (s₁.setTop (mkF m 2 #[.val (.int a), .val (.int b)] [(.int b), (.int a)])) := fun tt hq => k0 tt (by
    show Steps _ _ _ (s₁.setTop (mkF m 0 #[.val (.int a), .val (.int b)] [])) _
    refine XS.iloadN X0.here hx rfl (hb hby d_jdk_33_method_40_code_0) rfl ?_
    show Steps _ _ _ (s₁.setTop (mkF m 1 #[.val (.int a), .val (.int b)] [(.int a)])) _
    refine XS.iloadN X0.here hx rfl (hb hby d_jdk_33_method_40_code_1) rfl ?_
    show Steps _ _ _ (s₁.setTop (mkF m 2 #[.val (.int a), .val (.int b)] [(.int b), (.int a)])) _
    exact hq)
  by_cases hc2_2 : a < b
  · -- pc 2, holds
    have k3 : To p.tables e below S0 (s₁.setTop (mkF m 19 #[.val (.int a), .val (.int b)] [(.int (-1 : Int32))])) := fun tt hq => k1 tt (by
      show Steps _ _ _ (s₁.setTop (mkF m 2 #[.val (.int a), .val (.int b)] [(.int b), (.int a)])) _
      refine XS.icmpNo X0.here hx rfl (hb hby d_jdk_33_method_40_code_2) rfl (tlt hc2_2).2.1 ?_
      show Steps _ _ _ (s₁.setTop (mkF m 5 #[.val (.int a), .val (.int b)] [])) _
      refine XS.iconst X0.here hx rfl (hb hby d_jdk_33_method_40_code_5) ?_
      show Steps _ _ _ (s₁.setTop (mkF m 6 #[.val (.int a), .val (.int b)] [(.int (-1 : Int32))])) _
      refine XS.goto X0.here hx rfl (pc0 := 6) (pc' := 19) rfl (hb hby d_jdk_33_method_40_code_6) (by decide) (by decide) ?_
      show Steps _ _ _ (s₁.setTop (mkF m 19 #[.val (.int a), .val (.int b)] [(.int (-1 : Int32))])) _
      exact hq)
    have hE := e0
    refine retInt X0 hx hret hlk (by simp) rfl (hb hby d_jdk_33_method_40_code_19) k3 ?_ (by decide) (by decide)
    try rw [hE]
    exact ⟨_, rfl, N0, rfl, by simp [hc2_2]⟩
  · -- pc 2, holds not
    have k4 : To p.tables e below S0 (s₁.setTop (mkF m 11 #[.val (.int a), .val (.int b)] [(.int b), (.int a)])) := fun tt hq => k1 tt (by
      show Steps _ _ _ (s₁.setTop (mkF m 2 #[.val (.int a), .val (.int b)] [(.int b), (.int a)])) _
      refine XS.icmpYes X0.here hx rfl (pc0 := 2) (pc' := 9) rfl (hb hby d_jdk_33_method_40_code_2) rfl (flt hc2_2).2.1 (by decide) (by decide) ?_
      show Steps _ _ _ (s₁.setTop (mkF m 9 #[.val (.int a), .val (.int b)] [])) _
      refine XS.iloadN X0.here hx rfl (hb hby d_jdk_33_method_40_code_9) rfl ?_
      show Steps _ _ _ (s₁.setTop (mkF m 10 #[.val (.int a), .val (.int b)] [(.int a)])) _
      refine XS.iloadN X0.here hx rfl (hb hby d_jdk_33_method_40_code_10) rfl ?_
      show Steps _ _ _ (s₁.setTop (mkF m 11 #[.val (.int a), .val (.int b)] [(.int b), (.int a)])) _
      exact hq)
    by_cases hc11_5 : a = b
    · -- pc 11, holds
      have k6 : To p.tables e below S0 (s₁.setTop (mkF m 19 #[.val (.int a), .val (.int b)] [(.int (0 : Int32))])) := fun tt hq => k4 tt (by
        show Steps _ _ _ (s₁.setTop (mkF m 11 #[.val (.int a), .val (.int b)] [(.int b), (.int a)])) _
        refine XS.icmpNo X0.here hx rfl (hb hby d_jdk_33_method_40_code_11) rfl (teq hc11_5).2 ?_
        show Steps _ _ _ (s₁.setTop (mkF m 14 #[.val (.int a), .val (.int b)] [])) _
        refine XS.iconst X0.here hx rfl (hb hby d_jdk_33_method_40_code_14) ?_
        show Steps _ _ _ (s₁.setTop (mkF m 15 #[.val (.int a), .val (.int b)] [(.int (0 : Int32))])) _
        refine XS.goto X0.here hx rfl (pc0 := 15) (pc' := 19) rfl (hb hby d_jdk_33_method_40_code_15) (by decide) (by decide) ?_
        show Steps _ _ _ (s₁.setTop (mkF m 19 #[.val (.int a), .val (.int b)] [(.int (0 : Int32))])) _
        exact hq)
      have hE := e0
      refine retInt X0 hx hret hlk (by simp) rfl (hb hby d_jdk_33_method_40_code_19) k6 ?_ (by decide) (by decide)
      try rw [hE]
      exact ⟨_, rfl, N0, rfl, by simp [hc2_2, hc11_5]⟩
    · -- pc 11, holds not
      have k7 : To p.tables e below S0 (s₁.setTop (mkF m 19 #[.val (.int a), .val (.int b)] [(.int (1 : Int32))])) := fun tt hq => k4 tt (by
        show Steps _ _ _ (s₁.setTop (mkF m 11 #[.val (.int a), .val (.int b)] [(.int b), (.int a)])) _
        refine XS.icmpYes X0.here hx rfl (pc0 := 11) (pc' := 18) rfl (hb hby d_jdk_33_method_40_code_11) rfl (feq hc11_5).2 (by decide) (by decide) ?_
        show Steps _ _ _ (s₁.setTop (mkF m 18 #[.val (.int a), .val (.int b)] [])) _
        refine XS.iconst X0.here hx rfl (hb hby d_jdk_33_method_40_code_18) ?_
        show Steps _ _ _ (s₁.setTop (mkF m 19 #[.val (.int a), .val (.int b)] [(.int (1 : Int32))])) _
        exact hq)
      have hE := e0
      refine retInt X0 hx hret hlk (by simp) rfl (hb hby d_jdk_33_method_40_code_19) k7 ?_ (by decide) (by decide)
      try rw [hE]
      exact ⟨_, rfl, N0, rfl, by simp [hc2_2, hc11_5]⟩
theorem d_jdk_89_method_18_code_0 : decode jdk_89_method_18_code 0 = .ok (.iload_n 0, 1) := by decide +kernel
theorem d_jdk_89_method_18_code_1 : decode jdk_89_method_18_code 1 = .ok (.ldc 73, 2) := by decide +kernel
theorem d_jdk_89_method_18_code_3 : decode jdk_89_method_18_code 3 = .ok (.if_icmp .lt 7, 3) := by decide +kernel
theorem d_jdk_89_method_18_code_6 : decode jdk_89_method_18_code 6 = .ok (.iconst 2, 1) := by decide +kernel
theorem d_jdk_89_method_18_code_7 : decode jdk_89_method_18_code 7 = .ok (.goto 4, 3) := by decide +kernel
theorem d_jdk_89_method_18_code_10 : decode jdk_89_method_18_code 10 = .ok (.iconst 1, 1) := by decide +kernel
theorem d_jdk_89_method_18_code_11 : decode jdk_89_method_18_code 11 = .ok (.ireturn, 1) := by decide +kernel
theorem pn_4 : plainName "java/lang/Character" = true := by first | (simp [plainName, overriddenIn]; done) | decide +kernel
set_option maxRecDepth 65536 in
set_option maxHeartbeats 40000000 in
theorem rm_cc (l : Launch) (Z : State) (a0 : Array Value) (hw : ∀ d ∈ tables_1, d.before a0 Z = true) (a : Int32) (h0 : Heap) (n0 : Nat) (hn0 : n0 ≤ h0.size) (hs : a < (65536 : Int32)) :
    Con l Z (⟨"java/lang/Character", "charCount", "(I)I"⟩ : MethodName) jdk_89_method_18_code 1 (some .int) [] ({ frames := 0, cells := 0, slots := 0, locals := 0 } : Room) #[(.int a)] h0 (fun v h L => v = some (.int (1 : Int32)) ∧ Fr n0 L ∧ h = h0) := by
  refine enter (Ls := #[.val (.int a)]) (plainFor_of_name pn_4) (fun m => by exact entry_eq rfl) ?_
  intro p e s m below meth cd_ s₁ S0 hx hby hml hret hlk hnm hown hZ X0 e0 k0
  have N0 := Fr.nil n0
  have k1 : To p.tables e below S0 (s₁.setTop (mkF m 11 #[.val (.int a)] [(.int (1 : Int32))])) := fun tt hq => k0 tt (by
    show Steps _ _ _ (s₁.setTop (mkF m 0 #[.val (.int a)] [])) _
    refine XS.iloadN X0.here hx rfl (hb hby d_jdk_89_method_18_code_0) rfl ?_
    show Steps _ _ _ (s₁.setTop (mkF m 1 #[.val (.int a)] [(.int a)])) _
    refine X0.ldcInt hx hown (mvT hZ (hw _ (List.mem_of_getElem? (i := 104) rfl))) (g := (mkF m 1 #[.val (.int a)] [(.int a)])) rfl (hb hby d_jdk_89_method_18_code_1) _ ?_
    show Steps _ _ _ (s₁.setTop (mkF m 3 #[.val (.int a)] [(.int (65536 : Int32)), (.int a)])) _
    refine XS.icmpYes X0.here hx rfl (pc0 := 3) (pc' := 10) rfl (hb hby d_jdk_89_method_18_code_3) rfl (tlt hs).1 (by decide) (by decide) ?_
    show Steps _ _ _ (s₁.setTop (mkF m 10 #[.val (.int a)] [])) _
    refine XS.iconst X0.here hx rfl (hb hby d_jdk_89_method_18_code_10) ?_
    show Steps _ _ _ (s₁.setTop (mkF m 11 #[.val (.int a)] [(.int (1 : Int32))])) _
    exact hq)
  have hE := e0
  refine retInt X0 hx hret hlk (by simp) rfl (hb hby d_jdk_89_method_18_code_11) k1 ?_ (by decide) (by decide)
  try rw [hE]
  exact ⟨rfl, N0, rfl⟩
theorem d_prog_1_method_2_code_0 : decode prog_1_method_2_code 0 = .ok (.iconst 0, 1) := by decide +kernel
theorem d_prog_1_method_2_code_1 : decode prog_1_method_2_code 1 = .ok (.istore_n 3, 1) := by decide +kernel
theorem d_prog_1_method_2_code_2 : decode prog_1_method_2_code 2 = .ok (.iconst 0, 1) := by decide +kernel
theorem d_prog_1_method_2_code_3 : decode prog_1_method_2_code 3 = .ok (.istore 4, 2) := by decide +kernel
theorem d_prog_1_method_2_code_5 : decode prog_1_method_2_code 5 = .ok (.iload_n 3, 1) := by decide +kernel
theorem d_prog_1_method_2_code_6 : decode prog_1_method_2_code 6 = .ok (.aload_n 1, 1) := by decide +kernel
theorem d_prog_1_method_2_code_7 : decode prog_1_method_2_code 7 = .ok (.invokevirtual 7, 3) := by decide +kernel
theorem d_prog_1_method_2_code_10 : decode prog_1_method_2_code 10 = .ok (.if_icmp .ge 63, 3) := by decide +kernel
theorem d_prog_1_method_2_code_13 : decode prog_1_method_2_code 13 = .ok (.iload 4, 2) := by decide +kernel
theorem d_prog_1_method_2_code_15 : decode prog_1_method_2_code 15 = .ok (.aload_n 2, 1) := by decide +kernel
theorem d_prog_1_method_2_code_16 : decode prog_1_method_2_code 16 = .ok (.invokevirtual 7, 3) := by decide +kernel
theorem d_prog_1_method_2_code_19 : decode prog_1_method_2_code 19 = .ok (.if_icmp .ge 54, 3) := by decide +kernel
theorem d_prog_1_method_2_code_22 : decode prog_1_method_2_code 22 = .ok (.aload_n 1, 1) := by decide +kernel
theorem d_prog_1_method_2_code_23 : decode prog_1_method_2_code 23 = .ok (.iload_n 3, 1) := by decide +kernel
theorem d_prog_1_method_2_code_24 : decode prog_1_method_2_code 24 = .ok (.invokevirtual 13, 3) := by decide +kernel
theorem d_prog_1_method_2_code_27 : decode prog_1_method_2_code 27 = .ok (.istore 5, 2) := by decide +kernel
theorem d_prog_1_method_2_code_29 : decode prog_1_method_2_code 29 = .ok (.aload_n 2, 1) := by decide +kernel
theorem d_prog_1_method_2_code_30 : decode prog_1_method_2_code 30 = .ok (.iload 4, 2) := by decide +kernel
theorem d_prog_1_method_2_code_32 : decode prog_1_method_2_code 32 = .ok (.invokevirtual 13, 3) := by decide +kernel
theorem d_prog_1_method_2_code_35 : decode prog_1_method_2_code 35 = .ok (.istore 6, 2) := by decide +kernel
theorem d_prog_1_method_2_code_37 : decode prog_1_method_2_code 37 = .ok (.iload 5, 2) := by decide +kernel
theorem d_prog_1_method_2_code_39 : decode prog_1_method_2_code 39 = .ok (.iload 6, 2) := by decide +kernel
theorem d_prog_1_method_2_code_41 : decode prog_1_method_2_code 41 = .ok (.if_icmp .eq 11, 3) := by decide +kernel
theorem d_prog_1_method_2_code_44 : decode prog_1_method_2_code 44 = .ok (.iload 5, 2) := by decide +kernel
theorem d_prog_1_method_2_code_46 : decode prog_1_method_2_code 46 = .ok (.iload 6, 2) := by decide +kernel
theorem d_prog_1_method_2_code_48 : decode prog_1_method_2_code 48 = .ok (.invokestatic 17, 3) := by decide +kernel
theorem d_prog_1_method_2_code_51 : decode prog_1_method_2_code 51 = .ok (.ireturn, 1) := by decide +kernel
theorem d_prog_1_method_2_code_52 : decode prog_1_method_2_code 52 = .ok (.iload_n 3, 1) := by decide +kernel
theorem d_prog_1_method_2_code_53 : decode prog_1_method_2_code 53 = .ok (.iload 5, 2) := by decide +kernel
theorem d_prog_1_method_2_code_55 : decode prog_1_method_2_code 55 = .ok (.invokestatic 23, 3) := by decide +kernel
theorem d_prog_1_method_2_code_58 : decode prog_1_method_2_code 58 = .ok (.iadd, 1) := by decide +kernel
theorem d_prog_1_method_2_code_59 : decode prog_1_method_2_code 59 = .ok (.istore_n 3, 1) := by decide +kernel
theorem d_prog_1_method_2_code_60 : decode prog_1_method_2_code 60 = .ok (.iload 4, 2) := by decide +kernel
theorem d_prog_1_method_2_code_62 : decode prog_1_method_2_code 62 = .ok (.iload 6, 2) := by decide +kernel
theorem d_prog_1_method_2_code_64 : decode prog_1_method_2_code 64 = .ok (.invokestatic 23, 3) := by decide +kernel
theorem d_prog_1_method_2_code_67 : decode prog_1_method_2_code 67 = .ok (.iadd, 1) := by decide +kernel
theorem d_prog_1_method_2_code_68 : decode prog_1_method_2_code 68 = .ok (.istore 4, 2) := by decide +kernel
theorem d_prog_1_method_2_code_70 : decode prog_1_method_2_code 70 = .ok (.goto (-65), 3) := by decide +kernel
theorem d_prog_1_method_2_code_73 : decode prog_1_method_2_code 73 = .ok (.aload_n 1, 1) := by decide +kernel
theorem d_prog_1_method_2_code_74 : decode prog_1_method_2_code 74 = .ok (.invokevirtual 7, 3) := by decide +kernel
theorem d_prog_1_method_2_code_77 : decode prog_1_method_2_code 77 = .ok (.iload_n 3, 1) := by decide +kernel
theorem d_prog_1_method_2_code_78 : decode prog_1_method_2_code 78 = .ok (.isub, 1) := by decide +kernel
theorem d_prog_1_method_2_code_79 : decode prog_1_method_2_code 79 = .ok (.aload_n 2, 1) := by decide +kernel
theorem d_prog_1_method_2_code_80 : decode prog_1_method_2_code 80 = .ok (.invokevirtual 7, 3) := by decide +kernel
theorem d_prog_1_method_2_code_83 : decode prog_1_method_2_code 83 = .ok (.iload 4, 2) := by decide +kernel
theorem d_prog_1_method_2_code_85 : decode prog_1_method_2_code 85 = .ok (.isub, 1) := by decide +kernel
theorem d_prog_1_method_2_code_86 : decode prog_1_method_2_code 86 = .ok (.invokestatic 17, 3) := by decide +kernel
theorem d_prog_1_method_2_code_89 : decode prog_1_method_2_code 89 = .ok (.ireturn, 1) := by decide +kernel
theorem pn_5 : plainName "com/example/huntaway/huntaway/CodePointOrder" = true := by first | (simp [plainName, overriddenIn]; done) | decide +kernel
theorem pd_7 : parseMethodDescriptor "()I" = some ⟨[], some .int⟩ := by decide +kernel
theorem pd_8 : parseMethodDescriptor "(I)I" = some ⟨[.int], some .int⟩ := by decide +kernel
theorem pd_9 : parseMethodDescriptor "(II)I" = some ⟨[.int, .int], some .int⟩ := by decide +kernel
set_option maxRecDepth 65536 in
set_option maxHeartbeats 40000000 in
theorem rm_cmp (l : Launch) (Z : State) (a0 : Array Value) (hw : ∀ d ∈ tables_1, d.before a0 Z = true) (zc : Int32) (fm : Value) (qF : Addr) (qP : Addr) (qI : Addr) (a : Addr) (ta : Addr) (ka : ClassId) (c : Int32) (b : Addr) (tb : Addr) (kb : ClassId) (d : Int32) (h0 : Heap) (n0 : Nat) (hn0 : n0 ≤ h0.size) (S_c : Sta Z Z.heap "java/lang/String" "COMPACT_STRINGS" "Z" (.int zc)) (hzc : ¬ zc = (0 : Int32)) (S_f : Sta Z Z.heap "jdk/internal/util/Preconditions" "SIOOBE_FORMATTER" "Ljava/util/function/BiFunction;" fm) (hfm : fm.isRef = true) (S_F : Sta Z Z.heap "com/example/huntaway/huntaway/Effect" "FORBID" "Lcom/example/huntaway/huntaway/Effect;" (.ref qF)) (S_P : Sta Z Z.heap "com/example/huntaway/huntaway/Effect" "PERMIT" "Lcom/example/huntaway/huntaway/Effect;" (.ref qP)) (S_I : Sta Z Z.heap "com/example/huntaway/huntaway/CodePointOrder" "INSTANCE" "Lcom/example/huntaway/huntaway/CodePointOrder;" (.ref qI)) (A_I : Exa Z Z.heap qI "com/example/huntaway/huntaway/CodePointOrder") (O0 : Old Z n0 h0) (P0 : Exa Z h0 a "java/lang/String") (P1 : Fld Z h0 a "java/lang/String" "value" "[B" (.ref ta)) (P2 : Fld Z h0 a "java/lang/String" "coder" "B" (.int (0 : Int32))) (P3 : Arv Z h0 ta ka .byte (1 : Int32) [(.int c)] (.int 0)) (R0 : Exa Z h0 b "java/lang/String") (R1 : Fld Z h0 b "java/lang/String" "value" "[B" (.ref tb)) (R2 : Fld Z h0 b "java/lang/String" "coder" "B" (.int (0 : Int32))) (R3 : Arv Z h0 tb kb .byte (1 : Int32) [(.int d)] (.int 0)) :
    Con l Z (⟨"com/example/huntaway/huntaway/CodePointOrder", "compare", "(Ljava/lang/String;Ljava/lang/String;)I"⟩ : MethodName) prog_1_method_2_code 7 (some .int) [] ({ frames := 3, cells := 0, slots := 0, locals := 41 } : Room) #[(.ref qI), (.ref a), (.ref b)] h0 (fun v h L => ∃ r : Int32, v = some (.int r) ∧ Fr n0 L ∧ h = h0) := by
  refine enter (Ls := #[.val (.ref qI), .val (.ref a), .val (.ref b), .unset, .unset, .unset, .unset]) (plainFor_of_name pn_5) (fun m => by exact entry_eq rfl) ?_
  intro p e s m below meth cd_ s₁ S0 hx hby hml hret hlk hnm hown hZ X0 e0 k0
  have N0 := Fr.nil n0
  have k1 : To p.tables e below S0 (s₁.setTop (mkF m 7 #[.val (.ref qI), .val (.ref a), .val (.ref b), .val (.int (0 : Int32)), .val (.int (0 : Int32)), .unset, .unset] [(.ref a), (.int (0 : Int32))])) := fun tt hq => k0 tt (by
    show Steps _ _ _ (s₁.setTop (mkF m 0 #[.val (.ref qI), .val (.ref a), .val (.ref b), .unset, .unset, .unset, .unset] [])) _
    refine XS.iconst X0.here hx rfl (hb hby d_prog_1_method_2_code_0) ?_
    show Steps _ _ _ (s₁.setTop (mkF m 1 #[.val (.ref qI), .val (.ref a), .val (.ref b), .unset, .unset, .unset, .unset] [(.int (0 : Int32))])) _
    refine XS.istoreN X0.here hx rfl (hb hby d_prog_1_method_2_code_1) rfl (l' := #[.val (.ref qI), .val (.ref a), .val (.ref b), .val (.int (0 : Int32)), .unset, .unset, .unset]) rfl ?_
    show Steps _ _ _ (s₁.setTop (mkF m 2 #[.val (.ref qI), .val (.ref a), .val (.ref b), .val (.int (0 : Int32)), .unset, .unset, .unset] [])) _
    refine XS.iconst X0.here hx rfl (hb hby d_prog_1_method_2_code_2) ?_
    show Steps _ _ _ (s₁.setTop (mkF m 3 #[.val (.ref qI), .val (.ref a), .val (.ref b), .val (.int (0 : Int32)), .unset, .unset, .unset] [(.int (0 : Int32))])) _
    refine XS.istore X0.here hx rfl (hb hby d_prog_1_method_2_code_3) rfl (l' := #[.val (.ref qI), .val (.ref a), .val (.ref b), .val (.int (0 : Int32)), .val (.int (0 : Int32)), .unset, .unset]) rfl ?_
    show Steps _ _ _ (s₁.setTop (mkF m 5 #[.val (.ref qI), .val (.ref a), .val (.ref b), .val (.int (0 : Int32)), .val (.int (0 : Int32)), .unset, .unset] [])) _
    refine XS.iloadN X0.here hx rfl (hb hby d_prog_1_method_2_code_5) rfl ?_
    show Steps _ _ _ (s₁.setTop (mkF m 6 #[.val (.ref qI), .val (.ref a), .val (.ref b), .val (.int (0 : Int32)), .val (.int (0 : Int32)), .unset, .unset] [(.int (0 : Int32))])) _
    refine XS.aloadN X0.here hx rfl (hb hby d_prog_1_method_2_code_6) rfl rfl ?_
    show Steps _ _ _ (s₁.setTop (mkF m 7 #[.val (.ref qI), .val (.ref a), .val (.ref b), .val (.int (0 : Int32)), .val (.int (0 : Int32)), .unset, .unset] [(.ref a), (.int (0 : Int32))])) _
    exact hq)
  obtain ⟨_, T2, L2, X2, ⟨rfl, Nq2, eq2⟩, k2a⟩ := callV' X0 hx hZ (y := (⟨"java/lang/String", "length", "()I"⟩ : MethodName)) (z := (⟨"java/lang/String", "length", "()I"⟩ : MethodName)) hown (hw _ (List.mem_of_getElem? (i := 72) rfl)) (hw _ (List.mem_of_getElem? (i := 73) rfl)) (notFace_of_selects (args := #[]) (mvT hZ (hw _ (List.mem_of_getElem? (i := 75) rfl)))) (hw _ (List.mem_of_getElem? (i := 75) rfl)) (hw _ (List.mem_of_getElem? (i := 74) rfl)) (by decide) P0 (backC (W := 1) (rm_len1 l Z a0 hw zc a ta ka c h0 n0 (by omega) S_c hzc O0 P0 P1 P2 P3) hZ (hw _ (List.mem_of_getElem? (i := 76) rfl)) (hw _ (List.mem_of_getElem? (i := 5) rfl)) (by decide) (by decide)) e0 (argsL := []) (rest := [(.int (0 : Int32))]) rfl rfl pd_7 rfl (by rw [hml]; rfl) (hb hby d_prog_1_method_2_code_7) (Nat.le_of_eq rfl) (by decide) (by decide) k1
  have k2 : To p.tables e below S0 (T2.setTop (mkF m 10 #[.val (.ref qI), .val (.ref a), .val (.ref b), .val (.int (0 : Int32)), .val (.int (0 : Int32)), .unset, .unset] [(.int (1 : Int32)), (.int (0 : Int32))])) := k2a
  have N2 := N0.app Nq2
  have e2 : T2.heap = h0 := eq2
  have k3 : To p.tables e below S0 (T2.setTop (mkF m 16 #[.val (.ref qI), .val (.ref a), .val (.ref b), .val (.int (0 : Int32)), .val (.int (0 : Int32)), .unset, .unset] [(.ref b), (.int (0 : Int32))])) := fun tt hq => k2 tt (by
    show Steps _ _ _ (T2.setTop (mkF m 10 #[.val (.ref qI), .val (.ref a), .val (.ref b), .val (.int (0 : Int32)), .val (.int (0 : Int32)), .unset, .unset] [(.int (1 : Int32)), (.int (0 : Int32))])) _
    refine XS.icmpNo X2.here hx rfl (hb hby d_prog_1_method_2_code_10) rfl (tlt (by decide)).2.1 ?_
    show Steps _ _ _ (T2.setTop (mkF m 13 #[.val (.ref qI), .val (.ref a), .val (.ref b), .val (.int (0 : Int32)), .val (.int (0 : Int32)), .unset, .unset] [])) _
    refine XS.iload X2.here hx rfl (hb hby d_prog_1_method_2_code_13) rfl ?_
    show Steps _ _ _ (T2.setTop (mkF m 15 #[.val (.ref qI), .val (.ref a), .val (.ref b), .val (.int (0 : Int32)), .val (.int (0 : Int32)), .unset, .unset] [(.int (0 : Int32))])) _
    refine XS.aloadN X2.here hx rfl (hb hby d_prog_1_method_2_code_15) rfl rfl ?_
    show Steps _ _ _ (T2.setTop (mkF m 16 #[.val (.ref qI), .val (.ref a), .val (.ref b), .val (.int (0 : Int32)), .val (.int (0 : Int32)), .unset, .unset] [(.ref b), (.int (0 : Int32))])) _
    exact hq)
  obtain ⟨_, T4, L4, X4, ⟨rfl, Nq4, eq4⟩, k4a⟩ := callV' X2 hx hZ (y := (⟨"java/lang/String", "length", "()I"⟩ : MethodName)) (z := (⟨"java/lang/String", "length", "()I"⟩ : MethodName)) hown (hw _ (List.mem_of_getElem? (i := 72) rfl)) (hw _ (List.mem_of_getElem? (i := 73) rfl)) (notFace_of_selects (args := #[]) (mvT hZ (hw _ (List.mem_of_getElem? (i := 75) rfl)))) (hw _ (List.mem_of_getElem? (i := 75) rfl)) (hw _ (List.mem_of_getElem? (i := 74) rfl)) (by decide) R0 (backC (W := 1) (rm_len1 l Z a0 hw zc b tb kb d h0 n0 (by omega) S_c hzc O0 R0 R1 R2 R3) hZ (hw _ (List.mem_of_getElem? (i := 76) rfl)) (hw _ (List.mem_of_getElem? (i := 5) rfl)) (by decide) (by decide)) e2 (argsL := []) (rest := [(.int (0 : Int32))]) rfl rfl pd_7 rfl (by rw [hml]; rfl) (hb hby d_prog_1_method_2_code_16) (Nat.le_of_eq rfl) (by decide) (by decide) k3
  have k4 : To p.tables e below S0 (T4.setTop (mkF m 19 #[.val (.ref qI), .val (.ref a), .val (.ref b), .val (.int (0 : Int32)), .val (.int (0 : Int32)), .unset, .unset] [(.int (1 : Int32)), (.int (0 : Int32))])) := k4a
  have N4 := N2.app Nq4
  have e4 : T4.heap = h0 := eq4
  have k5 : To p.tables e below S0 (T4.setTop (mkF m 24 #[.val (.ref qI), .val (.ref a), .val (.ref b), .val (.int (0 : Int32)), .val (.int (0 : Int32)), .unset, .unset] [(.int (0 : Int32)), (.ref a)])) := fun tt hq => k4 tt (by
    show Steps _ _ _ (T4.setTop (mkF m 19 #[.val (.ref qI), .val (.ref a), .val (.ref b), .val (.int (0 : Int32)), .val (.int (0 : Int32)), .unset, .unset] [(.int (1 : Int32)), (.int (0 : Int32))])) _
    refine XS.icmpNo X4.here hx rfl (hb hby d_prog_1_method_2_code_19) rfl (tlt (by decide)).2.1 ?_
    show Steps _ _ _ (T4.setTop (mkF m 22 #[.val (.ref qI), .val (.ref a), .val (.ref b), .val (.int (0 : Int32)), .val (.int (0 : Int32)), .unset, .unset] [])) _
    refine XS.aloadN X4.here hx rfl (hb hby d_prog_1_method_2_code_22) rfl rfl ?_
    show Steps _ _ _ (T4.setTop (mkF m 23 #[.val (.ref qI), .val (.ref a), .val (.ref b), .val (.int (0 : Int32)), .val (.int (0 : Int32)), .unset, .unset] [(.ref a)])) _
    refine XS.iloadN X4.here hx rfl (hb hby d_prog_1_method_2_code_23) rfl ?_
    show Steps _ _ _ (T4.setTop (mkF m 24 #[.val (.ref qI), .val (.ref a), .val (.ref b), .val (.int (0 : Int32)), .val (.int (0 : Int32)), .unset, .unset] [(.int (0 : Int32)), (.ref a)])) _
    exact hq)
  obtain ⟨_, T6, L6, X6, ⟨rfl, Nq6, eq6⟩, k6a⟩ := callV' X4 hx hZ (y := (⟨"java/lang/String", "codePointAt", "(I)I"⟩ : MethodName)) (z := (⟨"java/lang/String", "codePointAt", "(I)I"⟩ : MethodName)) hown (hw _ (List.mem_of_getElem? (i := 82) rfl)) (hw _ (List.mem_of_getElem? (i := 83) rfl)) (notFace_of_selects (args := #[]) (mvT hZ (hw _ (List.mem_of_getElem? (i := 85) rfl)))) (hw _ (List.mem_of_getElem? (i := 85) rfl)) (hw _ (List.mem_of_getElem? (i := 84) rfl)) (by decide) P0 (backC (W := 0) (rm_cp1_0 l Z a0 hw zc fm a ta ka c h0 n0 (by omega) S_c hzc S_f hfm O0 P0 P1 P2 P3) hZ (hw _ (List.mem_of_getElem? (i := 86) rfl)) (hw _ (List.mem_of_getElem? (i := 5) rfl)) (by decide) (by decide)) e4 (argsL := [(.int (0 : Int32))]) (rest := []) rfl rfl pd_8 rfl (by rw [hml]; rfl) (hb hby d_prog_1_method_2_code_24) (Nat.le_of_eq rfl) (by decide) (by decide) k5
  have k6 : To p.tables e below S0 (T6.setTop (mkF m 27 #[.val (.ref qI), .val (.ref a), .val (.ref b), .val (.int (0 : Int32)), .val (.int (0 : Int32)), .unset, .unset] [(.int (c &&& (255 : Int32)))])) := k6a
  have N6 := N4.app Nq6
  have e6 : T6.heap = h0 := eq6
  have k7 : To p.tables e below S0 (T6.setTop (mkF m 32 #[.val (.ref qI), .val (.ref a), .val (.ref b), .val (.int (0 : Int32)), .val (.int (0 : Int32)), .val (.int (c &&& (255 : Int32))), .unset] [(.int (0 : Int32)), (.ref b)])) := fun tt hq => k6 tt (by
    show Steps _ _ _ (T6.setTop (mkF m 27 #[.val (.ref qI), .val (.ref a), .val (.ref b), .val (.int (0 : Int32)), .val (.int (0 : Int32)), .unset, .unset] [(.int (c &&& (255 : Int32)))])) _
    refine XS.istore X6.here hx rfl (hb hby d_prog_1_method_2_code_27) rfl (l' := #[.val (.ref qI), .val (.ref a), .val (.ref b), .val (.int (0 : Int32)), .val (.int (0 : Int32)), .val (.int (c &&& (255 : Int32))), .unset]) rfl ?_
    show Steps _ _ _ (T6.setTop (mkF m 29 #[.val (.ref qI), .val (.ref a), .val (.ref b), .val (.int (0 : Int32)), .val (.int (0 : Int32)), .val (.int (c &&& (255 : Int32))), .unset] [])) _
    refine XS.aloadN X6.here hx rfl (hb hby d_prog_1_method_2_code_29) rfl rfl ?_
    show Steps _ _ _ (T6.setTop (mkF m 30 #[.val (.ref qI), .val (.ref a), .val (.ref b), .val (.int (0 : Int32)), .val (.int (0 : Int32)), .val (.int (c &&& (255 : Int32))), .unset] [(.ref b)])) _
    refine XS.iload X6.here hx rfl (hb hby d_prog_1_method_2_code_30) rfl ?_
    show Steps _ _ _ (T6.setTop (mkF m 32 #[.val (.ref qI), .val (.ref a), .val (.ref b), .val (.int (0 : Int32)), .val (.int (0 : Int32)), .val (.int (c &&& (255 : Int32))), .unset] [(.int (0 : Int32)), (.ref b)])) _
    exact hq)
  obtain ⟨_, T8, L8, X8, ⟨rfl, Nq8, eq8⟩, k8a⟩ := callV' X6 hx hZ (y := (⟨"java/lang/String", "codePointAt", "(I)I"⟩ : MethodName)) (z := (⟨"java/lang/String", "codePointAt", "(I)I"⟩ : MethodName)) hown (hw _ (List.mem_of_getElem? (i := 82) rfl)) (hw _ (List.mem_of_getElem? (i := 83) rfl)) (notFace_of_selects (args := #[]) (mvT hZ (hw _ (List.mem_of_getElem? (i := 85) rfl)))) (hw _ (List.mem_of_getElem? (i := 85) rfl)) (hw _ (List.mem_of_getElem? (i := 84) rfl)) (by decide) R0 (backC (W := 0) (rm_cp1_0 l Z a0 hw zc fm b tb kb d h0 n0 (by omega) S_c hzc S_f hfm O0 R0 R1 R2 R3) hZ (hw _ (List.mem_of_getElem? (i := 86) rfl)) (hw _ (List.mem_of_getElem? (i := 5) rfl)) (by decide) (by decide)) e6 (argsL := [(.int (0 : Int32))]) (rest := []) rfl rfl pd_8 rfl (by rw [hml]; rfl) (hb hby d_prog_1_method_2_code_32) (Nat.le_of_eq rfl) (by decide) (by decide) k7
  have k8 : To p.tables e below S0 (T8.setTop (mkF m 35 #[.val (.ref qI), .val (.ref a), .val (.ref b), .val (.int (0 : Int32)), .val (.int (0 : Int32)), .val (.int (c &&& (255 : Int32))), .unset] [(.int (d &&& (255 : Int32)))])) := k8a
  have N8 := N6.app Nq8
  have e8 : T8.heap = h0 := eq8
  have k9 : To p.tables e below S0 (T8.setTop (mkF m 41 #[.val (.ref qI), .val (.ref a), .val (.ref b), .val (.int (0 : Int32)), .val (.int (0 : Int32)), .val (.int (c &&& (255 : Int32))), .val (.int (d &&& (255 : Int32)))] [(.int (d &&& (255 : Int32))), (.int (c &&& (255 : Int32)))])) := fun tt hq => k8 tt (by
    show Steps _ _ _ (T8.setTop (mkF m 35 #[.val (.ref qI), .val (.ref a), .val (.ref b), .val (.int (0 : Int32)), .val (.int (0 : Int32)), .val (.int (c &&& (255 : Int32))), .unset] [(.int (d &&& (255 : Int32)))])) _
    refine XS.istore X8.here hx rfl (hb hby d_prog_1_method_2_code_35) rfl (l' := #[.val (.ref qI), .val (.ref a), .val (.ref b), .val (.int (0 : Int32)), .val (.int (0 : Int32)), .val (.int (c &&& (255 : Int32))), .val (.int (d &&& (255 : Int32)))]) rfl ?_
    show Steps _ _ _ (T8.setTop (mkF m 37 #[.val (.ref qI), .val (.ref a), .val (.ref b), .val (.int (0 : Int32)), .val (.int (0 : Int32)), .val (.int (c &&& (255 : Int32))), .val (.int (d &&& (255 : Int32)))] [])) _
    refine XS.iload X8.here hx rfl (hb hby d_prog_1_method_2_code_37) rfl ?_
    show Steps _ _ _ (T8.setTop (mkF m 39 #[.val (.ref qI), .val (.ref a), .val (.ref b), .val (.int (0 : Int32)), .val (.int (0 : Int32)), .val (.int (c &&& (255 : Int32))), .val (.int (d &&& (255 : Int32)))] [(.int (c &&& (255 : Int32)))])) _
    refine XS.iload X8.here hx rfl (hb hby d_prog_1_method_2_code_39) rfl ?_
    show Steps _ _ _ (T8.setTop (mkF m 41 #[.val (.ref qI), .val (.ref a), .val (.ref b), .val (.int (0 : Int32)), .val (.int (0 : Int32)), .val (.int (c &&& (255 : Int32))), .val (.int (d &&& (255 : Int32)))] [(.int (d &&& (255 : Int32))), (.int (c &&& (255 : Int32)))])) _
    exact hq)
  by_cases hc41_10 : (c &&& (255 : Int32)) = (d &&& (255 : Int32))
  · -- pc 41, holds
    have k11 : To p.tables e below S0 (T8.setTop (mkF m 55 #[.val (.ref qI), .val (.ref a), .val (.ref b), .val (.int (0 : Int32)), .val (.int (0 : Int32)), .val (.int (c &&& (255 : Int32))), .val (.int (d &&& (255 : Int32)))] [(.int (c &&& (255 : Int32))), (.int (0 : Int32))])) := fun tt hq => k9 tt (by
      show Steps _ _ _ (T8.setTop (mkF m 41 #[.val (.ref qI), .val (.ref a), .val (.ref b), .val (.int (0 : Int32)), .val (.int (0 : Int32)), .val (.int (c &&& (255 : Int32))), .val (.int (d &&& (255 : Int32)))] [(.int (d &&& (255 : Int32))), (.int (c &&& (255 : Int32)))])) _
      refine XS.icmpYes X8.here hx rfl (pc0 := 41) (pc' := 52) rfl (hb hby d_prog_1_method_2_code_41) rfl (teq hc41_10).1 (by decide) (by decide) ?_
      show Steps _ _ _ (T8.setTop (mkF m 52 #[.val (.ref qI), .val (.ref a), .val (.ref b), .val (.int (0 : Int32)), .val (.int (0 : Int32)), .val (.int (c &&& (255 : Int32))), .val (.int (d &&& (255 : Int32)))] [])) _
      refine XS.iloadN X8.here hx rfl (hb hby d_prog_1_method_2_code_52) rfl ?_
      show Steps _ _ _ (T8.setTop (mkF m 53 #[.val (.ref qI), .val (.ref a), .val (.ref b), .val (.int (0 : Int32)), .val (.int (0 : Int32)), .val (.int (c &&& (255 : Int32))), .val (.int (d &&& (255 : Int32)))] [(.int (0 : Int32))])) _
      refine XS.iload X8.here hx rfl (hb hby d_prog_1_method_2_code_53) rfl ?_
      show Steps _ _ _ (T8.setTop (mkF m 55 #[.val (.ref qI), .val (.ref a), .val (.ref b), .val (.int (0 : Int32)), .val (.int (0 : Int32)), .val (.int (c &&& (255 : Int32))), .val (.int (d &&& (255 : Int32)))] [(.int (c &&& (255 : Int32))), (.int (0 : Int32))])) _
      exact hq)
    obtain ⟨_, T12, L12, X12, ⟨rfl, Nq12, eq12⟩, k12a⟩ := callS' X8 hx hZ (y := (⟨"java/lang/Character", "charCount", "(I)I"⟩ : MethodName)) hown (hw _ (List.mem_of_getElem? (i := 100) rfl)) (hw _ (List.mem_of_getElem? (i := 101) rfl)) (hw _ (List.mem_of_getElem? (i := 102) rfl)) (hw _ (List.mem_of_getElem? (i := 103) rfl)) (by decide) (backC (W := 1) (rm_cc l Z a0 hw (c &&& (255 : Int32)) h0 n0 (by omega) (own_small _)) hZ (hw _ (List.mem_of_getElem? (i := 103) rfl)) (hw _ (List.mem_of_getElem? (i := 102) rfl)) (by decide) (by decide)) e8 (argsL := [(.int (c &&& (255 : Int32)))]) (rest := [(.int (0 : Int32))]) rfl rfl pd_8 rfl (by rw [hml]; rfl) (hb hby d_prog_1_method_2_code_55) (Nat.le_of_eq rfl) (by decide) (by decide) k11
    have k12 : To p.tables e below S0 (T12.setTop (mkF m 58 #[.val (.ref qI), .val (.ref a), .val (.ref b), .val (.int (0 : Int32)), .val (.int (0 : Int32)), .val (.int (c &&& (255 : Int32))), .val (.int (d &&& (255 : Int32)))] [(.int (1 : Int32)), (.int (0 : Int32))])) := k12a
    have N12 := N8.app Nq12
    have e12 : T12.heap = h0 := eq12
    have k13 : To p.tables e below S0 (T12.setTop (mkF m 64 #[.val (.ref qI), .val (.ref a), .val (.ref b), .val (.int (1 : Int32)), .val (.int (0 : Int32)), .val (.int (c &&& (255 : Int32))), .val (.int (d &&& (255 : Int32)))] [(.int (d &&& (255 : Int32))), (.int (0 : Int32))])) := fun tt hq => k12 tt (by
      show Steps _ _ _ (T12.setTop (mkF m 58 #[.val (.ref qI), .val (.ref a), .val (.ref b), .val (.int (0 : Int32)), .val (.int (0 : Int32)), .val (.int (c &&& (255 : Int32))), .val (.int (d &&& (255 : Int32)))] [(.int (1 : Int32)), (.int (0 : Int32))])) _
      refine XS.iadd X12.here hx rfl (hb hby d_prog_1_method_2_code_58) rfl ?_
      show Steps _ _ _ (T12.setTop (mkF m 59 #[.val (.ref qI), .val (.ref a), .val (.ref b), .val (.int (0 : Int32)), .val (.int (0 : Int32)), .val (.int (c &&& (255 : Int32))), .val (.int (d &&& (255 : Int32)))] [(.int (1 : Int32))])) _
      refine XS.istoreN X12.here hx rfl (hb hby d_prog_1_method_2_code_59) rfl (l' := #[.val (.ref qI), .val (.ref a), .val (.ref b), .val (.int (1 : Int32)), .val (.int (0 : Int32)), .val (.int (c &&& (255 : Int32))), .val (.int (d &&& (255 : Int32)))]) rfl ?_
      show Steps _ _ _ (T12.setTop (mkF m 60 #[.val (.ref qI), .val (.ref a), .val (.ref b), .val (.int (1 : Int32)), .val (.int (0 : Int32)), .val (.int (c &&& (255 : Int32))), .val (.int (d &&& (255 : Int32)))] [])) _
      refine XS.iload X12.here hx rfl (hb hby d_prog_1_method_2_code_60) rfl ?_
      show Steps _ _ _ (T12.setTop (mkF m 62 #[.val (.ref qI), .val (.ref a), .val (.ref b), .val (.int (1 : Int32)), .val (.int (0 : Int32)), .val (.int (c &&& (255 : Int32))), .val (.int (d &&& (255 : Int32)))] [(.int (0 : Int32))])) _
      refine XS.iload X12.here hx rfl (hb hby d_prog_1_method_2_code_62) rfl ?_
      show Steps _ _ _ (T12.setTop (mkF m 64 #[.val (.ref qI), .val (.ref a), .val (.ref b), .val (.int (1 : Int32)), .val (.int (0 : Int32)), .val (.int (c &&& (255 : Int32))), .val (.int (d &&& (255 : Int32)))] [(.int (d &&& (255 : Int32))), (.int (0 : Int32))])) _
      exact hq)
    obtain ⟨_, T14, L14, X14, ⟨rfl, Nq14, eq14⟩, k14a⟩ := callS' X12 hx hZ (y := (⟨"java/lang/Character", "charCount", "(I)I"⟩ : MethodName)) hown (hw _ (List.mem_of_getElem? (i := 100) rfl)) (hw _ (List.mem_of_getElem? (i := 101) rfl)) (hw _ (List.mem_of_getElem? (i := 102) rfl)) (hw _ (List.mem_of_getElem? (i := 103) rfl)) (by decide) (backC (W := 1) (rm_cc l Z a0 hw (d &&& (255 : Int32)) h0 n0 (by omega) (own_small _)) hZ (hw _ (List.mem_of_getElem? (i := 103) rfl)) (hw _ (List.mem_of_getElem? (i := 102) rfl)) (by decide) (by decide)) e12 (argsL := [(.int (d &&& (255 : Int32)))]) (rest := [(.int (0 : Int32))]) rfl rfl pd_8 rfl (by rw [hml]; rfl) (hb hby d_prog_1_method_2_code_64) (Nat.le_of_eq rfl) (by decide) (by decide) k13
    have k14 : To p.tables e below S0 (T14.setTop (mkF m 67 #[.val (.ref qI), .val (.ref a), .val (.ref b), .val (.int (1 : Int32)), .val (.int (0 : Int32)), .val (.int (c &&& (255 : Int32))), .val (.int (d &&& (255 : Int32)))] [(.int (1 : Int32)), (.int (0 : Int32))])) := k14a
    have N14 := N12.app Nq14
    have e14 : T14.heap = h0 := eq14
    have k15 : To p.tables e below S0 (T14.setTop (mkF m 7 #[.val (.ref qI), .val (.ref a), .val (.ref b), .val (.int (1 : Int32)), .val (.int (1 : Int32)), .val (.int (c &&& (255 : Int32))), .val (.int (d &&& (255 : Int32)))] [(.ref a), (.int (1 : Int32))])) := fun tt hq => k14 tt (by
      show Steps _ _ _ (T14.setTop (mkF m 67 #[.val (.ref qI), .val (.ref a), .val (.ref b), .val (.int (1 : Int32)), .val (.int (0 : Int32)), .val (.int (c &&& (255 : Int32))), .val (.int (d &&& (255 : Int32)))] [(.int (1 : Int32)), (.int (0 : Int32))])) _
      refine XS.iadd X14.here hx rfl (hb hby d_prog_1_method_2_code_67) rfl ?_
      show Steps _ _ _ (T14.setTop (mkF m 68 #[.val (.ref qI), .val (.ref a), .val (.ref b), .val (.int (1 : Int32)), .val (.int (0 : Int32)), .val (.int (c &&& (255 : Int32))), .val (.int (d &&& (255 : Int32)))] [(.int (1 : Int32))])) _
      refine XS.istore X14.here hx rfl (hb hby d_prog_1_method_2_code_68) rfl (l' := #[.val (.ref qI), .val (.ref a), .val (.ref b), .val (.int (1 : Int32)), .val (.int (1 : Int32)), .val (.int (c &&& (255 : Int32))), .val (.int (d &&& (255 : Int32)))]) rfl ?_
      show Steps _ _ _ (T14.setTop (mkF m 70 #[.val (.ref qI), .val (.ref a), .val (.ref b), .val (.int (1 : Int32)), .val (.int (1 : Int32)), .val (.int (c &&& (255 : Int32))), .val (.int (d &&& (255 : Int32)))] [])) _
      refine XS.goto X14.here hx rfl (pc0 := 70) (pc' := 5) rfl (hb hby d_prog_1_method_2_code_70) (by decide) (by decide) ?_
      show Steps _ _ _ (T14.setTop (mkF m 5 #[.val (.ref qI), .val (.ref a), .val (.ref b), .val (.int (1 : Int32)), .val (.int (1 : Int32)), .val (.int (c &&& (255 : Int32))), .val (.int (d &&& (255 : Int32)))] [])) _
      refine XS.iloadN X14.here hx rfl (hb hby d_prog_1_method_2_code_5) rfl ?_
      show Steps _ _ _ (T14.setTop (mkF m 6 #[.val (.ref qI), .val (.ref a), .val (.ref b), .val (.int (1 : Int32)), .val (.int (1 : Int32)), .val (.int (c &&& (255 : Int32))), .val (.int (d &&& (255 : Int32)))] [(.int (1 : Int32))])) _
      refine XS.aloadN X14.here hx rfl (hb hby d_prog_1_method_2_code_6) rfl rfl ?_
      show Steps _ _ _ (T14.setTop (mkF m 7 #[.val (.ref qI), .val (.ref a), .val (.ref b), .val (.int (1 : Int32)), .val (.int (1 : Int32)), .val (.int (c &&& (255 : Int32))), .val (.int (d &&& (255 : Int32)))] [(.ref a), (.int (1 : Int32))])) _
      exact hq)
    obtain ⟨_, T16, L16, X16, ⟨rfl, Nq16, eq16⟩, k16a⟩ := callV' X14 hx hZ (y := (⟨"java/lang/String", "length", "()I"⟩ : MethodName)) (z := (⟨"java/lang/String", "length", "()I"⟩ : MethodName)) hown (hw _ (List.mem_of_getElem? (i := 72) rfl)) (hw _ (List.mem_of_getElem? (i := 73) rfl)) (notFace_of_selects (args := #[]) (mvT hZ (hw _ (List.mem_of_getElem? (i := 75) rfl)))) (hw _ (List.mem_of_getElem? (i := 75) rfl)) (hw _ (List.mem_of_getElem? (i := 74) rfl)) (by decide) P0 (backC (W := 1) (rm_len1 l Z a0 hw zc a ta ka c h0 n0 (by omega) S_c hzc O0 P0 P1 P2 P3) hZ (hw _ (List.mem_of_getElem? (i := 76) rfl)) (hw _ (List.mem_of_getElem? (i := 5) rfl)) (by decide) (by decide)) e14 (argsL := []) (rest := [(.int (1 : Int32))]) rfl rfl pd_7 rfl (by rw [hml]; rfl) (hb hby d_prog_1_method_2_code_7) (Nat.le_of_eq rfl) (by decide) (by decide) k15
    have k16 : To p.tables e below S0 (T16.setTop (mkF m 10 #[.val (.ref qI), .val (.ref a), .val (.ref b), .val (.int (1 : Int32)), .val (.int (1 : Int32)), .val (.int (c &&& (255 : Int32))), .val (.int (d &&& (255 : Int32)))] [(.int (1 : Int32)), (.int (1 : Int32))])) := k16a
    have N16 := N14.app Nq16
    have e16 : T16.heap = h0 := eq16
    have k17 : To p.tables e below S0 (T16.setTop (mkF m 74 #[.val (.ref qI), .val (.ref a), .val (.ref b), .val (.int (1 : Int32)), .val (.int (1 : Int32)), .val (.int (c &&& (255 : Int32))), .val (.int (d &&& (255 : Int32)))] [(.ref a)])) := fun tt hq => k16 tt (by
      show Steps _ _ _ (T16.setTop (mkF m 10 #[.val (.ref qI), .val (.ref a), .val (.ref b), .val (.int (1 : Int32)), .val (.int (1 : Int32)), .val (.int (c &&& (255 : Int32))), .val (.int (d &&& (255 : Int32)))] [(.int (1 : Int32)), (.int (1 : Int32))])) _
      refine XS.icmpYes X16.here hx rfl (pc0 := 10) (pc' := 73) rfl (hb hby d_prog_1_method_2_code_10) rfl (flt (by decide)).2.1 (by decide) (by decide) ?_
      show Steps _ _ _ (T16.setTop (mkF m 73 #[.val (.ref qI), .val (.ref a), .val (.ref b), .val (.int (1 : Int32)), .val (.int (1 : Int32)), .val (.int (c &&& (255 : Int32))), .val (.int (d &&& (255 : Int32)))] [])) _
      refine XS.aloadN X16.here hx rfl (hb hby d_prog_1_method_2_code_73) rfl rfl ?_
      show Steps _ _ _ (T16.setTop (mkF m 74 #[.val (.ref qI), .val (.ref a), .val (.ref b), .val (.int (1 : Int32)), .val (.int (1 : Int32)), .val (.int (c &&& (255 : Int32))), .val (.int (d &&& (255 : Int32)))] [(.ref a)])) _
      exact hq)
    obtain ⟨_, T18, L18, X18, ⟨rfl, Nq18, eq18⟩, k18a⟩ := callV' X16 hx hZ (y := (⟨"java/lang/String", "length", "()I"⟩ : MethodName)) (z := (⟨"java/lang/String", "length", "()I"⟩ : MethodName)) hown (hw _ (List.mem_of_getElem? (i := 72) rfl)) (hw _ (List.mem_of_getElem? (i := 73) rfl)) (notFace_of_selects (args := #[]) (mvT hZ (hw _ (List.mem_of_getElem? (i := 75) rfl)))) (hw _ (List.mem_of_getElem? (i := 75) rfl)) (hw _ (List.mem_of_getElem? (i := 74) rfl)) (by decide) P0 (backC (W := 0) (rm_len1 l Z a0 hw zc a ta ka c h0 n0 (by omega) S_c hzc O0 P0 P1 P2 P3) hZ (hw _ (List.mem_of_getElem? (i := 76) rfl)) (hw _ (List.mem_of_getElem? (i := 5) rfl)) (by decide) (by decide)) e16 (argsL := []) (rest := []) rfl rfl pd_7 rfl (by rw [hml]; rfl) (hb hby d_prog_1_method_2_code_74) (Nat.le_of_eq rfl) (by decide) (by decide) k17
    have k18 : To p.tables e below S0 (T18.setTop (mkF m 77 #[.val (.ref qI), .val (.ref a), .val (.ref b), .val (.int (1 : Int32)), .val (.int (1 : Int32)), .val (.int (c &&& (255 : Int32))), .val (.int (d &&& (255 : Int32)))] [(.int (1 : Int32))])) := k18a
    have N18 := N16.app Nq18
    have e18 : T18.heap = h0 := eq18
    have k19 : To p.tables e below S0 (T18.setTop (mkF m 80 #[.val (.ref qI), .val (.ref a), .val (.ref b), .val (.int (1 : Int32)), .val (.int (1 : Int32)), .val (.int (c &&& (255 : Int32))), .val (.int (d &&& (255 : Int32)))] [(.ref b), (.int (0 : Int32))])) := fun tt hq => k18 tt (by
      show Steps _ _ _ (T18.setTop (mkF m 77 #[.val (.ref qI), .val (.ref a), .val (.ref b), .val (.int (1 : Int32)), .val (.int (1 : Int32)), .val (.int (c &&& (255 : Int32))), .val (.int (d &&& (255 : Int32)))] [(.int (1 : Int32))])) _
      refine XS.iloadN X18.here hx rfl (hb hby d_prog_1_method_2_code_77) rfl ?_
      show Steps _ _ _ (T18.setTop (mkF m 78 #[.val (.ref qI), .val (.ref a), .val (.ref b), .val (.int (1 : Int32)), .val (.int (1 : Int32)), .val (.int (c &&& (255 : Int32))), .val (.int (d &&& (255 : Int32)))] [(.int (1 : Int32)), (.int (1 : Int32))])) _
      refine XS.isub X18.here hx rfl (hb hby d_prog_1_method_2_code_78) rfl ?_
      show Steps _ _ _ (T18.setTop (mkF m 79 #[.val (.ref qI), .val (.ref a), .val (.ref b), .val (.int (1 : Int32)), .val (.int (1 : Int32)), .val (.int (c &&& (255 : Int32))), .val (.int (d &&& (255 : Int32)))] [(.int (0 : Int32))])) _
      refine XS.aloadN X18.here hx rfl (hb hby d_prog_1_method_2_code_79) rfl rfl ?_
      show Steps _ _ _ (T18.setTop (mkF m 80 #[.val (.ref qI), .val (.ref a), .val (.ref b), .val (.int (1 : Int32)), .val (.int (1 : Int32)), .val (.int (c &&& (255 : Int32))), .val (.int (d &&& (255 : Int32)))] [(.ref b), (.int (0 : Int32))])) _
      exact hq)
    obtain ⟨_, T20, L20, X20, ⟨rfl, Nq20, eq20⟩, k20a⟩ := callV' X18 hx hZ (y := (⟨"java/lang/String", "length", "()I"⟩ : MethodName)) (z := (⟨"java/lang/String", "length", "()I"⟩ : MethodName)) hown (hw _ (List.mem_of_getElem? (i := 72) rfl)) (hw _ (List.mem_of_getElem? (i := 73) rfl)) (notFace_of_selects (args := #[]) (mvT hZ (hw _ (List.mem_of_getElem? (i := 75) rfl)))) (hw _ (List.mem_of_getElem? (i := 75) rfl)) (hw _ (List.mem_of_getElem? (i := 74) rfl)) (by decide) R0 (backC (W := 1) (rm_len1 l Z a0 hw zc b tb kb d h0 n0 (by omega) S_c hzc O0 R0 R1 R2 R3) hZ (hw _ (List.mem_of_getElem? (i := 76) rfl)) (hw _ (List.mem_of_getElem? (i := 5) rfl)) (by decide) (by decide)) e18 (argsL := []) (rest := [(.int (0 : Int32))]) rfl rfl pd_7 rfl (by rw [hml]; rfl) (hb hby d_prog_1_method_2_code_80) (Nat.le_of_eq rfl) (by decide) (by decide) k19
    have k20 : To p.tables e below S0 (T20.setTop (mkF m 83 #[.val (.ref qI), .val (.ref a), .val (.ref b), .val (.int (1 : Int32)), .val (.int (1 : Int32)), .val (.int (c &&& (255 : Int32))), .val (.int (d &&& (255 : Int32)))] [(.int (1 : Int32)), (.int (0 : Int32))])) := k20a
    have N20 := N18.app Nq20
    have e20 : T20.heap = h0 := eq20
    have k21 : To p.tables e below S0 (T20.setTop (mkF m 86 #[.val (.ref qI), .val (.ref a), .val (.ref b), .val (.int (1 : Int32)), .val (.int (1 : Int32)), .val (.int (c &&& (255 : Int32))), .val (.int (d &&& (255 : Int32)))] [(.int (0 : Int32)), (.int (0 : Int32))])) := fun tt hq => k20 tt (by
      show Steps _ _ _ (T20.setTop (mkF m 83 #[.val (.ref qI), .val (.ref a), .val (.ref b), .val (.int (1 : Int32)), .val (.int (1 : Int32)), .val (.int (c &&& (255 : Int32))), .val (.int (d &&& (255 : Int32)))] [(.int (1 : Int32)), (.int (0 : Int32))])) _
      refine XS.iload X20.here hx rfl (hb hby d_prog_1_method_2_code_83) rfl ?_
      show Steps _ _ _ (T20.setTop (mkF m 85 #[.val (.ref qI), .val (.ref a), .val (.ref b), .val (.int (1 : Int32)), .val (.int (1 : Int32)), .val (.int (c &&& (255 : Int32))), .val (.int (d &&& (255 : Int32)))] [(.int (1 : Int32)), (.int (1 : Int32)), (.int (0 : Int32))])) _
      refine XS.isub X20.here hx rfl (hb hby d_prog_1_method_2_code_85) rfl ?_
      show Steps _ _ _ (T20.setTop (mkF m 86 #[.val (.ref qI), .val (.ref a), .val (.ref b), .val (.int (1 : Int32)), .val (.int (1 : Int32)), .val (.int (c &&& (255 : Int32))), .val (.int (d &&& (255 : Int32)))] [(.int (0 : Int32)), (.int (0 : Int32))])) _
      exact hq)
    obtain ⟨_, T22, L22, X22, ⟨r22, rfl, Nq22, eq22, hr22⟩, k22a⟩ := callS' X20 hx hZ (y := (⟨"java/lang/Integer", "compare", "(II)I"⟩ : MethodName)) hown (hw _ (List.mem_of_getElem? (i := 105) rfl)) (hw _ (List.mem_of_getElem? (i := 106) rfl)) (hw _ (List.mem_of_getElem? (i := 107) rfl)) (hw _ (List.mem_of_getElem? (i := 108) rfl)) (by decide) (backC (W := 0) (rm_icmp l Z a0 hw (0 : Int32) (0 : Int32) h0 n0 (by omega)) hZ (hw _ (List.mem_of_getElem? (i := 108) rfl)) (hw _ (List.mem_of_getElem? (i := 107) rfl)) (by decide) (by decide)) e20 (argsL := [(.int (0 : Int32)), (.int (0 : Int32))]) (rest := []) rfl rfl pd_9 rfl (by rw [hml]; rfl) (hb hby d_prog_1_method_2_code_86) (Nat.le_of_eq rfl) (by decide) (by decide) k21
    have k22 : To p.tables e below S0 (T22.setTop (mkF m 89 #[.val (.ref qI), .val (.ref a), .val (.ref b), .val (.int (1 : Int32)), .val (.int (1 : Int32)), .val (.int (c &&& (255 : Int32))), .val (.int (d &&& (255 : Int32)))] [(.int r22)])) := k22a
    have N22 := N20.app Nq22
    have e22 : T22.heap = h0 := eq22
    have hE := e22
    refine retInt X22 hx hret hlk (by simp) rfl (hb hby d_prog_1_method_2_code_89) k22 ?_ (by decide) (by decide)
    try rw [hE]
    exact ⟨_, rfl, N22, rfl⟩
  · -- pc 41, holds not
    have k23 : To p.tables e below S0 (T8.setTop (mkF m 48 #[.val (.ref qI), .val (.ref a), .val (.ref b), .val (.int (0 : Int32)), .val (.int (0 : Int32)), .val (.int (c &&& (255 : Int32))), .val (.int (d &&& (255 : Int32)))] [(.int (d &&& (255 : Int32))), (.int (c &&& (255 : Int32)))])) := fun tt hq => k9 tt (by
      show Steps _ _ _ (T8.setTop (mkF m 41 #[.val (.ref qI), .val (.ref a), .val (.ref b), .val (.int (0 : Int32)), .val (.int (0 : Int32)), .val (.int (c &&& (255 : Int32))), .val (.int (d &&& (255 : Int32)))] [(.int (d &&& (255 : Int32))), (.int (c &&& (255 : Int32)))])) _
      refine XS.icmpNo X8.here hx rfl (hb hby d_prog_1_method_2_code_41) rfl (feq hc41_10).1 ?_
      show Steps _ _ _ (T8.setTop (mkF m 44 #[.val (.ref qI), .val (.ref a), .val (.ref b), .val (.int (0 : Int32)), .val (.int (0 : Int32)), .val (.int (c &&& (255 : Int32))), .val (.int (d &&& (255 : Int32)))] [])) _
      refine XS.iload X8.here hx rfl (hb hby d_prog_1_method_2_code_44) rfl ?_
      show Steps _ _ _ (T8.setTop (mkF m 46 #[.val (.ref qI), .val (.ref a), .val (.ref b), .val (.int (0 : Int32)), .val (.int (0 : Int32)), .val (.int (c &&& (255 : Int32))), .val (.int (d &&& (255 : Int32)))] [(.int (c &&& (255 : Int32)))])) _
      refine XS.iload X8.here hx rfl (hb hby d_prog_1_method_2_code_46) rfl ?_
      show Steps _ _ _ (T8.setTop (mkF m 48 #[.val (.ref qI), .val (.ref a), .val (.ref b), .val (.int (0 : Int32)), .val (.int (0 : Int32)), .val (.int (c &&& (255 : Int32))), .val (.int (d &&& (255 : Int32)))] [(.int (d &&& (255 : Int32))), (.int (c &&& (255 : Int32)))])) _
      exact hq)
    obtain ⟨_, T24, L24, X24, ⟨r24, rfl, Nq24, eq24, hr24⟩, k24a⟩ := callS' X8 hx hZ (y := (⟨"java/lang/Integer", "compare", "(II)I"⟩ : MethodName)) hown (hw _ (List.mem_of_getElem? (i := 105) rfl)) (hw _ (List.mem_of_getElem? (i := 106) rfl)) (hw _ (List.mem_of_getElem? (i := 107) rfl)) (hw _ (List.mem_of_getElem? (i := 108) rfl)) (by decide) (backC (W := 0) (rm_icmp l Z a0 hw (c &&& (255 : Int32)) (d &&& (255 : Int32)) h0 n0 (by omega)) hZ (hw _ (List.mem_of_getElem? (i := 108) rfl)) (hw _ (List.mem_of_getElem? (i := 107) rfl)) (by decide) (by decide)) e8 (argsL := [(.int (c &&& (255 : Int32))), (.int (d &&& (255 : Int32)))]) (rest := []) rfl rfl pd_9 rfl (by rw [hml]; rfl) (hb hby d_prog_1_method_2_code_48) (Nat.le_of_eq rfl) (by decide) (by decide) k23
    have k24 : To p.tables e below S0 (T24.setTop (mkF m 51 #[.val (.ref qI), .val (.ref a), .val (.ref b), .val (.int (0 : Int32)), .val (.int (0 : Int32)), .val (.int (c &&& (255 : Int32))), .val (.int (d &&& (255 : Int32)))] [(.int r24)])) := k24a
    have N24 := N8.app Nq24
    have e24 : T24.heap = h0 := eq24
    have hE := e24
    refine retInt X24 hx hret hlk (by simp) rfl (hb hby d_prog_1_method_2_code_51) k24 ?_ (by decide) (by decide)
    try rw [hE]
    exact ⟨_, rfl, N24, rfl⟩
theorem d_prog_1_method_3_code_0 : decode prog_1_method_3_code 0 = .ok (.aload_n 0, 1) := by decide +kernel
theorem d_prog_1_method_3_code_1 : decode prog_1_method_3_code 1 = .ok (.ifnull 14, 3) := by decide +kernel
theorem d_prog_1_method_3_code_4 : decode prog_1_method_3_code 4 = .ok (.getstatic 28, 3) := by decide +kernel
theorem d_prog_1_method_3_code_7 : decode prog_1_method_3_code 7 = .ok (.aload_n 1, 1) := by decide +kernel
theorem d_prog_1_method_3_code_8 : decode prog_1_method_3_code 8 = .ok (.aload_n 0, 1) := by decide +kernel
theorem d_prog_1_method_3_code_9 : decode prog_1_method_3_code 9 = .ok (.invokevirtual 34, 3) := by decide +kernel
theorem d_prog_1_method_3_code_12 : decode prog_1_method_3_code 12 = .ok (.ifCond .ge 7, 3) := by decide +kernel
theorem d_prog_1_method_3_code_15 : decode prog_1_method_3_code 15 = .ok (.aload_n 1, 1) := by decide +kernel
theorem d_prog_1_method_3_code_16 : decode prog_1_method_3_code 16 = .ok (.goto 4, 3) := by decide +kernel
theorem d_prog_1_method_3_code_19 : decode prog_1_method_3_code 19 = .ok (.aload_n 0, 1) := by decide +kernel
theorem d_prog_1_method_3_code_20 : decode prog_1_method_3_code 20 = .ok (.areturn, 1) := by decide +kernel
set_option maxRecDepth 65536 in
set_option maxHeartbeats 40000000 in
theorem rm_minN (l : Launch) (Z : State) (a0 : Array Value) (hw : ∀ d ∈ tables_1, d.before a0 Z = true) (zc : Int32) (fm : Value) (qF : Addr) (qP : Addr) (qI : Addr) (b : Addr) (h0 : Heap) (n0 : Nat) (hn0 : n0 ≤ h0.size) (S_c : Sta Z Z.heap "java/lang/String" "COMPACT_STRINGS" "Z" (.int zc)) (hzc : ¬ zc = (0 : Int32)) (S_f : Sta Z Z.heap "jdk/internal/util/Preconditions" "SIOOBE_FORMATTER" "Ljava/util/function/BiFunction;" fm) (hfm : fm.isRef = true) (S_F : Sta Z Z.heap "com/example/huntaway/huntaway/Effect" "FORBID" "Lcom/example/huntaway/huntaway/Effect;" (.ref qF)) (S_P : Sta Z Z.heap "com/example/huntaway/huntaway/Effect" "PERMIT" "Lcom/example/huntaway/huntaway/Effect;" (.ref qP)) (S_I : Sta Z Z.heap "com/example/huntaway/huntaway/CodePointOrder" "INSTANCE" "Lcom/example/huntaway/huntaway/CodePointOrder;" (.ref qI)) (A_I : Exa Z Z.heap qI "com/example/huntaway/huntaway/CodePointOrder") (O0 : Old Z n0 h0) :
    Con l Z (⟨"com/example/huntaway/huntaway/CodePointOrder", "min", "(Ljava/lang/String;Ljava/lang/String;)Ljava/lang/String;"⟩ : MethodName) prog_1_method_3_code 2 (some (.object "java/lang/String")) [] ({ frames := 0, cells := 0, slots := 0, locals := 0 } : Room) #[.null, (.ref b)] h0 (fun v h L => v = some (.ref b) ∧ Fr n0 L ∧ h = h0) := by
  refine enter (Ls := #[.val .null, .val (.ref b)]) (plainFor_of_name pn_5) (fun m => by exact entry_eq rfl) ?_
  intro p e s m below meth cd_ s₁ S0 hx hby hml hret hlk hnm hown hZ X0 e0 k0
  have N0 := Fr.nil n0
  have k1 : To p.tables e below S0 (s₁.setTop (mkF m 20 #[.val .null, .val (.ref b)] [(.ref b)])) := fun tt hq => k0 tt (by
    show Steps _ _ _ (s₁.setTop (mkF m 0 #[.val .null, .val (.ref b)] [])) _
    refine XS.aloadN X0.here hx rfl (hb hby d_prog_1_method_3_code_0) rfl rfl ?_
    show Steps _ _ _ (s₁.setTop (mkF m 1 #[.val .null, .val (.ref b)] [.null])) _
    refine XS.ifnullYes X0.here hx rfl (pc0 := 1) (pc' := 15) rfl (hb hby d_prog_1_method_3_code_1) rfl (by decide) (by decide) ?_
    show Steps _ _ _ (s₁.setTop (mkF m 15 #[.val .null, .val (.ref b)] [])) _
    refine XS.aloadN X0.here hx rfl (hb hby d_prog_1_method_3_code_15) rfl rfl ?_
    show Steps _ _ _ (s₁.setTop (mkF m 16 #[.val .null, .val (.ref b)] [(.ref b)])) _
    refine XS.goto X0.here hx rfl (pc0 := 16) (pc' := 20) rfl (hb hby d_prog_1_method_3_code_16) (by decide) (by decide) ?_
    show Steps _ _ _ (s₁.setTop (mkF m 20 #[.val .null, .val (.ref b)] [(.ref b)])) _
    exact hq)
  have hE := e0
  refine retRef X0 hx hret hlk rfl rfl (hb hby d_prog_1_method_3_code_20) k1 ?_ (by decide) (by decide)
  try rw [hE]
  exact ⟨rfl, N0, rfl⟩
theorem pd_10 : parseMethodDescriptor "(Ljava/lang/String;Ljava/lang/String;)I" = some ⟨[(.object "java/lang/String"), (.object "java/lang/String")], some .int⟩ := by decide +kernel
set_option maxRecDepth 65536 in
set_option maxHeartbeats 40000000 in
theorem rm_minR (l : Launch) (Z : State) (a0 : Array Value) (hw : ∀ d ∈ tables_1, d.before a0 Z = true) (zc : Int32) (fm : Value) (qF : Addr) (qP : Addr) (qI : Addr) (a : Addr) (ta : Addr) (ka : ClassId) (c : Int32) (b : Addr) (tb : Addr) (kb : ClassId) (d : Int32) (h0 : Heap) (n0 : Nat) (hn0 : n0 ≤ h0.size) (S_c : Sta Z Z.heap "java/lang/String" "COMPACT_STRINGS" "Z" (.int zc)) (hzc : ¬ zc = (0 : Int32)) (S_f : Sta Z Z.heap "jdk/internal/util/Preconditions" "SIOOBE_FORMATTER" "Ljava/util/function/BiFunction;" fm) (hfm : fm.isRef = true) (S_F : Sta Z Z.heap "com/example/huntaway/huntaway/Effect" "FORBID" "Lcom/example/huntaway/huntaway/Effect;" (.ref qF)) (S_P : Sta Z Z.heap "com/example/huntaway/huntaway/Effect" "PERMIT" "Lcom/example/huntaway/huntaway/Effect;" (.ref qP)) (S_I : Sta Z Z.heap "com/example/huntaway/huntaway/CodePointOrder" "INSTANCE" "Lcom/example/huntaway/huntaway/CodePointOrder;" (.ref qI)) (A_I : Exa Z Z.heap qI "com/example/huntaway/huntaway/CodePointOrder") (O0 : Old Z n0 h0) (P0 : Exa Z h0 a "java/lang/String") (P1 : Fld Z h0 a "java/lang/String" "value" "[B" (.ref ta)) (P2 : Fld Z h0 a "java/lang/String" "coder" "B" (.int (0 : Int32))) (P3 : Arv Z h0 ta ka .byte (1 : Int32) [(.int c)] (.int 0)) (R0 : Exa Z h0 b "java/lang/String") (R1 : Fld Z h0 b "java/lang/String" "value" "[B" (.ref tb)) (R2 : Fld Z h0 b "java/lang/String" "coder" "B" (.int (0 : Int32))) (R3 : Arv Z h0 tb kb .byte (1 : Int32) [(.int d)] (.int 0)) :
    Con l Z (⟨"com/example/huntaway/huntaway/CodePointOrder", "min", "(Ljava/lang/String;Ljava/lang/String;)Ljava/lang/String;"⟩ : MethodName) prog_1_method_3_code 2 (some (.object "java/lang/String")) [] ({ frames := 4, cells := 0, slots := 0, locals := 59 } : Room) #[(.ref a), (.ref b)] h0 (fun v h L => ∃ x : Addr, v = some (.ref x) ∧ Fr n0 L ∧ h = h0 ∧ (x = a ∨ x = b)) := by
  refine enter (Ls := #[.val (.ref a), .val (.ref b)]) (plainFor_of_name pn_5) (fun m => by exact entry_eq rfl) ?_
  intro p e s m below meth cd_ s₁ S0 hx hby hml hret hlk hnm hown hZ X0 e0 k0
  have N0 := Fr.nil n0
  have k1 : To p.tables e below S0 (s₁.setTop (mkF m 4 #[.val (.ref a), .val (.ref b)] [])) := fun tt hq => k0 tt (by
    show Steps _ _ _ (s₁.setTop (mkF m 0 #[.val (.ref a), .val (.ref b)] [])) _
    refine XS.aloadN X0.here hx rfl (hb hby d_prog_1_method_3_code_0) rfl rfl ?_
    show Steps _ _ _ (s₁.setTop (mkF m 1 #[.val (.ref a), .val (.ref b)] [(.ref a)])) _
    refine XS.ifnullNo X0.here hx rfl (hb hby d_prog_1_method_3_code_1) rfl ?_
    show Steps _ _ _ (s₁.setTop (mkF m 4 #[.val (.ref a), .val (.ref b)] [])) _
    exact hq)
  obtain ⟨T2, X2, e2, st2⟩ := getS2 X0 hx hZ hown (host := "") (Or.inl (hw _ (List.mem_of_getElem? (i := 65) rfl))) Via.refl e0 (staOld S_I O0) (g := (mkF m 4 #[.val (.ref a), .val (.ref b)] [])) rfl (hb hby d_prog_1_method_3_code_4)
  have k2 : To p.tables e below S0 (T2.setTop (mkF m 7 #[.val (.ref a), .val (.ref b)] [(.ref qI)])) := fun tt hq => k1 tt (st2 tt hq)
  have k3 : To p.tables e below S0 (T2.setTop (mkF m 9 #[.val (.ref a), .val (.ref b)] [(.ref a), (.ref b), (.ref qI)])) := fun tt hq => k2 tt (by
    show Steps _ _ _ (T2.setTop (mkF m 7 #[.val (.ref a), .val (.ref b)] [(.ref qI)])) _
    refine XS.aloadN X2.here hx rfl (hb hby d_prog_1_method_3_code_7) rfl rfl ?_
    show Steps _ _ _ (T2.setTop (mkF m 8 #[.val (.ref a), .val (.ref b)] [(.ref b), (.ref qI)])) _
    refine XS.aloadN X2.here hx rfl (hb hby d_prog_1_method_3_code_8) rfl rfl ?_
    show Steps _ _ _ (T2.setTop (mkF m 9 #[.val (.ref a), .val (.ref b)] [(.ref a), (.ref b), (.ref qI)])) _
    exact hq)
  obtain ⟨_, T4, L4, X4, ⟨r4, rfl, Nq4, eq4⟩, k4a⟩ := callV' X2 hx hZ (y := (⟨"com/example/huntaway/huntaway/CodePointOrder", "compare", "(Ljava/lang/String;Ljava/lang/String;)I"⟩ : MethodName)) (z := (⟨"com/example/huntaway/huntaway/CodePointOrder", "compare", "(Ljava/lang/String;Ljava/lang/String;)I"⟩ : MethodName)) hown (hw _ (List.mem_of_getElem? (i := 67) rfl)) (hw _ (List.mem_of_getElem? (i := 68) rfl)) (notFace_of_selects (args := #[]) (mvT hZ (hw _ (List.mem_of_getElem? (i := 70) rfl)))) (hw _ (List.mem_of_getElem? (i := 70) rfl)) (hw _ (List.mem_of_getElem? (i := 69) rfl)) (by decide) (exaOld A_I O0) (backC (W := 0) (rm_cmp l Z a0 hw zc fm qF qP qI b tb kb d a ta ka c h0 n0 (by omega) S_c hzc S_f hfm S_F S_P S_I A_I O0 R0 R1 R2 R3 P0 P1 P2 P3) hZ (hw _ (List.mem_of_getElem? (i := 71) rfl)) (hw _ (List.mem_of_getElem? (i := 57) rfl)) (by decide) (by decide)) e2 (argsL := [(.ref b), (.ref a)]) (rest := []) rfl rfl pd_10 rfl (by rw [hml]; rfl) (hb hby d_prog_1_method_3_code_9) (Nat.le_of_eq rfl) (by decide) (by decide) k3
  have k4 : To p.tables e below S0 (T4.setTop (mkF m 12 #[.val (.ref a), .val (.ref b)] [(.int r4)])) := k4a
  have N4 := N0.app Nq4
  have e4 : T4.heap = h0 := eq4
  by_cases hc12_5 : r4 < (0 : Int32)
  · -- pc 12, holds
    have k6 : To p.tables e below S0 (T4.setTop (mkF m 20 #[.val (.ref a), .val (.ref b)] [(.ref b)])) := fun tt hq => k4 tt (by
      show Steps _ _ _ (T4.setTop (mkF m 12 #[.val (.ref a), .val (.ref b)] [(.int r4)])) _
      refine XS.ifNo X4.here hx rfl (hb hby d_prog_1_method_3_code_12) rfl ((if0 _ _).trans (tlt hc12_5).2.1) ?_
      show Steps _ _ _ (T4.setTop (mkF m 15 #[.val (.ref a), .val (.ref b)] [])) _
      refine XS.aloadN X4.here hx rfl (hb hby d_prog_1_method_3_code_15) rfl rfl ?_
      show Steps _ _ _ (T4.setTop (mkF m 16 #[.val (.ref a), .val (.ref b)] [(.ref b)])) _
      refine XS.goto X4.here hx rfl (pc0 := 16) (pc' := 20) rfl (hb hby d_prog_1_method_3_code_16) (by decide) (by decide) ?_
      show Steps _ _ _ (T4.setTop (mkF m 20 #[.val (.ref a), .val (.ref b)] [(.ref b)])) _
      exact hq)
    have hE := e4
    refine retRef X4 hx hret hlk rfl rfl (hb hby d_prog_1_method_3_code_20) k6 ?_ (by decide) (by decide)
    try rw [hE]
    exact ⟨_, rfl, N4, rfl, by simp⟩
  · -- pc 12, holds not
    have k7 : To p.tables e below S0 (T4.setTop (mkF m 20 #[.val (.ref a), .val (.ref b)] [(.ref a)])) := fun tt hq => k4 tt (by
      show Steps _ _ _ (T4.setTop (mkF m 12 #[.val (.ref a), .val (.ref b)] [(.int r4)])) _
      refine XS.ifYes X4.here hx rfl (pc0 := 12) (pc' := 19) rfl (hb hby d_prog_1_method_3_code_12) rfl ((if0 _ _).trans (flt hc12_5).2.1) (by decide) (by decide) ?_
      show Steps _ _ _ (T4.setTop (mkF m 19 #[.val (.ref a), .val (.ref b)] [])) _
      refine XS.aloadN X4.here hx rfl (hb hby d_prog_1_method_3_code_19) rfl rfl ?_
      show Steps _ _ _ (T4.setTop (mkF m 20 #[.val (.ref a), .val (.ref b)] [(.ref a)])) _
      exact hq)
    have hE := e4
    refine retRef X4 hx hret hlk rfl rfl (hb hby d_prog_1_method_3_code_20) k7 ?_ (by decide) (by decide)
    try rw [hE]
    exact ⟨_, rfl, N4, rfl, by simp⟩
theorem d_prog_9_method_1_code_0 : decode prog_9_method_1_code 0 = .ok (.aload_n 0, 1) := by decide +kernel
theorem d_prog_9_method_1_code_1 : decode prog_9_method_1_code 1 = .ok (.invokespecial 1, 3) := by decide +kernel
theorem d_prog_9_method_1_code_4 : decode prog_9_method_1_code 4 = .ok (.aload_n 0, 1) := by decide +kernel
theorem d_prog_9_method_1_code_5 : decode prog_9_method_1_code 5 = .ok (.ldc2_w 9, 3) := by decide +kernel
theorem d_prog_9_method_1_code_8 : decode prog_9_method_1_code 8 = .ok (.putfield 11, 3) := by decide +kernel
theorem d_prog_9_method_1_code_11 : decode prog_9_method_1_code 11 = .ok (.return_, 1) := by decide +kernel
theorem pn_6 : plainName "com/example/huntaway/huntaway/Precedence" = true := by first | (simp [plainName, overriddenIn]; done) | decide +kernel
set_option maxRecDepth 65536 in
set_option maxHeartbeats 40000000 in
theorem rm_pinit (l : Launch) (Z : State) (a0 : Array Value) (hw : ∀ d ∈ tables_1, d.before a0 Z = true) (a : Addr) (h0 : Heap) (n0 : Nat) (hn0 : n0 ≤ h0.size) (P0 : Exa Z h0 a "com/example/huntaway/huntaway/Precedence") (P1 : Fld Z h0 a "com/example/huntaway/huntaway/Precedence" "highest" "J" (.long (0 : Int64))) (P2 : Fld Z h0 a "com/example/huntaway/huntaway/Precedence" "permitting" "Ljava/lang/String;" .null) (P3 : Fld Z h0 a "com/example/huntaway/huntaway/Precedence" "forbidding" "Ljava/lang/String;" .null) (ga : n0 ≤ a) :
    Con l Z (⟨"com/example/huntaway/huntaway/Precedence", "<init>", "()V"⟩ : MethodName) prog_9_method_1_code 1 none [] ({ frames := 1, cells := 0, slots := 0, locals := 12 } : Room) #[(.ref a)] h0 (fun v h L => v = none ∧ Fr n0 L ∧ Keep h0 h [a] ∧ Exa Z h a "com/example/huntaway/huntaway/Precedence" ∧ Fld Z h a "com/example/huntaway/huntaway/Precedence" "highest" "J" (.long (-9223372036854775808 : Int64)) ∧ Fld Z h a "com/example/huntaway/huntaway/Precedence" "permitting" "Ljava/lang/String;" .null ∧ Fld Z h a "com/example/huntaway/huntaway/Precedence" "forbidding" "Ljava/lang/String;" .null) := by
  refine enter (Ls := #[.val (.ref a)]) (plainFor_of_name pn_6) (fun m => by exact entry_eq rfl) ?_
  intro p e s m below meth cd_ s₁ S0 hx hby hml hret hlk hnm hown hZ X0 e0 k0
  have N0 := Fr.nil n0
  have k1 : To p.tables e below S0 (s₁.setTop (mkF m 1 #[.val (.ref a)] [(.ref a)])) := fun tt hq => k0 tt (by
    show Steps _ _ _ (s₁.setTop (mkF m 0 #[.val (.ref a)] [])) _
    refine XS.aloadN X0.here hx rfl (hb hby d_prog_9_method_1_code_0) rfl rfl ?_
    show Steps _ _ _ (s₁.setTop (mkF m 1 #[.val (.ref a)] [(.ref a)])) _
    exact hq)
  obtain ⟨T2, X2, e2, st2⟩ := initO X0 hx hZ hown (hw _ (List.mem_of_getElem? (i := 35) rfl)) (hw _ (List.mem_of_getElem? (i := 23) rfl)) (hw _ (List.mem_of_getElem? (i := 24) rfl)) e0 (g := (mkF m 1 #[.val (.ref a)] [(.ref a)])) rfl (by rw [hml]; rfl) rfl (hb hby d_prog_9_method_1_code_1) (by decide) (W := 0) (by show 2 * 0 + _ ≤ _; exact Nat.le_of_eq rfl) (by decide)
  have k2 : To p.tables e below S0 (T2.setTop (mkF m 4 #[.val (.ref a)] [])) := fun tt hq => k1 tt (st2 tt hq)
  have k3 : To p.tables e below S0 (T2.setTop (mkF m 8 #[.val (.ref a)] [(.long (-9223372036854775808 : Int64)), (.ref a)])) := fun tt hq => k2 tt (by
    show Steps _ _ _ (T2.setTop (mkF m 4 #[.val (.ref a)] [])) _
    refine XS.aloadN X2.here hx rfl (hb hby d_prog_9_method_1_code_4) rfl rfl ?_
    show Steps _ _ _ (T2.setTop (mkF m 5 #[.val (.ref a)] [(.ref a)])) _
    refine X2.ldc2Long hx hown (mvT hZ (hw _ (List.mem_of_getElem? (i := 36) rfl))) (g := (mkF m 5 #[.val (.ref a)] [(.ref a)])) rfl (hb hby d_prog_9_method_1_code_5) _ ?_
    show Steps _ _ _ (T2.setTop (mkF m 8 #[.val (.ref a)] [(.long (-9223372036854775808 : Int64)), (.ref a)])) _
    exact hq)
  obtain ⟨T4, h4, X4, e4, W4, st4⟩ := putF X2 hx hZ hown (host := "") (Or.inl (hw _ (List.mem_of_getElem? (i := 37) rfl))) Via.refl e2 P1 P0 (Or.inl (hw _ (List.mem_of_getElem? (i := 38) rfl))) (hw _ (List.mem_of_getElem? (i := 30) rfl)) (ty := .long) (by decide) rfl rfl (g := (mkF m 8 #[.val (.ref a)] [(.long (-9223372036854775808 : Int64)), (.ref a)])) rfl rfl (hb hby d_prog_9_method_1_code_8)
  have k4 : To p.tables e below S0 (T4.setTop (mkF m 11 #[.val (.ref a)] [])) := fun tt hq => k3 tt (st4 tt hq)
  have z4 : h4.size = h0.size := W4.size
  have F4 := P1.same W4
  have N4 := Fr.snoc X4 N0 (by omega : n0 ≤ a)
  have f5 : Exa Z h4 a "com/example/huntaway/huntaway/Precedence" := (P0.wr W4)
  have f6 : Fld Z h4 a "com/example/huntaway/huntaway/Precedence" "permitting" "Ljava/lang/String;" .null := (P2.other W4 (Or.inr (slot_ne (Or.inl (hw _ (List.mem_of_getElem? (i := 50) rfl))) (Or.inl (hw _ (List.mem_of_getElem? (i := 38) rfl))) (by decide) (t := (.object "java/lang/String")) (t' := .long) (by decide) (by decide))))
  have f7 : Fld Z h4 a "com/example/huntaway/huntaway/Precedence" "forbidding" "Ljava/lang/String;" .null := (P3.other W4 (Or.inr (slot_ne (Or.inl (hw _ (List.mem_of_getElem? (i := 52) rfl))) (Or.inl (hw _ (List.mem_of_getElem? (i := 38) rfl))) (by decide) (t := (.object "java/lang/String")) (t' := .long) (by decide) (by decide))))
  have hE := e4
  refine retVoid X4 hx hret hlk (hb hby d_prog_9_method_1_code_11) k4 ?_ (by decide) (by decide)
  try rw [hE]
  exact ⟨rfl, N4, ((Keep.refl h0 [a]).wr W4 (Or.inl (by simp))), f5, F4, f6, f7⟩
theorem own_hi1 {p hi : Int64} (h : lcmpW p hi < 0) : hi = (if p < hi then hi else p) := by
  rw [lcW, lc_lt] at h; rw [if_pos h]
theorem own_hi2 {p hi : Int64} (h : ¬ lcmpW p hi < 0) (g : 0 < lcmpW p hi) : p = (if p < hi then hi else p) := by
  rw [lcW, lc_lt] at h; rw [if_neg h]
theorem own_hi2' {p hi : Int64} (h : ¬ lcmpW p hi < 0) (g : ¬ 0 < lcmpW p hi) : hi = (if p < hi then hi else p) := by
  rw [lcW, lc_lt] at h; rw [lcW, lc_gt] at g; rw [if_neg h]
  apply Int64.toInt_inj.mp; rw [Int64.lt_iff_toInt_lt] at h g; omega
theorem own_eqmin {p : Int64} (h : ¬ lcmpW p (-9223372036854775808 : Int64) < 0) (g : ¬ 0 < lcmpW p (-9223372036854775808 : Int64)) : p = (-9223372036854775808 : Int64) := by
  rw [lcW, lc_lt] at h; rw [lcW, lc_gt] at g
  apply Int64.toInt_inj.mp; rw [Int64.lt_iff_toInt_lt] at h g; omega
theorem own_min64 (p : Int64) : ¬ p < (-9223372036854775808 : Int64) := by
  rw [Int64.lt_iff_toInt_lt]; have := Int64.le_toInt p; have e : (-9223372036854775808 : Int64).toInt = -9223372036854775808 := by decide
  omega
theorem d_prog_9_method_3_code_0 : decode prog_9_method_3_code 0 = .ok (.lload_n 2, 1) := by decide +kernel
theorem d_prog_9_method_3_code_1 : decode prog_9_method_3_code 1 = .ok (.aload_n 0, 1) := by decide +kernel
theorem d_prog_9_method_3_code_2 : decode prog_9_method_3_code 2 = .ok (.getfield 11, 3) := by decide +kernel
theorem d_prog_9_method_3_code_5 : decode prog_9_method_3_code 5 = .ok (.lcmp, 1) := by decide +kernel
theorem d_prog_9_method_3_code_6 : decode prog_9_method_3_code 6 = .ok (.ifCond .ge 4, 3) := by decide +kernel
theorem d_prog_9_method_3_code_9 : decode prog_9_method_3_code 9 = .ok (.return_, 1) := by decide +kernel
theorem d_prog_9_method_3_code_10 : decode prog_9_method_3_code 10 = .ok (.lload_n 2, 1) := by decide +kernel
theorem d_prog_9_method_3_code_11 : decode prog_9_method_3_code 11 = .ok (.aload_n 0, 1) := by decide +kernel
theorem d_prog_9_method_3_code_12 : decode prog_9_method_3_code 12 = .ok (.getfield 11, 3) := by decide +kernel
theorem d_prog_9_method_3_code_15 : decode prog_9_method_3_code 15 = .ok (.lcmp, 1) := by decide +kernel
theorem d_prog_9_method_3_code_16 : decode prog_9_method_3_code 16 = .ok (.ifCond .le 18, 3) := by decide +kernel
theorem d_prog_9_method_3_code_19 : decode prog_9_method_3_code 19 = .ok (.aload_n 0, 1) := by decide +kernel
theorem d_prog_9_method_3_code_20 : decode prog_9_method_3_code 20 = .ok (.lload_n 2, 1) := by decide +kernel
theorem d_prog_9_method_3_code_21 : decode prog_9_method_3_code 21 = .ok (.putfield 11, 3) := by decide +kernel
theorem d_prog_9_method_3_code_24 : decode prog_9_method_3_code 24 = .ok (.aload_n 0, 1) := by decide +kernel
theorem d_prog_9_method_3_code_25 : decode prog_9_method_3_code 25 = .ok (.aconst_null, 1) := by decide +kernel
theorem d_prog_9_method_3_code_26 : decode prog_9_method_3_code 26 = .ok (.putfield 17, 3) := by decide +kernel
theorem d_prog_9_method_3_code_29 : decode prog_9_method_3_code 29 = .ok (.aload_n 0, 1) := by decide +kernel
theorem d_prog_9_method_3_code_30 : decode prog_9_method_3_code 30 = .ok (.aconst_null, 1) := by decide +kernel
theorem d_prog_9_method_3_code_31 : decode prog_9_method_3_code 31 = .ok (.putfield 21, 3) := by decide +kernel
theorem d_prog_9_method_3_code_34 : decode prog_9_method_3_code 34 = .ok (.aload_n 1, 1) := by decide +kernel
theorem d_prog_9_method_3_code_35 : decode prog_9_method_3_code 35 = .ok (.getstatic 24, 3) := by decide +kernel
theorem d_prog_9_method_3_code_38 : decode prog_9_method_3_code 38 = .ok (.if_acmp .ne 19, 3) := by decide +kernel
theorem d_prog_9_method_3_code_41 : decode prog_9_method_3_code 41 = .ok (.aload_n 0, 1) := by decide +kernel
theorem d_prog_9_method_3_code_42 : decode prog_9_method_3_code 42 = .ok (.aload_n 0, 1) := by decide +kernel
theorem d_prog_9_method_3_code_43 : decode prog_9_method_3_code 43 = .ok (.getfield 21, 3) := by decide +kernel
theorem d_prog_9_method_3_code_46 : decode prog_9_method_3_code 46 = .ok (.aload 4, 2) := by decide +kernel
theorem d_prog_9_method_3_code_48 : decode prog_9_method_3_code 48 = .ok (.invokestatic 30, 3) := by decide +kernel
theorem d_prog_9_method_3_code_51 : decode prog_9_method_3_code 51 = .ok (.putfield 21, 3) := by decide +kernel
theorem d_prog_9_method_3_code_54 : decode prog_9_method_3_code 54 = .ok (.goto 16, 3) := by decide +kernel
theorem d_prog_9_method_3_code_57 : decode prog_9_method_3_code 57 = .ok (.aload_n 0, 1) := by decide +kernel
theorem d_prog_9_method_3_code_58 : decode prog_9_method_3_code 58 = .ok (.aload_n 0, 1) := by decide +kernel
theorem d_prog_9_method_3_code_59 : decode prog_9_method_3_code 59 = .ok (.getfield 17, 3) := by decide +kernel
theorem d_prog_9_method_3_code_62 : decode prog_9_method_3_code 62 = .ok (.aload 4, 2) := by decide +kernel
theorem d_prog_9_method_3_code_64 : decode prog_9_method_3_code 64 = .ok (.invokestatic 30, 3) := by decide +kernel
theorem d_prog_9_method_3_code_67 : decode prog_9_method_3_code 67 = .ok (.putfield 17, 3) := by decide +kernel
theorem d_prog_9_method_3_code_70 : decode prog_9_method_3_code 70 = .ok (.return_, 1) := by decide +kernel
theorem pd_11 : parseMethodDescriptor "(Ljava/lang/String;Ljava/lang/String;)Ljava/lang/String;" = some ⟨[(.object "java/lang/String"), (.object "java/lang/String")], some (.object "java/lang/String")⟩ := by decide +kernel
set_option maxRecDepth 65536 in
set_option maxHeartbeats 40000000 in
theorem rm_offNN (l : Launch) (Z : State) (a0 : Array Value) (hw : ∀ d ∈ tables_1, d.before a0 Z = true) (zc : Int32) (fm : Value) (qF : Addr) (qP : Addr) (qI : Addr) (a : Addr) (ef : Addr) (pr : Int64) (nm : Addr) (tn : Addr) (kn : ClassId) (cn : Int32) (h0 : Heap) (n0 : Nat) (hn0 : n0 ≤ h0.size) (S_c : Sta Z Z.heap "java/lang/String" "COMPACT_STRINGS" "Z" (.int zc)) (hzc : ¬ zc = (0 : Int32)) (S_f : Sta Z Z.heap "jdk/internal/util/Preconditions" "SIOOBE_FORMATTER" "Ljava/util/function/BiFunction;" fm) (hfm : fm.isRef = true) (S_F : Sta Z Z.heap "com/example/huntaway/huntaway/Effect" "FORBID" "Lcom/example/huntaway/huntaway/Effect;" (.ref qF)) (S_P : Sta Z Z.heap "com/example/huntaway/huntaway/Effect" "PERMIT" "Lcom/example/huntaway/huntaway/Effect;" (.ref qP)) (S_I : Sta Z Z.heap "com/example/huntaway/huntaway/CodePointOrder" "INSTANCE" "Lcom/example/huntaway/huntaway/CodePointOrder;" (.ref qI)) (A_I : Exa Z Z.heap qI "com/example/huntaway/huntaway/CodePointOrder") (O0 : Old Z n0 h0) (P0 : Exa Z h0 a "com/example/huntaway/huntaway/Precedence") (P1 : Fld Z h0 a "com/example/huntaway/huntaway/Precedence" "highest" "J" (.long (-9223372036854775808 : Int64))) (P2 : Fld Z h0 a "com/example/huntaway/huntaway/Precedence" "permitting" "Ljava/lang/String;" .null) (P3 : Fld Z h0 a "com/example/huntaway/huntaway/Precedence" "forbidding" "Ljava/lang/String;" .null) (gn_0 : Exa Z h0 nm "java/lang/String") (gn_1 : Fld Z h0 nm "java/lang/String" "value" "[B" (.ref tn)) (gn_2 : Fld Z h0 nm "java/lang/String" "coder" "B" (.int (0 : Int32))) (gn_3 : Arv Z h0 tn kn .byte (1 : Int32) [(.int cn)] (.int 0)) (nd1 : ¬ (@Eq Nat nm a)) (nd3 : ¬ (@Eq Nat tn a)) (ga : n0 ≤ a) :
    Con l Z (⟨"com/example/huntaway/huntaway/Precedence", "offer", "(Lcom/example/huntaway/huntaway/Effect;JLjava/lang/String;)V"⟩ : MethodName) prog_9_method_3_code 5 none [] ({ frames := 1, cells := 0, slots := 0, locals := 14 } : Room) #[(.ref a), (.ref ef), (.long pr), (.ref nm)] h0 (fun v h L => v = none ∧ Fr n0 L ∧ Keep h0 h [a] ∧ Exa Z h a "com/example/huntaway/huntaway/Precedence" ∧ ∃ u1 u2 : Value, Fld Z h a "com/example/huntaway/huntaway/Precedence" "highest" "J" (.long pr) ∧ Fld Z h a "com/example/huntaway/huntaway/Precedence" "permitting" "Ljava/lang/String;" u1 ∧ Fld Z h a "com/example/huntaway/huntaway/Precedence" "forbidding" "Ljava/lang/String;" u2 ∧ u1.isRef = true ∧ u2.isRef = true ∧ ¬ (u1 = .null ∧ u2 = .null) ∧ ((ef = qF ∧ u1 = .null ∧ u2 = .ref nm) ∨ (¬ ef = qF ∧ u1 = .ref nm ∧ u2 = .null))) := by
  refine enter (Ls := #[.val (.ref a), .val (.ref ef), .val (.long pr), .second, .val (.ref nm)]) (plainFor_of_name pn_6) (fun m => by exact entry_eq rfl) ?_
  intro p e s m below meth cd_ s₁ S0 hx hby hml hret hlk hnm hown hZ X0 e0 k0
  have N0 := Fr.nil n0
  have k1 : To p.tables e below S0 (s₁.setTop (mkF m 2 #[.val (.ref a), .val (.ref ef), .val (.long pr), .second, .val (.ref nm)] [(.ref a), (.long pr)])) := fun tt hq => k0 tt (by
    show Steps _ _ _ (s₁.setTop (mkF m 0 #[.val (.ref a), .val (.ref ef), .val (.long pr), .second, .val (.ref nm)] [])) _
    refine XS.lloadN X0.here hx rfl (hb hby d_prog_9_method_3_code_0) rfl ?_
    show Steps _ _ _ (s₁.setTop (mkF m 1 #[.val (.ref a), .val (.ref ef), .val (.long pr), .second, .val (.ref nm)] [(.long pr)])) _
    refine XS.aloadN X0.here hx rfl (hb hby d_prog_9_method_3_code_1) rfl rfl ?_
    show Steps _ _ _ (s₁.setTop (mkF m 2 #[.val (.ref a), .val (.ref ef), .val (.long pr), .second, .val (.ref nm)] [(.ref a), (.long pr)])) _
    exact hq)
  obtain ⟨T2, X2, e2, st2⟩ := getF X0 hx hZ hown (host := "") (Or.inl (hw _ (List.mem_of_getElem? (i := 37) rfl))) Via.refl e0 P1 (g := (mkF m 2 #[.val (.ref a), .val (.ref ef), .val (.long pr), .second, .val (.ref nm)] [(.ref a), (.long pr)])) rfl rfl (hb hby d_prog_9_method_3_code_2)
  have k2 : To p.tables e below S0 (T2.setTop (mkF m 5 #[.val (.ref a), .val (.ref ef), .val (.long pr), .second, .val (.ref nm)] [(.long (-9223372036854775808 : Int64)), (.long pr)])) := fun tt hq => k1 tt (st2 tt hq)
  have k3 : To p.tables e below S0 (T2.setTop (mkF m 6 #[.val (.ref a), .val (.ref ef), .val (.long pr), .second, .val (.ref nm)] [(.int (lcmpW pr (-9223372036854775808 : Int64)))])) := fun tt hq => k2 tt (by
    show Steps _ _ _ (T2.setTop (mkF m 5 #[.val (.ref a), .val (.ref ef), .val (.long pr), .second, .val (.ref nm)] [(.long (-9223372036854775808 : Int64)), (.long pr)])) _
    refine XS.lcmp X2.here hx rfl (hb hby d_prog_9_method_3_code_5) rfl ?_
    show Steps _ _ _ (T2.setTop (mkF m 6 #[.val (.ref a), .val (.ref ef), .val (.long pr), .second, .val (.ref nm)] [(.int (lcmpW pr (-9223372036854775808 : Int64)))])) _
    exact hq)
  by_cases hc6_4 : (lcmpW pr (-9223372036854775808 : Int64)) < (0 : Int32)
  · -- pc 6, holds
    exact absurd ((lc_lt _ _).mp ((lcW _ _) ▸ hc6_4)) (own_min64 _)
  · -- pc 6, holds not
    have k5 : To p.tables e below S0 (T2.setTop (mkF m 12 #[.val (.ref a), .val (.ref ef), .val (.long pr), .second, .val (.ref nm)] [(.ref a), (.long pr)])) := fun tt hq => k3 tt (by
      show Steps _ _ _ (T2.setTop (mkF m 6 #[.val (.ref a), .val (.ref ef), .val (.long pr), .second, .val (.ref nm)] [(.int (lcmpW pr (-9223372036854775808 : Int64)))])) _
      refine XS.ifYes X2.here hx rfl (pc0 := 6) (pc' := 10) rfl (hb hby d_prog_9_method_3_code_6) rfl ((if0 _ _).trans (flt hc6_4).2.1) (by decide) (by decide) ?_
      show Steps _ _ _ (T2.setTop (mkF m 10 #[.val (.ref a), .val (.ref ef), .val (.long pr), .second, .val (.ref nm)] [])) _
      refine XS.lloadN X2.here hx rfl (hb hby d_prog_9_method_3_code_10) rfl ?_
      show Steps _ _ _ (T2.setTop (mkF m 11 #[.val (.ref a), .val (.ref ef), .val (.long pr), .second, .val (.ref nm)] [(.long pr)])) _
      refine XS.aloadN X2.here hx rfl (hb hby d_prog_9_method_3_code_11) rfl rfl ?_
      show Steps _ _ _ (T2.setTop (mkF m 12 #[.val (.ref a), .val (.ref ef), .val (.long pr), .second, .val (.ref nm)] [(.ref a), (.long pr)])) _
      exact hq)
    obtain ⟨T6, X6, e6, st6⟩ := getF X2 hx hZ hown (host := "") (Or.inl (hw _ (List.mem_of_getElem? (i := 37) rfl))) Via.refl e2 P1 (g := (mkF m 12 #[.val (.ref a), .val (.ref ef), .val (.long pr), .second, .val (.ref nm)] [(.ref a), (.long pr)])) rfl rfl (hb hby d_prog_9_method_3_code_12)
    have k6 : To p.tables e below S0 (T6.setTop (mkF m 15 #[.val (.ref a), .val (.ref ef), .val (.long pr), .second, .val (.ref nm)] [(.long (-9223372036854775808 : Int64)), (.long pr)])) := fun tt hq => k5 tt (st6 tt hq)
    have k7 : To p.tables e below S0 (T6.setTop (mkF m 16 #[.val (.ref a), .val (.ref ef), .val (.long pr), .second, .val (.ref nm)] [(.int (lcmpW pr (-9223372036854775808 : Int64)))])) := fun tt hq => k6 tt (by
      show Steps _ _ _ (T6.setTop (mkF m 15 #[.val (.ref a), .val (.ref ef), .val (.long pr), .second, .val (.ref nm)] [(.long (-9223372036854775808 : Int64)), (.long pr)])) _
      refine XS.lcmp X6.here hx rfl (hb hby d_prog_9_method_3_code_15) rfl ?_
      show Steps _ _ _ (T6.setTop (mkF m 16 #[.val (.ref a), .val (.ref ef), .val (.long pr), .second, .val (.ref nm)] [(.int (lcmpW pr (-9223372036854775808 : Int64)))])) _
      exact hq)
    by_cases hc16_8 : (0 : Int32) < (lcmpW pr (-9223372036854775808 : Int64))
    · -- pc 16, holds
      have k9 : To p.tables e below S0 (T6.setTop (mkF m 21 #[.val (.ref a), .val (.ref ef), .val (.long pr), .second, .val (.ref nm)] [(.long pr), (.ref a)])) := fun tt hq => k7 tt (by
        show Steps _ _ _ (T6.setTop (mkF m 16 #[.val (.ref a), .val (.ref ef), .val (.long pr), .second, .val (.ref nm)] [(.int (lcmpW pr (-9223372036854775808 : Int64)))])) _
        refine XS.ifNo X6.here hx rfl (hb hby d_prog_9_method_3_code_16) rfl ((if0 _ _).trans (tlt hc16_8).2.2.2) ?_
        show Steps _ _ _ (T6.setTop (mkF m 19 #[.val (.ref a), .val (.ref ef), .val (.long pr), .second, .val (.ref nm)] [])) _
        refine XS.aloadN X6.here hx rfl (hb hby d_prog_9_method_3_code_19) rfl rfl ?_
        show Steps _ _ _ (T6.setTop (mkF m 20 #[.val (.ref a), .val (.ref ef), .val (.long pr), .second, .val (.ref nm)] [(.ref a)])) _
        refine XS.lloadN X6.here hx rfl (hb hby d_prog_9_method_3_code_20) rfl ?_
        show Steps _ _ _ (T6.setTop (mkF m 21 #[.val (.ref a), .val (.ref ef), .val (.long pr), .second, .val (.ref nm)] [(.long pr), (.ref a)])) _
        exact hq)
      obtain ⟨T10, h10, X10, e10, W10, st10⟩ := putF X6 hx hZ hown (host := "") (Or.inl (hw _ (List.mem_of_getElem? (i := 37) rfl))) Via.refl e6 P1 P0 (Or.inl (hw _ (List.mem_of_getElem? (i := 38) rfl))) (hw _ (List.mem_of_getElem? (i := 30) rfl)) (ty := .long) (by decide) rfl rfl (g := (mkF m 21 #[.val (.ref a), .val (.ref ef), .val (.long pr), .second, .val (.ref nm)] [(.long pr), (.ref a)])) rfl rfl (hb hby d_prog_9_method_3_code_21)
      have k10 : To p.tables e below S0 (T10.setTop (mkF m 24 #[.val (.ref a), .val (.ref ef), .val (.long pr), .second, .val (.ref nm)] [])) := fun tt hq => k9 tt (st10 tt hq)
      have z10 : h10.size = h0.size := W10.size
      have F10 := P1.same W10
      have N10 := Fr.snoc X10 N0 (by omega : n0 ≤ a)
      have f11 : Exa Z h10 a "com/example/huntaway/huntaway/Precedence" := (P0.wr W10)
      have f12 : Fld Z h10 a "com/example/huntaway/huntaway/Precedence" "permitting" "Ljava/lang/String;" .null := (P2.other W10 (Or.inr (slot_ne (Or.inl (hw _ (List.mem_of_getElem? (i := 50) rfl))) (Or.inl (hw _ (List.mem_of_getElem? (i := 38) rfl))) (by decide) (t := (.object "java/lang/String")) (t' := .long) (by decide) (by decide))))
      have k13 : To p.tables e below S0 (T10.setTop (mkF m 26 #[.val (.ref a), .val (.ref ef), .val (.long pr), .second, .val (.ref nm)] [.null, (.ref a)])) := fun tt hq => k10 tt (by
        show Steps _ _ _ (T10.setTop (mkF m 24 #[.val (.ref a), .val (.ref ef), .val (.long pr), .second, .val (.ref nm)] [])) _
        refine XS.aloadN X10.here hx rfl (hb hby d_prog_9_method_3_code_24) rfl rfl ?_
        show Steps _ _ _ (T10.setTop (mkF m 25 #[.val (.ref a), .val (.ref ef), .val (.long pr), .second, .val (.ref nm)] [(.ref a)])) _
        refine XS.aconstNull X10.here hx rfl (hb hby d_prog_9_method_3_code_25) ?_
        show Steps _ _ _ (T10.setTop (mkF m 26 #[.val (.ref a), .val (.ref ef), .val (.long pr), .second, .val (.ref nm)] [.null, (.ref a)])) _
        exact hq)
      obtain ⟨T14, h14, X14, e14, W14, st14⟩ := putF X10 hx hZ hown (host := "") (Or.inl (hw _ (List.mem_of_getElem? (i := 49) rfl))) Via.refl e10 f12 f11 (Or.inl (hw _ (List.mem_of_getElem? (i := 50) rfl))) (hw _ (List.mem_of_getElem? (i := 30) rfl)) (ty := (.object "java/lang/String")) (by decide) rfl rfl (g := (mkF m 26 #[.val (.ref a), .val (.ref ef), .val (.long pr), .second, .val (.ref nm)] [.null, (.ref a)])) rfl rfl (hb hby d_prog_9_method_3_code_26)
      have k14 : To p.tables e below S0 (T14.setTop (mkF m 29 #[.val (.ref a), .val (.ref ef), .val (.long pr), .second, .val (.ref nm)] [])) := fun tt hq => k13 tt (st14 tt hq)
      have z14 : h14.size = h10.size := W14.size
      have F14 := f12.same W14
      have N14 := Fr.snoc X14 N10 (by omega : n0 ≤ a)
      have f15 : Exa Z h14 a "com/example/huntaway/huntaway/Precedence" := (f11.wr W14)
      have f16 : Fld Z h14 a "com/example/huntaway/huntaway/Precedence" "forbidding" "Ljava/lang/String;" .null := ((P3.other W10 (Or.inr (slot_ne (Or.inl (hw _ (List.mem_of_getElem? (i := 52) rfl))) (Or.inl (hw _ (List.mem_of_getElem? (i := 38) rfl))) (by decide) (t := (.object "java/lang/String")) (t' := .long) (by decide) (by decide)))).other W14 (Or.inr (slot_ne (Or.inl (hw _ (List.mem_of_getElem? (i := 52) rfl))) (Or.inl (hw _ (List.mem_of_getElem? (i := 50) rfl))) (by decide) (t := (.object "java/lang/String")) (t' := (.object "java/lang/String")) (by decide) (by decide))))
      have k17 : To p.tables e below S0 (T14.setTop (mkF m 31 #[.val (.ref a), .val (.ref ef), .val (.long pr), .second, .val (.ref nm)] [.null, (.ref a)])) := fun tt hq => k14 tt (by
        show Steps _ _ _ (T14.setTop (mkF m 29 #[.val (.ref a), .val (.ref ef), .val (.long pr), .second, .val (.ref nm)] [])) _
        refine XS.aloadN X14.here hx rfl (hb hby d_prog_9_method_3_code_29) rfl rfl ?_
        show Steps _ _ _ (T14.setTop (mkF m 30 #[.val (.ref a), .val (.ref ef), .val (.long pr), .second, .val (.ref nm)] [(.ref a)])) _
        refine XS.aconstNull X14.here hx rfl (hb hby d_prog_9_method_3_code_30) ?_
        show Steps _ _ _ (T14.setTop (mkF m 31 #[.val (.ref a), .val (.ref ef), .val (.long pr), .second, .val (.ref nm)] [.null, (.ref a)])) _
        exact hq)
      obtain ⟨T18, h18, X18, e18, W18, st18⟩ := putF X14 hx hZ hown (host := "") (Or.inl (hw _ (List.mem_of_getElem? (i := 51) rfl))) Via.refl e14 f16 f15 (Or.inl (hw _ (List.mem_of_getElem? (i := 52) rfl))) (hw _ (List.mem_of_getElem? (i := 30) rfl)) (ty := (.object "java/lang/String")) (by decide) rfl rfl (g := (mkF m 31 #[.val (.ref a), .val (.ref ef), .val (.long pr), .second, .val (.ref nm)] [.null, (.ref a)])) rfl rfl (hb hby d_prog_9_method_3_code_31)
      have k18 : To p.tables e below S0 (T18.setTop (mkF m 34 #[.val (.ref a), .val (.ref ef), .val (.long pr), .second, .val (.ref nm)] [])) := fun tt hq => k17 tt (st18 tt hq)
      have z18 : h18.size = h14.size := W18.size
      have F18 := f16.same W18
      have N18 := Fr.snoc X18 N14 (by omega : n0 ≤ a)
      have f19 : Old Z n0 h18 := (((O0.wr W10 (by omega)).wr W14 (by omega)).wr W18 (by omega))
      have k20 : To p.tables e below S0 (T18.setTop (mkF m 35 #[.val (.ref a), .val (.ref ef), .val (.long pr), .second, .val (.ref nm)] [(.ref ef)])) := fun tt hq => k18 tt (by
        show Steps _ _ _ (T18.setTop (mkF m 34 #[.val (.ref a), .val (.ref ef), .val (.long pr), .second, .val (.ref nm)] [])) _
        refine XS.aloadN X18.here hx rfl (hb hby d_prog_9_method_3_code_34) rfl rfl ?_
        show Steps _ _ _ (T18.setTop (mkF m 35 #[.val (.ref a), .val (.ref ef), .val (.long pr), .second, .val (.ref nm)] [(.ref ef)])) _
        exact hq)
      obtain ⟨T21, X21, e21, st21⟩ := getS2 X18 hx hZ hown (host := "") (Or.inl (hw _ (List.mem_of_getElem? (i := 53) rfl))) Via.refl e18 (staOld S_F f19) (g := (mkF m 35 #[.val (.ref a), .val (.ref ef), .val (.long pr), .second, .val (.ref nm)] [(.ref ef)])) rfl (hb hby d_prog_9_method_3_code_35)
      have k21 : To p.tables e below S0 (T21.setTop (mkF m 38 #[.val (.ref a), .val (.ref ef), .val (.long pr), .second, .val (.ref nm)] [(.ref qF), (.ref ef)])) := fun tt hq => k20 tt (st21 tt hq)
      by_cases hc38_22 : ef = qF
      · -- pc 38, holds
        have k23 : To p.tables e below S0 (T21.setTop (mkF m 43 #[.val (.ref a), .val (.ref ef), .val (.long pr), .second, .val (.ref nm)] [(.ref a), (.ref a)])) := fun tt hq => k21 tt (by
          show Steps _ _ _ (T21.setTop (mkF m 38 #[.val (.ref a), .val (.ref ef), .val (.long pr), .second, .val (.ref nm)] [(.ref qF), (.ref ef)])) _
          refine Jvm.RoadKit.acmp (g := (mkF m 38 #[.val (.ref a), .val (.ref ef), .val (.long pr), .second, .val (.ref nm)] [(.ref qF), (.ref ef)])) X21 hx rfl rfl rfl (pc0 := 38) (pc' := 41) (same := true) rfl (hb hby d_prog_9_method_3_code_38) rfl (decide_eq_true (congrArg Value.ref hc38_22)) (by decide) (by decide) ?_
          show Steps _ _ _ (T21.setTop (mkF m 41 #[.val (.ref a), .val (.ref ef), .val (.long pr), .second, .val (.ref nm)] [])) _
          refine XS.aloadN X21.here hx rfl (hb hby d_prog_9_method_3_code_41) rfl rfl ?_
          show Steps _ _ _ (T21.setTop (mkF m 42 #[.val (.ref a), .val (.ref ef), .val (.long pr), .second, .val (.ref nm)] [(.ref a)])) _
          refine XS.aloadN X21.here hx rfl (hb hby d_prog_9_method_3_code_42) rfl rfl ?_
          show Steps _ _ _ (T21.setTop (mkF m 43 #[.val (.ref a), .val (.ref ef), .val (.long pr), .second, .val (.ref nm)] [(.ref a), (.ref a)])) _
          exact hq)
        obtain ⟨T24, X24, e24, st24⟩ := getF X21 hx hZ hown (host := "") (Or.inl (hw _ (List.mem_of_getElem? (i := 51) rfl))) Via.refl e21 F18 (g := (mkF m 43 #[.val (.ref a), .val (.ref ef), .val (.long pr), .second, .val (.ref nm)] [(.ref a), (.ref a)])) rfl rfl (hb hby d_prog_9_method_3_code_43)
        have k24 : To p.tables e below S0 (T24.setTop (mkF m 46 #[.val (.ref a), .val (.ref ef), .val (.long pr), .second, .val (.ref nm)] [.null, (.ref a)])) := fun tt hq => k23 tt (st24 tt hq)
        have k25 : To p.tables e below S0 (T24.setTop (mkF m 48 #[.val (.ref a), .val (.ref ef), .val (.long pr), .second, .val (.ref nm)] [(.ref nm), .null, (.ref a)])) := fun tt hq => k24 tt (by
          show Steps _ _ _ (T24.setTop (mkF m 46 #[.val (.ref a), .val (.ref ef), .val (.long pr), .second, .val (.ref nm)] [.null, (.ref a)])) _
          refine XS.aload X24.here hx rfl (hb hby d_prog_9_method_3_code_46) rfl rfl ?_
          show Steps _ _ _ (T24.setTop (mkF m 48 #[.val (.ref a), .val (.ref ef), .val (.long pr), .second, .val (.ref nm)] [(.ref nm), .null, (.ref a)])) _
          exact hq)
        obtain ⟨_, T26, L26, X26, ⟨rfl, Nq26, eq26⟩, k26a⟩ := callS' X24 hx hZ (y := (⟨"com/example/huntaway/huntaway/CodePointOrder", "min", "(Ljava/lang/String;Ljava/lang/String;)Ljava/lang/String;"⟩ : MethodName)) hown (hw _ (List.mem_of_getElem? (i := 55) rfl)) (hw _ (List.mem_of_getElem? (i := 56) rfl)) (hw _ (List.mem_of_getElem? (i := 57) rfl)) (hw _ (List.mem_of_getElem? (i := 58) rfl)) (by decide) (backC (W := 1) (rm_minN l Z a0 hw zc fm qF qP qI nm h18 n0 (by omega) S_c hzc S_f hfm S_F S_P S_I A_I f19) hZ (hw _ (List.mem_of_getElem? (i := 58) rfl)) (hw _ (List.mem_of_getElem? (i := 57) rfl)) (by decide) (by decide)) e24 (argsL := [.null, (.ref nm)]) (rest := [(.ref a)]) rfl rfl pd_11 rfl (by rw [hml]; rfl) (hb hby d_prog_9_method_3_code_48) (Nat.le_of_eq rfl) (by decide) (by decide) k25
        have k26 : To p.tables e below S0 (T26.setTop (mkF m 51 #[.val (.ref a), .val (.ref ef), .val (.long pr), .second, .val (.ref nm)] [(.ref nm), (.ref a)])) := k26a
        have N26 := N18.app Nq26
        have e26 : T26.heap = h18 := eq26
        have f27 : Exa Z h18 a "com/example/huntaway/huntaway/Precedence" := (f15.wr W18)
        obtain ⟨T28, h28, X28, e28, W28, st28⟩ := putF X26 hx hZ hown (host := "") (Or.inl (hw _ (List.mem_of_getElem? (i := 51) rfl))) Via.refl e26 F18 f27 (Or.inl (hw _ (List.mem_of_getElem? (i := 52) rfl))) (hw _ (List.mem_of_getElem? (i := 30) rfl)) (ty := (.object "java/lang/String")) (by decide) rfl rfl (g := (mkF m 51 #[.val (.ref a), .val (.ref ef), .val (.long pr), .second, .val (.ref nm)] [(.ref nm), (.ref a)])) rfl rfl (hb hby d_prog_9_method_3_code_51)
        have k28 : To p.tables e below S0 (T28.setTop (mkF m 54 #[.val (.ref a), .val (.ref ef), .val (.long pr), .second, .val (.ref nm)] [])) := fun tt hq => k26 tt (st28 tt hq)
        have z28 : h28.size = h18.size := W28.size
        have F28 := F18.same W28
        have N28 := Fr.snoc X28 N26 (by omega : n0 ≤ a)
        have k29 : To p.tables e below S0 (T28.setTop (mkF m 70 #[.val (.ref a), .val (.ref ef), .val (.long pr), .second, .val (.ref nm)] [])) := fun tt hq => k28 tt (by
          show Steps _ _ _ (T28.setTop (mkF m 54 #[.val (.ref a), .val (.ref ef), .val (.long pr), .second, .val (.ref nm)] [])) _
          refine XS.goto X28.here hx rfl (pc0 := 54) (pc' := 70) rfl (hb hby d_prog_9_method_3_code_54) (by decide) (by decide) ?_
          show Steps _ _ _ (T28.setTop (mkF m 70 #[.val (.ref a), .val (.ref ef), .val (.long pr), .second, .val (.ref nm)] [])) _
          exact hq)
        have f30 : Exa Z h28 a "com/example/huntaway/huntaway/Precedence" := (f27.wr W28)
        have f31 : Fld Z h28 a "com/example/huntaway/huntaway/Precedence" "highest" "J" (.long pr) := (((F10.other W14 (Or.inr (slot_ne (Or.inl (hw _ (List.mem_of_getElem? (i := 38) rfl))) (Or.inl (hw _ (List.mem_of_getElem? (i := 50) rfl))) (by decide) (t := .long) (t' := (.object "java/lang/String")) (by decide) (by decide)))).other W18 (Or.inr (slot_ne (Or.inl (hw _ (List.mem_of_getElem? (i := 38) rfl))) (Or.inl (hw _ (List.mem_of_getElem? (i := 52) rfl))) (by decide) (t := .long) (t' := (.object "java/lang/String")) (by decide) (by decide)))).other W28 (Or.inr (slot_ne (Or.inl (hw _ (List.mem_of_getElem? (i := 38) rfl))) (Or.inl (hw _ (List.mem_of_getElem? (i := 52) rfl))) (by decide) (t := .long) (t' := (.object "java/lang/String")) (by decide) (by decide))))
        have f32 : Fld Z h28 a "com/example/huntaway/huntaway/Precedence" "permitting" "Ljava/lang/String;" .null := ((F14.other W18 (Or.inr (slot_ne (Or.inl (hw _ (List.mem_of_getElem? (i := 50) rfl))) (Or.inl (hw _ (List.mem_of_getElem? (i := 52) rfl))) (by decide) (t := (.object "java/lang/String")) (t' := (.object "java/lang/String")) (by decide) (by decide)))).other W28 (Or.inr (slot_ne (Or.inl (hw _ (List.mem_of_getElem? (i := 50) rfl))) (Or.inl (hw _ (List.mem_of_getElem? (i := 52) rfl))) (by decide) (t := (.object "java/lang/String")) (t' := (.object "java/lang/String")) (by decide) (by decide))))
        have hE := e28
        refine retVoid X28 hx hret hlk (hb hby d_prog_9_method_3_code_70) k29 ?_ (by decide) (by decide)
        try rw [hE]
        exact ⟨rfl, N28, (((((Keep.refl h0 [a]).wr W10 (Or.inl (by simp))).wr W14 (Or.inl (by simp))).wr W18 (Or.inl (by simp))).wr W28 (Or.inl (by simp))), f30, _, _, f31, f32, F28, rfl, rfl, by simp, Or.inl ⟨hc38_22, rfl, rfl⟩⟩
      · -- pc 38, holds not
        have f33 : Fld Z h18 a "com/example/huntaway/huntaway/Precedence" "permitting" "Ljava/lang/String;" .null := (F14.other W18 (Or.inr (slot_ne (Or.inl (hw _ (List.mem_of_getElem? (i := 50) rfl))) (Or.inl (hw _ (List.mem_of_getElem? (i := 52) rfl))) (by decide) (t := (.object "java/lang/String")) (t' := (.object "java/lang/String")) (by decide) (by decide))))
        have k34 : To p.tables e below S0 (T21.setTop (mkF m 59 #[.val (.ref a), .val (.ref ef), .val (.long pr), .second, .val (.ref nm)] [(.ref a), (.ref a)])) := fun tt hq => k21 tt (by
          show Steps _ _ _ (T21.setTop (mkF m 38 #[.val (.ref a), .val (.ref ef), .val (.long pr), .second, .val (.ref nm)] [(.ref qF), (.ref ef)])) _
          refine Jvm.RoadKit.acmp (g := (mkF m 38 #[.val (.ref a), .val (.ref ef), .val (.long pr), .second, .val (.ref nm)] [(.ref qF), (.ref ef)])) X21 hx rfl rfl rfl (pc0 := 38) (pc' := 57) (same := false) rfl (hb hby d_prog_9_method_3_code_38) rfl (decide_eq_false fun q => hc38_22 (Value.ref.inj q)) (by decide) (by decide) ?_
          show Steps _ _ _ (T21.setTop (mkF m 57 #[.val (.ref a), .val (.ref ef), .val (.long pr), .second, .val (.ref nm)] [])) _
          refine XS.aloadN X21.here hx rfl (hb hby d_prog_9_method_3_code_57) rfl rfl ?_
          show Steps _ _ _ (T21.setTop (mkF m 58 #[.val (.ref a), .val (.ref ef), .val (.long pr), .second, .val (.ref nm)] [(.ref a)])) _
          refine XS.aloadN X21.here hx rfl (hb hby d_prog_9_method_3_code_58) rfl rfl ?_
          show Steps _ _ _ (T21.setTop (mkF m 59 #[.val (.ref a), .val (.ref ef), .val (.long pr), .second, .val (.ref nm)] [(.ref a), (.ref a)])) _
          exact hq)
        obtain ⟨T35, X35, e35, st35⟩ := getF X21 hx hZ hown (host := "") (Or.inl (hw _ (List.mem_of_getElem? (i := 49) rfl))) Via.refl e21 f33 (g := (mkF m 59 #[.val (.ref a), .val (.ref ef), .val (.long pr), .second, .val (.ref nm)] [(.ref a), (.ref a)])) rfl rfl (hb hby d_prog_9_method_3_code_59)
        have k35 : To p.tables e below S0 (T35.setTop (mkF m 62 #[.val (.ref a), .val (.ref ef), .val (.long pr), .second, .val (.ref nm)] [.null, (.ref a)])) := fun tt hq => k34 tt (st35 tt hq)
        have k36 : To p.tables e below S0 (T35.setTop (mkF m 64 #[.val (.ref a), .val (.ref ef), .val (.long pr), .second, .val (.ref nm)] [(.ref nm), .null, (.ref a)])) := fun tt hq => k35 tt (by
          show Steps _ _ _ (T35.setTop (mkF m 62 #[.val (.ref a), .val (.ref ef), .val (.long pr), .second, .val (.ref nm)] [.null, (.ref a)])) _
          refine XS.aload X35.here hx rfl (hb hby d_prog_9_method_3_code_62) rfl rfl ?_
          show Steps _ _ _ (T35.setTop (mkF m 64 #[.val (.ref a), .val (.ref ef), .val (.long pr), .second, .val (.ref nm)] [(.ref nm), .null, (.ref a)])) _
          exact hq)
        obtain ⟨_, T37, L37, X37, ⟨rfl, Nq37, eq37⟩, k37a⟩ := callS' X35 hx hZ (y := (⟨"com/example/huntaway/huntaway/CodePointOrder", "min", "(Ljava/lang/String;Ljava/lang/String;)Ljava/lang/String;"⟩ : MethodName)) hown (hw _ (List.mem_of_getElem? (i := 55) rfl)) (hw _ (List.mem_of_getElem? (i := 56) rfl)) (hw _ (List.mem_of_getElem? (i := 57) rfl)) (hw _ (List.mem_of_getElem? (i := 58) rfl)) (by decide) (backC (W := 1) (rm_minN l Z a0 hw zc fm qF qP qI nm h18 n0 (by omega) S_c hzc S_f hfm S_F S_P S_I A_I f19) hZ (hw _ (List.mem_of_getElem? (i := 58) rfl)) (hw _ (List.mem_of_getElem? (i := 57) rfl)) (by decide) (by decide)) e35 (argsL := [.null, (.ref nm)]) (rest := [(.ref a)]) rfl rfl pd_11 rfl (by rw [hml]; rfl) (hb hby d_prog_9_method_3_code_64) (Nat.le_of_eq rfl) (by decide) (by decide) k36
        have k37 : To p.tables e below S0 (T37.setTop (mkF m 67 #[.val (.ref a), .val (.ref ef), .val (.long pr), .second, .val (.ref nm)] [(.ref nm), (.ref a)])) := k37a
        have N37 := N18.app Nq37
        have e37 : T37.heap = h18 := eq37
        have f38 : Exa Z h18 a "com/example/huntaway/huntaway/Precedence" := (f15.wr W18)
        obtain ⟨T39, h39, X39, e39, W39, st39⟩ := putF X37 hx hZ hown (host := "") (Or.inl (hw _ (List.mem_of_getElem? (i := 49) rfl))) Via.refl e37 f33 f38 (Or.inl (hw _ (List.mem_of_getElem? (i := 50) rfl))) (hw _ (List.mem_of_getElem? (i := 30) rfl)) (ty := (.object "java/lang/String")) (by decide) rfl rfl (g := (mkF m 67 #[.val (.ref a), .val (.ref ef), .val (.long pr), .second, .val (.ref nm)] [(.ref nm), (.ref a)])) rfl rfl (hb hby d_prog_9_method_3_code_67)
        have k39 : To p.tables e below S0 (T39.setTop (mkF m 70 #[.val (.ref a), .val (.ref ef), .val (.long pr), .second, .val (.ref nm)] [])) := fun tt hq => k37 tt (st39 tt hq)
        have z39 : h39.size = h18.size := W39.size
        have F39 := f33.same W39
        have N39 := Fr.snoc X39 N37 (by omega : n0 ≤ a)
        have f40 : Exa Z h39 a "com/example/huntaway/huntaway/Precedence" := (f38.wr W39)
        have f41 : Fld Z h39 a "com/example/huntaway/huntaway/Precedence" "highest" "J" (.long pr) := (((F10.other W14 (Or.inr (slot_ne (Or.inl (hw _ (List.mem_of_getElem? (i := 38) rfl))) (Or.inl (hw _ (List.mem_of_getElem? (i := 50) rfl))) (by decide) (t := .long) (t' := (.object "java/lang/String")) (by decide) (by decide)))).other W18 (Or.inr (slot_ne (Or.inl (hw _ (List.mem_of_getElem? (i := 38) rfl))) (Or.inl (hw _ (List.mem_of_getElem? (i := 52) rfl))) (by decide) (t := .long) (t' := (.object "java/lang/String")) (by decide) (by decide)))).other W39 (Or.inr (slot_ne (Or.inl (hw _ (List.mem_of_getElem? (i := 38) rfl))) (Or.inl (hw _ (List.mem_of_getElem? (i := 50) rfl))) (by decide) (t := .long) (t' := (.object "java/lang/String")) (by decide) (by decide))))
        have f42 : Fld Z h39 a "com/example/huntaway/huntaway/Precedence" "forbidding" "Ljava/lang/String;" .null := (F18.other W39 (Or.inr (slot_ne (Or.inl (hw _ (List.mem_of_getElem? (i := 52) rfl))) (Or.inl (hw _ (List.mem_of_getElem? (i := 50) rfl))) (by decide) (t := (.object "java/lang/String")) (t' := (.object "java/lang/String")) (by decide) (by decide))))
        have hE := e39
        refine retVoid X39 hx hret hlk (hb hby d_prog_9_method_3_code_70) k39 ?_ (by decide) (by decide)
        try rw [hE]
        exact ⟨rfl, N39, (((((Keep.refl h0 [a]).wr W10 (Or.inl (by simp))).wr W14 (Or.inl (by simp))).wr W18 (Or.inl (by simp))).wr W39 (Or.inl (by simp))), f40, _, _, f41, F39, f42, rfl, rfl, by simp, Or.inr ⟨hc38_22, rfl, rfl⟩⟩
    · -- pc 16, holds not
      have k43 : To p.tables e below S0 (T6.setTop (mkF m 35 #[.val (.ref a), .val (.ref ef), .val (.long pr), .second, .val (.ref nm)] [(.ref ef)])) := fun tt hq => k7 tt (by
        show Steps _ _ _ (T6.setTop (mkF m 16 #[.val (.ref a), .val (.ref ef), .val (.long pr), .second, .val (.ref nm)] [(.int (lcmpW pr (-9223372036854775808 : Int64)))])) _
        refine XS.ifYes X6.here hx rfl (pc0 := 16) (pc' := 34) rfl (hb hby d_prog_9_method_3_code_16) rfl ((if0 _ _).trans (flt hc16_8).2.2.2) (by decide) (by decide) ?_
        show Steps _ _ _ (T6.setTop (mkF m 34 #[.val (.ref a), .val (.ref ef), .val (.long pr), .second, .val (.ref nm)] [])) _
        refine XS.aloadN X6.here hx rfl (hb hby d_prog_9_method_3_code_34) rfl rfl ?_
        show Steps _ _ _ (T6.setTop (mkF m 35 #[.val (.ref a), .val (.ref ef), .val (.long pr), .second, .val (.ref nm)] [(.ref ef)])) _
        exact hq)
      obtain ⟨T44, X44, e44, st44⟩ := getS2 X6 hx hZ hown (host := "") (Or.inl (hw _ (List.mem_of_getElem? (i := 53) rfl))) Via.refl e6 (staOld S_F O0) (g := (mkF m 35 #[.val (.ref a), .val (.ref ef), .val (.long pr), .second, .val (.ref nm)] [(.ref ef)])) rfl (hb hby d_prog_9_method_3_code_35)
      have k44 : To p.tables e below S0 (T44.setTop (mkF m 38 #[.val (.ref a), .val (.ref ef), .val (.long pr), .second, .val (.ref nm)] [(.ref qF), (.ref ef)])) := fun tt hq => k43 tt (st44 tt hq)
      by_cases hc38_45 : ef = qF
      · -- pc 38, holds
        have k46 : To p.tables e below S0 (T44.setTop (mkF m 43 #[.val (.ref a), .val (.ref ef), .val (.long pr), .second, .val (.ref nm)] [(.ref a), (.ref a)])) := fun tt hq => k44 tt (by
          show Steps _ _ _ (T44.setTop (mkF m 38 #[.val (.ref a), .val (.ref ef), .val (.long pr), .second, .val (.ref nm)] [(.ref qF), (.ref ef)])) _
          refine Jvm.RoadKit.acmp (g := (mkF m 38 #[.val (.ref a), .val (.ref ef), .val (.long pr), .second, .val (.ref nm)] [(.ref qF), (.ref ef)])) X44 hx rfl rfl rfl (pc0 := 38) (pc' := 41) (same := true) rfl (hb hby d_prog_9_method_3_code_38) rfl (decide_eq_true (congrArg Value.ref hc38_45)) (by decide) (by decide) ?_
          show Steps _ _ _ (T44.setTop (mkF m 41 #[.val (.ref a), .val (.ref ef), .val (.long pr), .second, .val (.ref nm)] [])) _
          refine XS.aloadN X44.here hx rfl (hb hby d_prog_9_method_3_code_41) rfl rfl ?_
          show Steps _ _ _ (T44.setTop (mkF m 42 #[.val (.ref a), .val (.ref ef), .val (.long pr), .second, .val (.ref nm)] [(.ref a)])) _
          refine XS.aloadN X44.here hx rfl (hb hby d_prog_9_method_3_code_42) rfl rfl ?_
          show Steps _ _ _ (T44.setTop (mkF m 43 #[.val (.ref a), .val (.ref ef), .val (.long pr), .second, .val (.ref nm)] [(.ref a), (.ref a)])) _
          exact hq)
        obtain ⟨T47, X47, e47, st47⟩ := getF X44 hx hZ hown (host := "") (Or.inl (hw _ (List.mem_of_getElem? (i := 51) rfl))) Via.refl e44 P3 (g := (mkF m 43 #[.val (.ref a), .val (.ref ef), .val (.long pr), .second, .val (.ref nm)] [(.ref a), (.ref a)])) rfl rfl (hb hby d_prog_9_method_3_code_43)
        have k47 : To p.tables e below S0 (T47.setTop (mkF m 46 #[.val (.ref a), .val (.ref ef), .val (.long pr), .second, .val (.ref nm)] [.null, (.ref a)])) := fun tt hq => k46 tt (st47 tt hq)
        have k48 : To p.tables e below S0 (T47.setTop (mkF m 48 #[.val (.ref a), .val (.ref ef), .val (.long pr), .second, .val (.ref nm)] [(.ref nm), .null, (.ref a)])) := fun tt hq => k47 tt (by
          show Steps _ _ _ (T47.setTop (mkF m 46 #[.val (.ref a), .val (.ref ef), .val (.long pr), .second, .val (.ref nm)] [.null, (.ref a)])) _
          refine XS.aload X47.here hx rfl (hb hby d_prog_9_method_3_code_46) rfl rfl ?_
          show Steps _ _ _ (T47.setTop (mkF m 48 #[.val (.ref a), .val (.ref ef), .val (.long pr), .second, .val (.ref nm)] [(.ref nm), .null, (.ref a)])) _
          exact hq)
        obtain ⟨_, T49, L49, X49, ⟨rfl, Nq49, eq49⟩, k49a⟩ := callS' X47 hx hZ (y := (⟨"com/example/huntaway/huntaway/CodePointOrder", "min", "(Ljava/lang/String;Ljava/lang/String;)Ljava/lang/String;"⟩ : MethodName)) hown (hw _ (List.mem_of_getElem? (i := 55) rfl)) (hw _ (List.mem_of_getElem? (i := 56) rfl)) (hw _ (List.mem_of_getElem? (i := 57) rfl)) (hw _ (List.mem_of_getElem? (i := 58) rfl)) (by decide) (backC (W := 1) (rm_minN l Z a0 hw zc fm qF qP qI nm h0 n0 (by omega) S_c hzc S_f hfm S_F S_P S_I A_I O0) hZ (hw _ (List.mem_of_getElem? (i := 58) rfl)) (hw _ (List.mem_of_getElem? (i := 57) rfl)) (by decide) (by decide)) e47 (argsL := [.null, (.ref nm)]) (rest := [(.ref a)]) rfl rfl pd_11 rfl (by rw [hml]; rfl) (hb hby d_prog_9_method_3_code_48) (Nat.le_of_eq rfl) (by decide) (by decide) k48
        have k49 : To p.tables e below S0 (T49.setTop (mkF m 51 #[.val (.ref a), .val (.ref ef), .val (.long pr), .second, .val (.ref nm)] [(.ref nm), (.ref a)])) := k49a
        have N49 := N0.app Nq49
        have e49 : T49.heap = h0 := eq49
        obtain ⟨T50, h50, X50, e50, W50, st50⟩ := putF X49 hx hZ hown (host := "") (Or.inl (hw _ (List.mem_of_getElem? (i := 51) rfl))) Via.refl e49 P3 P0 (Or.inl (hw _ (List.mem_of_getElem? (i := 52) rfl))) (hw _ (List.mem_of_getElem? (i := 30) rfl)) (ty := (.object "java/lang/String")) (by decide) rfl rfl (g := (mkF m 51 #[.val (.ref a), .val (.ref ef), .val (.long pr), .second, .val (.ref nm)] [(.ref nm), (.ref a)])) rfl rfl (hb hby d_prog_9_method_3_code_51)
        have k50 : To p.tables e below S0 (T50.setTop (mkF m 54 #[.val (.ref a), .val (.ref ef), .val (.long pr), .second, .val (.ref nm)] [])) := fun tt hq => k49 tt (st50 tt hq)
        have z50 : h50.size = h0.size := W50.size
        have F50 := P3.same W50
        have N50 := Fr.snoc X50 N49 (by omega : n0 ≤ a)
        have k51 : To p.tables e below S0 (T50.setTop (mkF m 70 #[.val (.ref a), .val (.ref ef), .val (.long pr), .second, .val (.ref nm)] [])) := fun tt hq => k50 tt (by
          show Steps _ _ _ (T50.setTop (mkF m 54 #[.val (.ref a), .val (.ref ef), .val (.long pr), .second, .val (.ref nm)] [])) _
          refine XS.goto X50.here hx rfl (pc0 := 54) (pc' := 70) rfl (hb hby d_prog_9_method_3_code_54) (by decide) (by decide) ?_
          show Steps _ _ _ (T50.setTop (mkF m 70 #[.val (.ref a), .val (.ref ef), .val (.long pr), .second, .val (.ref nm)] [])) _
          exact hq)
        have f52 : Exa Z h50 a "com/example/huntaway/huntaway/Precedence" := (P0.wr W50)
        have f53 : Fld Z h50 a "com/example/huntaway/huntaway/Precedence" "highest" "J" (.long (-9223372036854775808 : Int64)) := (P1.other W50 (Or.inr (slot_ne (Or.inl (hw _ (List.mem_of_getElem? (i := 38) rfl))) (Or.inl (hw _ (List.mem_of_getElem? (i := 52) rfl))) (by decide) (t := .long) (t' := (.object "java/lang/String")) (by decide) (by decide))))
        have f54 : Fld Z h50 a "com/example/huntaway/huntaway/Precedence" "permitting" "Ljava/lang/String;" .null := (P2.other W50 (Or.inr (slot_ne (Or.inl (hw _ (List.mem_of_getElem? (i := 50) rfl))) (Or.inl (hw _ (List.mem_of_getElem? (i := 52) rfl))) (by decide) (t := (.object "java/lang/String")) (t' := (.object "java/lang/String")) (by decide) (by decide))))
        have hE := e50
        refine retVoid X50 hx hret hlk (hb hby d_prog_9_method_3_code_70) k51 ?_ (by decide) (by decide)
        try rw [hE]
        exact ⟨rfl, N50, ((Keep.refl h0 [a]).wr W50 (Or.inl (by simp))), f52, _, _, by rw [own_eqmin hc6_4 hc16_8]; exact f53, f54, F50, rfl, rfl, by simp, Or.inl ⟨hc38_45, rfl, rfl⟩⟩
      · -- pc 38, holds not
        have k55 : To p.tables e below S0 (T44.setTop (mkF m 59 #[.val (.ref a), .val (.ref ef), .val (.long pr), .second, .val (.ref nm)] [(.ref a), (.ref a)])) := fun tt hq => k44 tt (by
          show Steps _ _ _ (T44.setTop (mkF m 38 #[.val (.ref a), .val (.ref ef), .val (.long pr), .second, .val (.ref nm)] [(.ref qF), (.ref ef)])) _
          refine Jvm.RoadKit.acmp (g := (mkF m 38 #[.val (.ref a), .val (.ref ef), .val (.long pr), .second, .val (.ref nm)] [(.ref qF), (.ref ef)])) X44 hx rfl rfl rfl (pc0 := 38) (pc' := 57) (same := false) rfl (hb hby d_prog_9_method_3_code_38) rfl (decide_eq_false fun q => hc38_45 (Value.ref.inj q)) (by decide) (by decide) ?_
          show Steps _ _ _ (T44.setTop (mkF m 57 #[.val (.ref a), .val (.ref ef), .val (.long pr), .second, .val (.ref nm)] [])) _
          refine XS.aloadN X44.here hx rfl (hb hby d_prog_9_method_3_code_57) rfl rfl ?_
          show Steps _ _ _ (T44.setTop (mkF m 58 #[.val (.ref a), .val (.ref ef), .val (.long pr), .second, .val (.ref nm)] [(.ref a)])) _
          refine XS.aloadN X44.here hx rfl (hb hby d_prog_9_method_3_code_58) rfl rfl ?_
          show Steps _ _ _ (T44.setTop (mkF m 59 #[.val (.ref a), .val (.ref ef), .val (.long pr), .second, .val (.ref nm)] [(.ref a), (.ref a)])) _
          exact hq)
        obtain ⟨T56, X56, e56, st56⟩ := getF X44 hx hZ hown (host := "") (Or.inl (hw _ (List.mem_of_getElem? (i := 49) rfl))) Via.refl e44 P2 (g := (mkF m 59 #[.val (.ref a), .val (.ref ef), .val (.long pr), .second, .val (.ref nm)] [(.ref a), (.ref a)])) rfl rfl (hb hby d_prog_9_method_3_code_59)
        have k56 : To p.tables e below S0 (T56.setTop (mkF m 62 #[.val (.ref a), .val (.ref ef), .val (.long pr), .second, .val (.ref nm)] [.null, (.ref a)])) := fun tt hq => k55 tt (st56 tt hq)
        have k57 : To p.tables e below S0 (T56.setTop (mkF m 64 #[.val (.ref a), .val (.ref ef), .val (.long pr), .second, .val (.ref nm)] [(.ref nm), .null, (.ref a)])) := fun tt hq => k56 tt (by
          show Steps _ _ _ (T56.setTop (mkF m 62 #[.val (.ref a), .val (.ref ef), .val (.long pr), .second, .val (.ref nm)] [.null, (.ref a)])) _
          refine XS.aload X56.here hx rfl (hb hby d_prog_9_method_3_code_62) rfl rfl ?_
          show Steps _ _ _ (T56.setTop (mkF m 64 #[.val (.ref a), .val (.ref ef), .val (.long pr), .second, .val (.ref nm)] [(.ref nm), .null, (.ref a)])) _
          exact hq)
        obtain ⟨_, T58, L58, X58, ⟨rfl, Nq58, eq58⟩, k58a⟩ := callS' X56 hx hZ (y := (⟨"com/example/huntaway/huntaway/CodePointOrder", "min", "(Ljava/lang/String;Ljava/lang/String;)Ljava/lang/String;"⟩ : MethodName)) hown (hw _ (List.mem_of_getElem? (i := 55) rfl)) (hw _ (List.mem_of_getElem? (i := 56) rfl)) (hw _ (List.mem_of_getElem? (i := 57) rfl)) (hw _ (List.mem_of_getElem? (i := 58) rfl)) (by decide) (backC (W := 1) (rm_minN l Z a0 hw zc fm qF qP qI nm h0 n0 (by omega) S_c hzc S_f hfm S_F S_P S_I A_I O0) hZ (hw _ (List.mem_of_getElem? (i := 58) rfl)) (hw _ (List.mem_of_getElem? (i := 57) rfl)) (by decide) (by decide)) e56 (argsL := [.null, (.ref nm)]) (rest := [(.ref a)]) rfl rfl pd_11 rfl (by rw [hml]; rfl) (hb hby d_prog_9_method_3_code_64) (Nat.le_of_eq rfl) (by decide) (by decide) k57
        have k58 : To p.tables e below S0 (T58.setTop (mkF m 67 #[.val (.ref a), .val (.ref ef), .val (.long pr), .second, .val (.ref nm)] [(.ref nm), (.ref a)])) := k58a
        have N58 := N0.app Nq58
        have e58 : T58.heap = h0 := eq58
        obtain ⟨T59, h59, X59, e59, W59, st59⟩ := putF X58 hx hZ hown (host := "") (Or.inl (hw _ (List.mem_of_getElem? (i := 49) rfl))) Via.refl e58 P2 P0 (Or.inl (hw _ (List.mem_of_getElem? (i := 50) rfl))) (hw _ (List.mem_of_getElem? (i := 30) rfl)) (ty := (.object "java/lang/String")) (by decide) rfl rfl (g := (mkF m 67 #[.val (.ref a), .val (.ref ef), .val (.long pr), .second, .val (.ref nm)] [(.ref nm), (.ref a)])) rfl rfl (hb hby d_prog_9_method_3_code_67)
        have k59 : To p.tables e below S0 (T59.setTop (mkF m 70 #[.val (.ref a), .val (.ref ef), .val (.long pr), .second, .val (.ref nm)] [])) := fun tt hq => k58 tt (st59 tt hq)
        have z59 : h59.size = h0.size := W59.size
        have F59 := P2.same W59
        have N59 := Fr.snoc X59 N58 (by omega : n0 ≤ a)
        have f60 : Exa Z h59 a "com/example/huntaway/huntaway/Precedence" := (P0.wr W59)
        have f61 : Fld Z h59 a "com/example/huntaway/huntaway/Precedence" "highest" "J" (.long (-9223372036854775808 : Int64)) := (P1.other W59 (Or.inr (slot_ne (Or.inl (hw _ (List.mem_of_getElem? (i := 38) rfl))) (Or.inl (hw _ (List.mem_of_getElem? (i := 50) rfl))) (by decide) (t := .long) (t' := (.object "java/lang/String")) (by decide) (by decide))))
        have f62 : Fld Z h59 a "com/example/huntaway/huntaway/Precedence" "forbidding" "Ljava/lang/String;" .null := (P3.other W59 (Or.inr (slot_ne (Or.inl (hw _ (List.mem_of_getElem? (i := 52) rfl))) (Or.inl (hw _ (List.mem_of_getElem? (i := 50) rfl))) (by decide) (t := (.object "java/lang/String")) (t' := (.object "java/lang/String")) (by decide) (by decide))))
        have hE := e59
        refine retVoid X59 hx hret hlk (hb hby d_prog_9_method_3_code_70) k59 ?_ (by decide) (by decide)
        try rw [hE]
        exact ⟨rfl, N59, ((Keep.refl h0 [a]).wr W59 (Or.inl (by simp))), f60, _, _, by rw [own_eqmin hc6_4 hc16_8]; exact f61, F59, f62, rfl, rfl, by simp, Or.inr ⟨hc38_45, rfl, rfl⟩⟩
set_option maxRecDepth 65536 in
set_option maxHeartbeats 40000000 in
theorem rm_offNR (l : Launch) (Z : State) (a0 : Array Value) (hw : ∀ d ∈ tables_1, d.before a0 Z = true) (zc : Int32) (fm : Value) (qF : Addr) (qP : Addr) (qI : Addr) (a : Addr) (ef : Addr) (pr : Int64) (hi : Int64) (nm : Addr) (tn : Addr) (kn : ClassId) (cn : Int32) (o1 : Addr) (to : Addr) (ko : ClassId) (co : Int32) (h0 : Heap) (n0 : Nat) (hn0 : n0 ≤ h0.size) (S_c : Sta Z Z.heap "java/lang/String" "COMPACT_STRINGS" "Z" (.int zc)) (hzc : ¬ zc = (0 : Int32)) (S_f : Sta Z Z.heap "jdk/internal/util/Preconditions" "SIOOBE_FORMATTER" "Ljava/util/function/BiFunction;" fm) (hfm : fm.isRef = true) (S_F : Sta Z Z.heap "com/example/huntaway/huntaway/Effect" "FORBID" "Lcom/example/huntaway/huntaway/Effect;" (.ref qF)) (S_P : Sta Z Z.heap "com/example/huntaway/huntaway/Effect" "PERMIT" "Lcom/example/huntaway/huntaway/Effect;" (.ref qP)) (S_I : Sta Z Z.heap "com/example/huntaway/huntaway/CodePointOrder" "INSTANCE" "Lcom/example/huntaway/huntaway/CodePointOrder;" (.ref qI)) (A_I : Exa Z Z.heap qI "com/example/huntaway/huntaway/CodePointOrder") (O0 : Old Z n0 h0) (P0 : Exa Z h0 a "com/example/huntaway/huntaway/Precedence") (P1 : Fld Z h0 a "com/example/huntaway/huntaway/Precedence" "highest" "J" (.long hi)) (P2 : Fld Z h0 a "com/example/huntaway/huntaway/Precedence" "permitting" "Ljava/lang/String;" .null) (P3 : Fld Z h0 a "com/example/huntaway/huntaway/Precedence" "forbidding" "Ljava/lang/String;" (.ref o1)) (gn_0 : Exa Z h0 nm "java/lang/String") (gn_1 : Fld Z h0 nm "java/lang/String" "value" "[B" (.ref tn)) (gn_2 : Fld Z h0 nm "java/lang/String" "coder" "B" (.int (0 : Int32))) (gn_3 : Arv Z h0 tn kn .byte (1 : Int32) [(.int cn)] (.int 0)) (go_0 : Exa Z h0 o1 "java/lang/String") (go_1 : Fld Z h0 o1 "java/lang/String" "value" "[B" (.ref to)) (go_2 : Fld Z h0 o1 "java/lang/String" "coder" "B" (.int (0 : Int32))) (go_3 : Arv Z h0 to ko .byte (1 : Int32) [(.int co)] (.int 0)) (nd2 : ¬ (@Eq Nat o1 a)) (nd4 : ¬ (@Eq Nat to a)) (nd1 : ¬ (@Eq Nat nm a)) (nd3 : ¬ (@Eq Nat tn a)) (ga : n0 ≤ a) :
    Con l Z (⟨"com/example/huntaway/huntaway/Precedence", "offer", "(Lcom/example/huntaway/huntaway/Effect;JLjava/lang/String;)V"⟩ : MethodName) prog_9_method_3_code 5 none [] ({ frames := 5, cells := 0, slots := 0, locals := 73 } : Room) #[(.ref a), (.ref ef), (.long pr), (.ref nm)] h0 (fun v h L => v = none ∧ Fr n0 L ∧ Keep h0 h [a] ∧ Exa Z h a "com/example/huntaway/huntaway/Precedence" ∧ ∃ u1 u2 : Value, Fld Z h a "com/example/huntaway/huntaway/Precedence" "highest" "J" (.long (if pr < hi then hi else pr)) ∧ Fld Z h a "com/example/huntaway/huntaway/Precedence" "permitting" "Ljava/lang/String;" u1 ∧ Fld Z h a "com/example/huntaway/huntaway/Precedence" "forbidding" "Ljava/lang/String;" u2 ∧ u1.isRef = true ∧ u2.isRef = true ∧ ¬ (u1 = .null ∧ u2 = .null)) := by
  refine enter (Ls := #[.val (.ref a), .val (.ref ef), .val (.long pr), .second, .val (.ref nm)]) (plainFor_of_name pn_6) (fun m => by exact entry_eq rfl) ?_
  intro p e s m below meth cd_ s₁ S0 hx hby hml hret hlk hnm hown hZ X0 e0 k0
  have N0 := Fr.nil n0
  have k1 : To p.tables e below S0 (s₁.setTop (mkF m 2 #[.val (.ref a), .val (.ref ef), .val (.long pr), .second, .val (.ref nm)] [(.ref a), (.long pr)])) := fun tt hq => k0 tt (by
    show Steps _ _ _ (s₁.setTop (mkF m 0 #[.val (.ref a), .val (.ref ef), .val (.long pr), .second, .val (.ref nm)] [])) _
    refine XS.lloadN X0.here hx rfl (hb hby d_prog_9_method_3_code_0) rfl ?_
    show Steps _ _ _ (s₁.setTop (mkF m 1 #[.val (.ref a), .val (.ref ef), .val (.long pr), .second, .val (.ref nm)] [(.long pr)])) _
    refine XS.aloadN X0.here hx rfl (hb hby d_prog_9_method_3_code_1) rfl rfl ?_
    show Steps _ _ _ (s₁.setTop (mkF m 2 #[.val (.ref a), .val (.ref ef), .val (.long pr), .second, .val (.ref nm)] [(.ref a), (.long pr)])) _
    exact hq)
  obtain ⟨T2, X2, e2, st2⟩ := getF X0 hx hZ hown (host := "") (Or.inl (hw _ (List.mem_of_getElem? (i := 37) rfl))) Via.refl e0 P1 (g := (mkF m 2 #[.val (.ref a), .val (.ref ef), .val (.long pr), .second, .val (.ref nm)] [(.ref a), (.long pr)])) rfl rfl (hb hby d_prog_9_method_3_code_2)
  have k2 : To p.tables e below S0 (T2.setTop (mkF m 5 #[.val (.ref a), .val (.ref ef), .val (.long pr), .second, .val (.ref nm)] [(.long hi), (.long pr)])) := fun tt hq => k1 tt (st2 tt hq)
  have k3 : To p.tables e below S0 (T2.setTop (mkF m 6 #[.val (.ref a), .val (.ref ef), .val (.long pr), .second, .val (.ref nm)] [(.int (lcmpW pr hi))])) := fun tt hq => k2 tt (by
    show Steps _ _ _ (T2.setTop (mkF m 5 #[.val (.ref a), .val (.ref ef), .val (.long pr), .second, .val (.ref nm)] [(.long hi), (.long pr)])) _
    refine XS.lcmp X2.here hx rfl (hb hby d_prog_9_method_3_code_5) rfl ?_
    show Steps _ _ _ (T2.setTop (mkF m 6 #[.val (.ref a), .val (.ref ef), .val (.long pr), .second, .val (.ref nm)] [(.int (lcmpW pr hi))])) _
    exact hq)
  by_cases hc6_4 : (lcmpW pr hi) < (0 : Int32)
  · -- pc 6, holds
    have k5 : To p.tables e below S0 (T2.setTop (mkF m 9 #[.val (.ref a), .val (.ref ef), .val (.long pr), .second, .val (.ref nm)] [])) := fun tt hq => k3 tt (by
      show Steps _ _ _ (T2.setTop (mkF m 6 #[.val (.ref a), .val (.ref ef), .val (.long pr), .second, .val (.ref nm)] [(.int (lcmpW pr hi))])) _
      refine XS.ifNo X2.here hx rfl (hb hby d_prog_9_method_3_code_6) rfl ((if0 _ _).trans (tlt hc6_4).2.1) ?_
      show Steps _ _ _ (T2.setTop (mkF m 9 #[.val (.ref a), .val (.ref ef), .val (.long pr), .second, .val (.ref nm)] [])) _
      exact hq)
    have hE := e2
    refine retVoid X2 hx hret hlk (hb hby d_prog_9_method_3_code_9) k5 ?_ (by decide) (by decide)
    try rw [hE]
    exact ⟨rfl, N0, (Keep.refl h0 [a]), P0, _, _, by rw [← own_hi1 hc6_4]; exact P1, P2, P3, rfl, rfl, by simp⟩
  · -- pc 6, holds not
    have k6 : To p.tables e below S0 (T2.setTop (mkF m 12 #[.val (.ref a), .val (.ref ef), .val (.long pr), .second, .val (.ref nm)] [(.ref a), (.long pr)])) := fun tt hq => k3 tt (by
      show Steps _ _ _ (T2.setTop (mkF m 6 #[.val (.ref a), .val (.ref ef), .val (.long pr), .second, .val (.ref nm)] [(.int (lcmpW pr hi))])) _
      refine XS.ifYes X2.here hx rfl (pc0 := 6) (pc' := 10) rfl (hb hby d_prog_9_method_3_code_6) rfl ((if0 _ _).trans (flt hc6_4).2.1) (by decide) (by decide) ?_
      show Steps _ _ _ (T2.setTop (mkF m 10 #[.val (.ref a), .val (.ref ef), .val (.long pr), .second, .val (.ref nm)] [])) _
      refine XS.lloadN X2.here hx rfl (hb hby d_prog_9_method_3_code_10) rfl ?_
      show Steps _ _ _ (T2.setTop (mkF m 11 #[.val (.ref a), .val (.ref ef), .val (.long pr), .second, .val (.ref nm)] [(.long pr)])) _
      refine XS.aloadN X2.here hx rfl (hb hby d_prog_9_method_3_code_11) rfl rfl ?_
      show Steps _ _ _ (T2.setTop (mkF m 12 #[.val (.ref a), .val (.ref ef), .val (.long pr), .second, .val (.ref nm)] [(.ref a), (.long pr)])) _
      exact hq)
    obtain ⟨T7, X7, e7, st7⟩ := getF X2 hx hZ hown (host := "") (Or.inl (hw _ (List.mem_of_getElem? (i := 37) rfl))) Via.refl e2 P1 (g := (mkF m 12 #[.val (.ref a), .val (.ref ef), .val (.long pr), .second, .val (.ref nm)] [(.ref a), (.long pr)])) rfl rfl (hb hby d_prog_9_method_3_code_12)
    have k7 : To p.tables e below S0 (T7.setTop (mkF m 15 #[.val (.ref a), .val (.ref ef), .val (.long pr), .second, .val (.ref nm)] [(.long hi), (.long pr)])) := fun tt hq => k6 tt (st7 tt hq)
    have k8 : To p.tables e below S0 (T7.setTop (mkF m 16 #[.val (.ref a), .val (.ref ef), .val (.long pr), .second, .val (.ref nm)] [(.int (lcmpW pr hi))])) := fun tt hq => k7 tt (by
      show Steps _ _ _ (T7.setTop (mkF m 15 #[.val (.ref a), .val (.ref ef), .val (.long pr), .second, .val (.ref nm)] [(.long hi), (.long pr)])) _
      refine XS.lcmp X7.here hx rfl (hb hby d_prog_9_method_3_code_15) rfl ?_
      show Steps _ _ _ (T7.setTop (mkF m 16 #[.val (.ref a), .val (.ref ef), .val (.long pr), .second, .val (.ref nm)] [(.int (lcmpW pr hi))])) _
      exact hq)
    by_cases hc16_9 : (0 : Int32) < (lcmpW pr hi)
    · -- pc 16, holds
      have k10 : To p.tables e below S0 (T7.setTop (mkF m 21 #[.val (.ref a), .val (.ref ef), .val (.long pr), .second, .val (.ref nm)] [(.long pr), (.ref a)])) := fun tt hq => k8 tt (by
        show Steps _ _ _ (T7.setTop (mkF m 16 #[.val (.ref a), .val (.ref ef), .val (.long pr), .second, .val (.ref nm)] [(.int (lcmpW pr hi))])) _
        refine XS.ifNo X7.here hx rfl (hb hby d_prog_9_method_3_code_16) rfl ((if0 _ _).trans (tlt hc16_9).2.2.2) ?_
        show Steps _ _ _ (T7.setTop (mkF m 19 #[.val (.ref a), .val (.ref ef), .val (.long pr), .second, .val (.ref nm)] [])) _
        refine XS.aloadN X7.here hx rfl (hb hby d_prog_9_method_3_code_19) rfl rfl ?_
        show Steps _ _ _ (T7.setTop (mkF m 20 #[.val (.ref a), .val (.ref ef), .val (.long pr), .second, .val (.ref nm)] [(.ref a)])) _
        refine XS.lloadN X7.here hx rfl (hb hby d_prog_9_method_3_code_20) rfl ?_
        show Steps _ _ _ (T7.setTop (mkF m 21 #[.val (.ref a), .val (.ref ef), .val (.long pr), .second, .val (.ref nm)] [(.long pr), (.ref a)])) _
        exact hq)
      obtain ⟨T11, h11, X11, e11, W11, st11⟩ := putF X7 hx hZ hown (host := "") (Or.inl (hw _ (List.mem_of_getElem? (i := 37) rfl))) Via.refl e7 P1 P0 (Or.inl (hw _ (List.mem_of_getElem? (i := 38) rfl))) (hw _ (List.mem_of_getElem? (i := 30) rfl)) (ty := .long) (by decide) rfl rfl (g := (mkF m 21 #[.val (.ref a), .val (.ref ef), .val (.long pr), .second, .val (.ref nm)] [(.long pr), (.ref a)])) rfl rfl (hb hby d_prog_9_method_3_code_21)
      have k11 : To p.tables e below S0 (T11.setTop (mkF m 24 #[.val (.ref a), .val (.ref ef), .val (.long pr), .second, .val (.ref nm)] [])) := fun tt hq => k10 tt (st11 tt hq)
      have z11 : h11.size = h0.size := W11.size
      have F11 := P1.same W11
      have N11 := Fr.snoc X11 N0 (by omega : n0 ≤ a)
      have f12 : Exa Z h11 a "com/example/huntaway/huntaway/Precedence" := (P0.wr W11)
      have f13 : Fld Z h11 a "com/example/huntaway/huntaway/Precedence" "permitting" "Ljava/lang/String;" .null := (P2.other W11 (Or.inr (slot_ne (Or.inl (hw _ (List.mem_of_getElem? (i := 50) rfl))) (Or.inl (hw _ (List.mem_of_getElem? (i := 38) rfl))) (by decide) (t := (.object "java/lang/String")) (t' := .long) (by decide) (by decide))))
      have k14 : To p.tables e below S0 (T11.setTop (mkF m 26 #[.val (.ref a), .val (.ref ef), .val (.long pr), .second, .val (.ref nm)] [.null, (.ref a)])) := fun tt hq => k11 tt (by
        show Steps _ _ _ (T11.setTop (mkF m 24 #[.val (.ref a), .val (.ref ef), .val (.long pr), .second, .val (.ref nm)] [])) _
        refine XS.aloadN X11.here hx rfl (hb hby d_prog_9_method_3_code_24) rfl rfl ?_
        show Steps _ _ _ (T11.setTop (mkF m 25 #[.val (.ref a), .val (.ref ef), .val (.long pr), .second, .val (.ref nm)] [(.ref a)])) _
        refine XS.aconstNull X11.here hx rfl (hb hby d_prog_9_method_3_code_25) ?_
        show Steps _ _ _ (T11.setTop (mkF m 26 #[.val (.ref a), .val (.ref ef), .val (.long pr), .second, .val (.ref nm)] [.null, (.ref a)])) _
        exact hq)
      obtain ⟨T15, h15, X15, e15, W15, st15⟩ := putF X11 hx hZ hown (host := "") (Or.inl (hw _ (List.mem_of_getElem? (i := 49) rfl))) Via.refl e11 f13 f12 (Or.inl (hw _ (List.mem_of_getElem? (i := 50) rfl))) (hw _ (List.mem_of_getElem? (i := 30) rfl)) (ty := (.object "java/lang/String")) (by decide) rfl rfl (g := (mkF m 26 #[.val (.ref a), .val (.ref ef), .val (.long pr), .second, .val (.ref nm)] [.null, (.ref a)])) rfl rfl (hb hby d_prog_9_method_3_code_26)
      have k15 : To p.tables e below S0 (T15.setTop (mkF m 29 #[.val (.ref a), .val (.ref ef), .val (.long pr), .second, .val (.ref nm)] [])) := fun tt hq => k14 tt (st15 tt hq)
      have z15 : h15.size = h11.size := W15.size
      have F15 := f13.same W15
      have N15 := Fr.snoc X15 N11 (by omega : n0 ≤ a)
      have f16 : Exa Z h15 a "com/example/huntaway/huntaway/Precedence" := (f12.wr W15)
      have f17 : Fld Z h15 a "com/example/huntaway/huntaway/Precedence" "forbidding" "Ljava/lang/String;" (.ref o1) := ((P3.other W11 (Or.inr (slot_ne (Or.inl (hw _ (List.mem_of_getElem? (i := 52) rfl))) (Or.inl (hw _ (List.mem_of_getElem? (i := 38) rfl))) (by decide) (t := (.object "java/lang/String")) (t' := .long) (by decide) (by decide)))).other W15 (Or.inr (slot_ne (Or.inl (hw _ (List.mem_of_getElem? (i := 52) rfl))) (Or.inl (hw _ (List.mem_of_getElem? (i := 50) rfl))) (by decide) (t := (.object "java/lang/String")) (t' := (.object "java/lang/String")) (by decide) (by decide))))
      have k18 : To p.tables e below S0 (T15.setTop (mkF m 31 #[.val (.ref a), .val (.ref ef), .val (.long pr), .second, .val (.ref nm)] [.null, (.ref a)])) := fun tt hq => k15 tt (by
        show Steps _ _ _ (T15.setTop (mkF m 29 #[.val (.ref a), .val (.ref ef), .val (.long pr), .second, .val (.ref nm)] [])) _
        refine XS.aloadN X15.here hx rfl (hb hby d_prog_9_method_3_code_29) rfl rfl ?_
        show Steps _ _ _ (T15.setTop (mkF m 30 #[.val (.ref a), .val (.ref ef), .val (.long pr), .second, .val (.ref nm)] [(.ref a)])) _
        refine XS.aconstNull X15.here hx rfl (hb hby d_prog_9_method_3_code_30) ?_
        show Steps _ _ _ (T15.setTop (mkF m 31 #[.val (.ref a), .val (.ref ef), .val (.long pr), .second, .val (.ref nm)] [.null, (.ref a)])) _
        exact hq)
      obtain ⟨T19, h19, X19, e19, W19, st19⟩ := putF X15 hx hZ hown (host := "") (Or.inl (hw _ (List.mem_of_getElem? (i := 51) rfl))) Via.refl e15 f17 f16 (Or.inl (hw _ (List.mem_of_getElem? (i := 52) rfl))) (hw _ (List.mem_of_getElem? (i := 30) rfl)) (ty := (.object "java/lang/String")) (by decide) rfl rfl (g := (mkF m 31 #[.val (.ref a), .val (.ref ef), .val (.long pr), .second, .val (.ref nm)] [.null, (.ref a)])) rfl rfl (hb hby d_prog_9_method_3_code_31)
      have k19 : To p.tables e below S0 (T19.setTop (mkF m 34 #[.val (.ref a), .val (.ref ef), .val (.long pr), .second, .val (.ref nm)] [])) := fun tt hq => k18 tt (st19 tt hq)
      have z19 : h19.size = h15.size := W19.size
      have F19 := f17.same W19
      have N19 := Fr.snoc X19 N15 (by omega : n0 ≤ a)
      have f20 : Old Z n0 h19 := (((O0.wr W11 (by omega)).wr W15 (by omega)).wr W19 (by omega))
      have k21 : To p.tables e below S0 (T19.setTop (mkF m 35 #[.val (.ref a), .val (.ref ef), .val (.long pr), .second, .val (.ref nm)] [(.ref ef)])) := fun tt hq => k19 tt (by
        show Steps _ _ _ (T19.setTop (mkF m 34 #[.val (.ref a), .val (.ref ef), .val (.long pr), .second, .val (.ref nm)] [])) _
        refine XS.aloadN X19.here hx rfl (hb hby d_prog_9_method_3_code_34) rfl rfl ?_
        show Steps _ _ _ (T19.setTop (mkF m 35 #[.val (.ref a), .val (.ref ef), .val (.long pr), .second, .val (.ref nm)] [(.ref ef)])) _
        exact hq)
      obtain ⟨T22, X22, e22, st22⟩ := getS2 X19 hx hZ hown (host := "") (Or.inl (hw _ (List.mem_of_getElem? (i := 53) rfl))) Via.refl e19 (staOld S_F f20) (g := (mkF m 35 #[.val (.ref a), .val (.ref ef), .val (.long pr), .second, .val (.ref nm)] [(.ref ef)])) rfl (hb hby d_prog_9_method_3_code_35)
      have k22 : To p.tables e below S0 (T22.setTop (mkF m 38 #[.val (.ref a), .val (.ref ef), .val (.long pr), .second, .val (.ref nm)] [(.ref qF), (.ref ef)])) := fun tt hq => k21 tt (st22 tt hq)
      by_cases hc38_23 : ef = qF
      · -- pc 38, holds
        have k24 : To p.tables e below S0 (T22.setTop (mkF m 43 #[.val (.ref a), .val (.ref ef), .val (.long pr), .second, .val (.ref nm)] [(.ref a), (.ref a)])) := fun tt hq => k22 tt (by
          show Steps _ _ _ (T22.setTop (mkF m 38 #[.val (.ref a), .val (.ref ef), .val (.long pr), .second, .val (.ref nm)] [(.ref qF), (.ref ef)])) _
          refine Jvm.RoadKit.acmp (g := (mkF m 38 #[.val (.ref a), .val (.ref ef), .val (.long pr), .second, .val (.ref nm)] [(.ref qF), (.ref ef)])) X22 hx rfl rfl rfl (pc0 := 38) (pc' := 41) (same := true) rfl (hb hby d_prog_9_method_3_code_38) rfl (decide_eq_true (congrArg Value.ref hc38_23)) (by decide) (by decide) ?_
          show Steps _ _ _ (T22.setTop (mkF m 41 #[.val (.ref a), .val (.ref ef), .val (.long pr), .second, .val (.ref nm)] [])) _
          refine XS.aloadN X22.here hx rfl (hb hby d_prog_9_method_3_code_41) rfl rfl ?_
          show Steps _ _ _ (T22.setTop (mkF m 42 #[.val (.ref a), .val (.ref ef), .val (.long pr), .second, .val (.ref nm)] [(.ref a)])) _
          refine XS.aloadN X22.here hx rfl (hb hby d_prog_9_method_3_code_42) rfl rfl ?_
          show Steps _ _ _ (T22.setTop (mkF m 43 #[.val (.ref a), .val (.ref ef), .val (.long pr), .second, .val (.ref nm)] [(.ref a), (.ref a)])) _
          exact hq)
        obtain ⟨T25, X25, e25, st25⟩ := getF X22 hx hZ hown (host := "") (Or.inl (hw _ (List.mem_of_getElem? (i := 51) rfl))) Via.refl e22 F19 (g := (mkF m 43 #[.val (.ref a), .val (.ref ef), .val (.long pr), .second, .val (.ref nm)] [(.ref a), (.ref a)])) rfl rfl (hb hby d_prog_9_method_3_code_43)
        have k25 : To p.tables e below S0 (T25.setTop (mkF m 46 #[.val (.ref a), .val (.ref ef), .val (.long pr), .second, .val (.ref nm)] [.null, (.ref a)])) := fun tt hq => k24 tt (st25 tt hq)
        have k26 : To p.tables e below S0 (T25.setTop (mkF m 48 #[.val (.ref a), .val (.ref ef), .val (.long pr), .second, .val (.ref nm)] [(.ref nm), .null, (.ref a)])) := fun tt hq => k25 tt (by
          show Steps _ _ _ (T25.setTop (mkF m 46 #[.val (.ref a), .val (.ref ef), .val (.long pr), .second, .val (.ref nm)] [.null, (.ref a)])) _
          refine XS.aload X25.here hx rfl (hb hby d_prog_9_method_3_code_46) rfl rfl ?_
          show Steps _ _ _ (T25.setTop (mkF m 48 #[.val (.ref a), .val (.ref ef), .val (.long pr), .second, .val (.ref nm)] [(.ref nm), .null, (.ref a)])) _
          exact hq)
        obtain ⟨_, T27, L27, X27, ⟨rfl, Nq27, eq27⟩, k27a⟩ := callS' X25 hx hZ (y := (⟨"com/example/huntaway/huntaway/CodePointOrder", "min", "(Ljava/lang/String;Ljava/lang/String;)Ljava/lang/String;"⟩ : MethodName)) hown (hw _ (List.mem_of_getElem? (i := 55) rfl)) (hw _ (List.mem_of_getElem? (i := 56) rfl)) (hw _ (List.mem_of_getElem? (i := 57) rfl)) (hw _ (List.mem_of_getElem? (i := 58) rfl)) (by decide) (backC (W := 1) (rm_minN l Z a0 hw zc fm qF qP qI nm h19 n0 (by omega) S_c hzc S_f hfm S_F S_P S_I A_I f20) hZ (hw _ (List.mem_of_getElem? (i := 58) rfl)) (hw _ (List.mem_of_getElem? (i := 57) rfl)) (by decide) (by decide)) e25 (argsL := [.null, (.ref nm)]) (rest := [(.ref a)]) rfl rfl pd_11 rfl (by rw [hml]; rfl) (hb hby d_prog_9_method_3_code_48) (Nat.le_of_eq rfl) (by decide) (by decide) k26
        have k27 : To p.tables e below S0 (T27.setTop (mkF m 51 #[.val (.ref a), .val (.ref ef), .val (.long pr), .second, .val (.ref nm)] [(.ref nm), (.ref a)])) := k27a
        have N27 := N19.app Nq27
        have e27 : T27.heap = h19 := eq27
        have f28 : Exa Z h19 a "com/example/huntaway/huntaway/Precedence" := (f16.wr W19)
        obtain ⟨T29, h29, X29, e29, W29, st29⟩ := putF X27 hx hZ hown (host := "") (Or.inl (hw _ (List.mem_of_getElem? (i := 51) rfl))) Via.refl e27 F19 f28 (Or.inl (hw _ (List.mem_of_getElem? (i := 52) rfl))) (hw _ (List.mem_of_getElem? (i := 30) rfl)) (ty := (.object "java/lang/String")) (by decide) rfl rfl (g := (mkF m 51 #[.val (.ref a), .val (.ref ef), .val (.long pr), .second, .val (.ref nm)] [(.ref nm), (.ref a)])) rfl rfl (hb hby d_prog_9_method_3_code_51)
        have k29 : To p.tables e below S0 (T29.setTop (mkF m 54 #[.val (.ref a), .val (.ref ef), .val (.long pr), .second, .val (.ref nm)] [])) := fun tt hq => k27 tt (st29 tt hq)
        have z29 : h29.size = h19.size := W29.size
        have F29 := F19.same W29
        have N29 := Fr.snoc X29 N27 (by omega : n0 ≤ a)
        have k30 : To p.tables e below S0 (T29.setTop (mkF m 70 #[.val (.ref a), .val (.ref ef), .val (.long pr), .second, .val (.ref nm)] [])) := fun tt hq => k29 tt (by
          show Steps _ _ _ (T29.setTop (mkF m 54 #[.val (.ref a), .val (.ref ef), .val (.long pr), .second, .val (.ref nm)] [])) _
          refine XS.goto X29.here hx rfl (pc0 := 54) (pc' := 70) rfl (hb hby d_prog_9_method_3_code_54) (by decide) (by decide) ?_
          show Steps _ _ _ (T29.setTop (mkF m 70 #[.val (.ref a), .val (.ref ef), .val (.long pr), .second, .val (.ref nm)] [])) _
          exact hq)
        have f31 : Exa Z h29 a "com/example/huntaway/huntaway/Precedence" := (f28.wr W29)
        have f32 : Fld Z h29 a "com/example/huntaway/huntaway/Precedence" "highest" "J" (.long pr) := (((F11.other W15 (Or.inr (slot_ne (Or.inl (hw _ (List.mem_of_getElem? (i := 38) rfl))) (Or.inl (hw _ (List.mem_of_getElem? (i := 50) rfl))) (by decide) (t := .long) (t' := (.object "java/lang/String")) (by decide) (by decide)))).other W19 (Or.inr (slot_ne (Or.inl (hw _ (List.mem_of_getElem? (i := 38) rfl))) (Or.inl (hw _ (List.mem_of_getElem? (i := 52) rfl))) (by decide) (t := .long) (t' := (.object "java/lang/String")) (by decide) (by decide)))).other W29 (Or.inr (slot_ne (Or.inl (hw _ (List.mem_of_getElem? (i := 38) rfl))) (Or.inl (hw _ (List.mem_of_getElem? (i := 52) rfl))) (by decide) (t := .long) (t' := (.object "java/lang/String")) (by decide) (by decide))))
        have f33 : Fld Z h29 a "com/example/huntaway/huntaway/Precedence" "permitting" "Ljava/lang/String;" .null := ((F15.other W19 (Or.inr (slot_ne (Or.inl (hw _ (List.mem_of_getElem? (i := 50) rfl))) (Or.inl (hw _ (List.mem_of_getElem? (i := 52) rfl))) (by decide) (t := (.object "java/lang/String")) (t' := (.object "java/lang/String")) (by decide) (by decide)))).other W29 (Or.inr (slot_ne (Or.inl (hw _ (List.mem_of_getElem? (i := 50) rfl))) (Or.inl (hw _ (List.mem_of_getElem? (i := 52) rfl))) (by decide) (t := (.object "java/lang/String")) (t' := (.object "java/lang/String")) (by decide) (by decide))))
        have hE := e29
        refine retVoid X29 hx hret hlk (hb hby d_prog_9_method_3_code_70) k30 ?_ (by decide) (by decide)
        try rw [hE]
        exact ⟨rfl, N29, (((((Keep.refl h0 [a]).wr W11 (Or.inl (by simp))).wr W15 (Or.inl (by simp))).wr W19 (Or.inl (by simp))).wr W29 (Or.inl (by simp))), f31, _, _, by rw [← own_hi2 hc6_4 hc16_9]; exact f32, f33, F29, rfl, rfl, by simp⟩
      · -- pc 38, holds not
        have f34 : Fld Z h19 a "com/example/huntaway/huntaway/Precedence" "permitting" "Ljava/lang/String;" .null := (F15.other W19 (Or.inr (slot_ne (Or.inl (hw _ (List.mem_of_getElem? (i := 50) rfl))) (Or.inl (hw _ (List.mem_of_getElem? (i := 52) rfl))) (by decide) (t := (.object "java/lang/String")) (t' := (.object "java/lang/String")) (by decide) (by decide))))
        have k35 : To p.tables e below S0 (T22.setTop (mkF m 59 #[.val (.ref a), .val (.ref ef), .val (.long pr), .second, .val (.ref nm)] [(.ref a), (.ref a)])) := fun tt hq => k22 tt (by
          show Steps _ _ _ (T22.setTop (mkF m 38 #[.val (.ref a), .val (.ref ef), .val (.long pr), .second, .val (.ref nm)] [(.ref qF), (.ref ef)])) _
          refine Jvm.RoadKit.acmp (g := (mkF m 38 #[.val (.ref a), .val (.ref ef), .val (.long pr), .second, .val (.ref nm)] [(.ref qF), (.ref ef)])) X22 hx rfl rfl rfl (pc0 := 38) (pc' := 57) (same := false) rfl (hb hby d_prog_9_method_3_code_38) rfl (decide_eq_false fun q => hc38_23 (Value.ref.inj q)) (by decide) (by decide) ?_
          show Steps _ _ _ (T22.setTop (mkF m 57 #[.val (.ref a), .val (.ref ef), .val (.long pr), .second, .val (.ref nm)] [])) _
          refine XS.aloadN X22.here hx rfl (hb hby d_prog_9_method_3_code_57) rfl rfl ?_
          show Steps _ _ _ (T22.setTop (mkF m 58 #[.val (.ref a), .val (.ref ef), .val (.long pr), .second, .val (.ref nm)] [(.ref a)])) _
          refine XS.aloadN X22.here hx rfl (hb hby d_prog_9_method_3_code_58) rfl rfl ?_
          show Steps _ _ _ (T22.setTop (mkF m 59 #[.val (.ref a), .val (.ref ef), .val (.long pr), .second, .val (.ref nm)] [(.ref a), (.ref a)])) _
          exact hq)
        obtain ⟨T36, X36, e36, st36⟩ := getF X22 hx hZ hown (host := "") (Or.inl (hw _ (List.mem_of_getElem? (i := 49) rfl))) Via.refl e22 f34 (g := (mkF m 59 #[.val (.ref a), .val (.ref ef), .val (.long pr), .second, .val (.ref nm)] [(.ref a), (.ref a)])) rfl rfl (hb hby d_prog_9_method_3_code_59)
        have k36 : To p.tables e below S0 (T36.setTop (mkF m 62 #[.val (.ref a), .val (.ref ef), .val (.long pr), .second, .val (.ref nm)] [.null, (.ref a)])) := fun tt hq => k35 tt (st36 tt hq)
        have k37 : To p.tables e below S0 (T36.setTop (mkF m 64 #[.val (.ref a), .val (.ref ef), .val (.long pr), .second, .val (.ref nm)] [(.ref nm), .null, (.ref a)])) := fun tt hq => k36 tt (by
          show Steps _ _ _ (T36.setTop (mkF m 62 #[.val (.ref a), .val (.ref ef), .val (.long pr), .second, .val (.ref nm)] [.null, (.ref a)])) _
          refine XS.aload X36.here hx rfl (hb hby d_prog_9_method_3_code_62) rfl rfl ?_
          show Steps _ _ _ (T36.setTop (mkF m 64 #[.val (.ref a), .val (.ref ef), .val (.long pr), .second, .val (.ref nm)] [(.ref nm), .null, (.ref a)])) _
          exact hq)
        obtain ⟨_, T38, L38, X38, ⟨rfl, Nq38, eq38⟩, k38a⟩ := callS' X36 hx hZ (y := (⟨"com/example/huntaway/huntaway/CodePointOrder", "min", "(Ljava/lang/String;Ljava/lang/String;)Ljava/lang/String;"⟩ : MethodName)) hown (hw _ (List.mem_of_getElem? (i := 55) rfl)) (hw _ (List.mem_of_getElem? (i := 56) rfl)) (hw _ (List.mem_of_getElem? (i := 57) rfl)) (hw _ (List.mem_of_getElem? (i := 58) rfl)) (by decide) (backC (W := 1) (rm_minN l Z a0 hw zc fm qF qP qI nm h19 n0 (by omega) S_c hzc S_f hfm S_F S_P S_I A_I f20) hZ (hw _ (List.mem_of_getElem? (i := 58) rfl)) (hw _ (List.mem_of_getElem? (i := 57) rfl)) (by decide) (by decide)) e36 (argsL := [.null, (.ref nm)]) (rest := [(.ref a)]) rfl rfl pd_11 rfl (by rw [hml]; rfl) (hb hby d_prog_9_method_3_code_64) (Nat.le_of_eq rfl) (by decide) (by decide) k37
        have k38 : To p.tables e below S0 (T38.setTop (mkF m 67 #[.val (.ref a), .val (.ref ef), .val (.long pr), .second, .val (.ref nm)] [(.ref nm), (.ref a)])) := k38a
        have N38 := N19.app Nq38
        have e38 : T38.heap = h19 := eq38
        have f39 : Exa Z h19 a "com/example/huntaway/huntaway/Precedence" := (f16.wr W19)
        obtain ⟨T40, h40, X40, e40, W40, st40⟩ := putF X38 hx hZ hown (host := "") (Or.inl (hw _ (List.mem_of_getElem? (i := 49) rfl))) Via.refl e38 f34 f39 (Or.inl (hw _ (List.mem_of_getElem? (i := 50) rfl))) (hw _ (List.mem_of_getElem? (i := 30) rfl)) (ty := (.object "java/lang/String")) (by decide) rfl rfl (g := (mkF m 67 #[.val (.ref a), .val (.ref ef), .val (.long pr), .second, .val (.ref nm)] [(.ref nm), (.ref a)])) rfl rfl (hb hby d_prog_9_method_3_code_67)
        have k40 : To p.tables e below S0 (T40.setTop (mkF m 70 #[.val (.ref a), .val (.ref ef), .val (.long pr), .second, .val (.ref nm)] [])) := fun tt hq => k38 tt (st40 tt hq)
        have z40 : h40.size = h19.size := W40.size
        have F40 := f34.same W40
        have N40 := Fr.snoc X40 N38 (by omega : n0 ≤ a)
        have f41 : Exa Z h40 a "com/example/huntaway/huntaway/Precedence" := (f39.wr W40)
        have f42 : Fld Z h40 a "com/example/huntaway/huntaway/Precedence" "highest" "J" (.long pr) := (((F11.other W15 (Or.inr (slot_ne (Or.inl (hw _ (List.mem_of_getElem? (i := 38) rfl))) (Or.inl (hw _ (List.mem_of_getElem? (i := 50) rfl))) (by decide) (t := .long) (t' := (.object "java/lang/String")) (by decide) (by decide)))).other W19 (Or.inr (slot_ne (Or.inl (hw _ (List.mem_of_getElem? (i := 38) rfl))) (Or.inl (hw _ (List.mem_of_getElem? (i := 52) rfl))) (by decide) (t := .long) (t' := (.object "java/lang/String")) (by decide) (by decide)))).other W40 (Or.inr (slot_ne (Or.inl (hw _ (List.mem_of_getElem? (i := 38) rfl))) (Or.inl (hw _ (List.mem_of_getElem? (i := 50) rfl))) (by decide) (t := .long) (t' := (.object "java/lang/String")) (by decide) (by decide))))
        have f43 : Fld Z h40 a "com/example/huntaway/huntaway/Precedence" "forbidding" "Ljava/lang/String;" .null := (F19.other W40 (Or.inr (slot_ne (Or.inl (hw _ (List.mem_of_getElem? (i := 52) rfl))) (Or.inl (hw _ (List.mem_of_getElem? (i := 50) rfl))) (by decide) (t := (.object "java/lang/String")) (t' := (.object "java/lang/String")) (by decide) (by decide))))
        have hE := e40
        refine retVoid X40 hx hret hlk (hb hby d_prog_9_method_3_code_70) k40 ?_ (by decide) (by decide)
        try rw [hE]
        exact ⟨rfl, N40, (((((Keep.refl h0 [a]).wr W11 (Or.inl (by simp))).wr W15 (Or.inl (by simp))).wr W19 (Or.inl (by simp))).wr W40 (Or.inl (by simp))), f41, _, _, by rw [← own_hi2 hc6_4 hc16_9]; exact f42, F40, f43, rfl, rfl, by simp⟩
    · -- pc 16, holds not
      have k44 : To p.tables e below S0 (T7.setTop (mkF m 35 #[.val (.ref a), .val (.ref ef), .val (.long pr), .second, .val (.ref nm)] [(.ref ef)])) := fun tt hq => k8 tt (by
        show Steps _ _ _ (T7.setTop (mkF m 16 #[.val (.ref a), .val (.ref ef), .val (.long pr), .second, .val (.ref nm)] [(.int (lcmpW pr hi))])) _
        refine XS.ifYes X7.here hx rfl (pc0 := 16) (pc' := 34) rfl (hb hby d_prog_9_method_3_code_16) rfl ((if0 _ _).trans (flt hc16_9).2.2.2) (by decide) (by decide) ?_
        show Steps _ _ _ (T7.setTop (mkF m 34 #[.val (.ref a), .val (.ref ef), .val (.long pr), .second, .val (.ref nm)] [])) _
        refine XS.aloadN X7.here hx rfl (hb hby d_prog_9_method_3_code_34) rfl rfl ?_
        show Steps _ _ _ (T7.setTop (mkF m 35 #[.val (.ref a), .val (.ref ef), .val (.long pr), .second, .val (.ref nm)] [(.ref ef)])) _
        exact hq)
      obtain ⟨T45, X45, e45, st45⟩ := getS2 X7 hx hZ hown (host := "") (Or.inl (hw _ (List.mem_of_getElem? (i := 53) rfl))) Via.refl e7 (staOld S_F O0) (g := (mkF m 35 #[.val (.ref a), .val (.ref ef), .val (.long pr), .second, .val (.ref nm)] [(.ref ef)])) rfl (hb hby d_prog_9_method_3_code_35)
      have k45 : To p.tables e below S0 (T45.setTop (mkF m 38 #[.val (.ref a), .val (.ref ef), .val (.long pr), .second, .val (.ref nm)] [(.ref qF), (.ref ef)])) := fun tt hq => k44 tt (st45 tt hq)
      by_cases hc38_46 : ef = qF
      · -- pc 38, holds
        have k47 : To p.tables e below S0 (T45.setTop (mkF m 43 #[.val (.ref a), .val (.ref ef), .val (.long pr), .second, .val (.ref nm)] [(.ref a), (.ref a)])) := fun tt hq => k45 tt (by
          show Steps _ _ _ (T45.setTop (mkF m 38 #[.val (.ref a), .val (.ref ef), .val (.long pr), .second, .val (.ref nm)] [(.ref qF), (.ref ef)])) _
          refine Jvm.RoadKit.acmp (g := (mkF m 38 #[.val (.ref a), .val (.ref ef), .val (.long pr), .second, .val (.ref nm)] [(.ref qF), (.ref ef)])) X45 hx rfl rfl rfl (pc0 := 38) (pc' := 41) (same := true) rfl (hb hby d_prog_9_method_3_code_38) rfl (decide_eq_true (congrArg Value.ref hc38_46)) (by decide) (by decide) ?_
          show Steps _ _ _ (T45.setTop (mkF m 41 #[.val (.ref a), .val (.ref ef), .val (.long pr), .second, .val (.ref nm)] [])) _
          refine XS.aloadN X45.here hx rfl (hb hby d_prog_9_method_3_code_41) rfl rfl ?_
          show Steps _ _ _ (T45.setTop (mkF m 42 #[.val (.ref a), .val (.ref ef), .val (.long pr), .second, .val (.ref nm)] [(.ref a)])) _
          refine XS.aloadN X45.here hx rfl (hb hby d_prog_9_method_3_code_42) rfl rfl ?_
          show Steps _ _ _ (T45.setTop (mkF m 43 #[.val (.ref a), .val (.ref ef), .val (.long pr), .second, .val (.ref nm)] [(.ref a), (.ref a)])) _
          exact hq)
        obtain ⟨T48, X48, e48, st48⟩ := getF X45 hx hZ hown (host := "") (Or.inl (hw _ (List.mem_of_getElem? (i := 51) rfl))) Via.refl e45 P3 (g := (mkF m 43 #[.val (.ref a), .val (.ref ef), .val (.long pr), .second, .val (.ref nm)] [(.ref a), (.ref a)])) rfl rfl (hb hby d_prog_9_method_3_code_43)
        have k48 : To p.tables e below S0 (T48.setTop (mkF m 46 #[.val (.ref a), .val (.ref ef), .val (.long pr), .second, .val (.ref nm)] [(.ref o1), (.ref a)])) := fun tt hq => k47 tt (st48 tt hq)
        have k49 : To p.tables e below S0 (T48.setTop (mkF m 48 #[.val (.ref a), .val (.ref ef), .val (.long pr), .second, .val (.ref nm)] [(.ref nm), (.ref o1), (.ref a)])) := fun tt hq => k48 tt (by
          show Steps _ _ _ (T48.setTop (mkF m 46 #[.val (.ref a), .val (.ref ef), .val (.long pr), .second, .val (.ref nm)] [(.ref o1), (.ref a)])) _
          refine XS.aload X48.here hx rfl (hb hby d_prog_9_method_3_code_46) rfl rfl ?_
          show Steps _ _ _ (T48.setTop (mkF m 48 #[.val (.ref a), .val (.ref ef), .val (.long pr), .second, .val (.ref nm)] [(.ref nm), (.ref o1), (.ref a)])) _
          exact hq)
        obtain ⟨_, T50, L50, X50, ⟨x50, rfl, Nq50, eq50, hx50⟩, k50a⟩ := callS' X48 hx hZ (y := (⟨"com/example/huntaway/huntaway/CodePointOrder", "min", "(Ljava/lang/String;Ljava/lang/String;)Ljava/lang/String;"⟩ : MethodName)) hown (hw _ (List.mem_of_getElem? (i := 55) rfl)) (hw _ (List.mem_of_getElem? (i := 56) rfl)) (hw _ (List.mem_of_getElem? (i := 57) rfl)) (hw _ (List.mem_of_getElem? (i := 58) rfl)) (by decide) (backC (W := 1) (rm_minR l Z a0 hw zc fm qF qP qI o1 to ko co nm tn kn cn h0 n0 (by omega) S_c hzc S_f hfm S_F S_P S_I A_I O0 go_0 go_1 go_2 go_3 gn_0 gn_1 gn_2 gn_3) hZ (hw _ (List.mem_of_getElem? (i := 58) rfl)) (hw _ (List.mem_of_getElem? (i := 57) rfl)) (by decide) (by decide)) e48 (argsL := [(.ref o1), (.ref nm)]) (rest := [(.ref a)]) rfl rfl pd_11 rfl (by rw [hml]; rfl) (hb hby d_prog_9_method_3_code_48) (Nat.le_of_eq rfl) (by decide) (by decide) k49
        have k50 : To p.tables e below S0 (T50.setTop (mkF m 51 #[.val (.ref a), .val (.ref ef), .val (.long pr), .second, .val (.ref nm)] [(.ref x50), (.ref a)])) := k50a
        have N50 := N0.app Nq50
        have e50 : T50.heap = h0 := eq50
        obtain ⟨T51, h51, X51, e51, W51, st51⟩ := putF X50 hx hZ hown (host := "") (Or.inl (hw _ (List.mem_of_getElem? (i := 51) rfl))) Via.refl e50 P3 P0 (Or.inl (hw _ (List.mem_of_getElem? (i := 52) rfl))) (hw _ (List.mem_of_getElem? (i := 30) rfl)) (ty := (.object "java/lang/String")) (by decide) rfl rfl (g := (mkF m 51 #[.val (.ref a), .val (.ref ef), .val (.long pr), .second, .val (.ref nm)] [(.ref x50), (.ref a)])) rfl rfl (hb hby d_prog_9_method_3_code_51)
        have k51 : To p.tables e below S0 (T51.setTop (mkF m 54 #[.val (.ref a), .val (.ref ef), .val (.long pr), .second, .val (.ref nm)] [])) := fun tt hq => k50 tt (st51 tt hq)
        have z51 : h51.size = h0.size := W51.size
        have F51 := P3.same W51
        have N51 := Fr.snoc X51 N50 (by omega : n0 ≤ a)
        have k52 : To p.tables e below S0 (T51.setTop (mkF m 70 #[.val (.ref a), .val (.ref ef), .val (.long pr), .second, .val (.ref nm)] [])) := fun tt hq => k51 tt (by
          show Steps _ _ _ (T51.setTop (mkF m 54 #[.val (.ref a), .val (.ref ef), .val (.long pr), .second, .val (.ref nm)] [])) _
          refine XS.goto X51.here hx rfl (pc0 := 54) (pc' := 70) rfl (hb hby d_prog_9_method_3_code_54) (by decide) (by decide) ?_
          show Steps _ _ _ (T51.setTop (mkF m 70 #[.val (.ref a), .val (.ref ef), .val (.long pr), .second, .val (.ref nm)] [])) _
          exact hq)
        have f53 : Exa Z h51 a "com/example/huntaway/huntaway/Precedence" := (P0.wr W51)
        have f54 : Fld Z h51 a "com/example/huntaway/huntaway/Precedence" "highest" "J" (.long hi) := (P1.other W51 (Or.inr (slot_ne (Or.inl (hw _ (List.mem_of_getElem? (i := 38) rfl))) (Or.inl (hw _ (List.mem_of_getElem? (i := 52) rfl))) (by decide) (t := .long) (t' := (.object "java/lang/String")) (by decide) (by decide))))
        have f55 : Fld Z h51 a "com/example/huntaway/huntaway/Precedence" "permitting" "Ljava/lang/String;" .null := (P2.other W51 (Or.inr (slot_ne (Or.inl (hw _ (List.mem_of_getElem? (i := 50) rfl))) (Or.inl (hw _ (List.mem_of_getElem? (i := 52) rfl))) (by decide) (t := (.object "java/lang/String")) (t' := (.object "java/lang/String")) (by decide) (by decide))))
        have hE := e51
        refine retVoid X51 hx hret hlk (hb hby d_prog_9_method_3_code_70) k52 ?_ (by decide) (by decide)
        try rw [hE]
        exact ⟨rfl, N51, ((Keep.refl h0 [a]).wr W51 (Or.inl (by simp))), f53, _, _, by rw [← own_hi2' hc6_4 hc16_9]; exact f54, f55, F51, rfl, rfl, by simp⟩
      · -- pc 38, holds not
        have k56 : To p.tables e below S0 (T45.setTop (mkF m 59 #[.val (.ref a), .val (.ref ef), .val (.long pr), .second, .val (.ref nm)] [(.ref a), (.ref a)])) := fun tt hq => k45 tt (by
          show Steps _ _ _ (T45.setTop (mkF m 38 #[.val (.ref a), .val (.ref ef), .val (.long pr), .second, .val (.ref nm)] [(.ref qF), (.ref ef)])) _
          refine Jvm.RoadKit.acmp (g := (mkF m 38 #[.val (.ref a), .val (.ref ef), .val (.long pr), .second, .val (.ref nm)] [(.ref qF), (.ref ef)])) X45 hx rfl rfl rfl (pc0 := 38) (pc' := 57) (same := false) rfl (hb hby d_prog_9_method_3_code_38) rfl (decide_eq_false fun q => hc38_46 (Value.ref.inj q)) (by decide) (by decide) ?_
          show Steps _ _ _ (T45.setTop (mkF m 57 #[.val (.ref a), .val (.ref ef), .val (.long pr), .second, .val (.ref nm)] [])) _
          refine XS.aloadN X45.here hx rfl (hb hby d_prog_9_method_3_code_57) rfl rfl ?_
          show Steps _ _ _ (T45.setTop (mkF m 58 #[.val (.ref a), .val (.ref ef), .val (.long pr), .second, .val (.ref nm)] [(.ref a)])) _
          refine XS.aloadN X45.here hx rfl (hb hby d_prog_9_method_3_code_58) rfl rfl ?_
          show Steps _ _ _ (T45.setTop (mkF m 59 #[.val (.ref a), .val (.ref ef), .val (.long pr), .second, .val (.ref nm)] [(.ref a), (.ref a)])) _
          exact hq)
        obtain ⟨T57, X57, e57, st57⟩ := getF X45 hx hZ hown (host := "") (Or.inl (hw _ (List.mem_of_getElem? (i := 49) rfl))) Via.refl e45 P2 (g := (mkF m 59 #[.val (.ref a), .val (.ref ef), .val (.long pr), .second, .val (.ref nm)] [(.ref a), (.ref a)])) rfl rfl (hb hby d_prog_9_method_3_code_59)
        have k57 : To p.tables e below S0 (T57.setTop (mkF m 62 #[.val (.ref a), .val (.ref ef), .val (.long pr), .second, .val (.ref nm)] [.null, (.ref a)])) := fun tt hq => k56 tt (st57 tt hq)
        have k58 : To p.tables e below S0 (T57.setTop (mkF m 64 #[.val (.ref a), .val (.ref ef), .val (.long pr), .second, .val (.ref nm)] [(.ref nm), .null, (.ref a)])) := fun tt hq => k57 tt (by
          show Steps _ _ _ (T57.setTop (mkF m 62 #[.val (.ref a), .val (.ref ef), .val (.long pr), .second, .val (.ref nm)] [.null, (.ref a)])) _
          refine XS.aload X57.here hx rfl (hb hby d_prog_9_method_3_code_62) rfl rfl ?_
          show Steps _ _ _ (T57.setTop (mkF m 64 #[.val (.ref a), .val (.ref ef), .val (.long pr), .second, .val (.ref nm)] [(.ref nm), .null, (.ref a)])) _
          exact hq)
        obtain ⟨_, T59, L59, X59, ⟨rfl, Nq59, eq59⟩, k59a⟩ := callS' X57 hx hZ (y := (⟨"com/example/huntaway/huntaway/CodePointOrder", "min", "(Ljava/lang/String;Ljava/lang/String;)Ljava/lang/String;"⟩ : MethodName)) hown (hw _ (List.mem_of_getElem? (i := 55) rfl)) (hw _ (List.mem_of_getElem? (i := 56) rfl)) (hw _ (List.mem_of_getElem? (i := 57) rfl)) (hw _ (List.mem_of_getElem? (i := 58) rfl)) (by decide) (backC (W := 1) (rm_minN l Z a0 hw zc fm qF qP qI nm h0 n0 (by omega) S_c hzc S_f hfm S_F S_P S_I A_I O0) hZ (hw _ (List.mem_of_getElem? (i := 58) rfl)) (hw _ (List.mem_of_getElem? (i := 57) rfl)) (by decide) (by decide)) e57 (argsL := [.null, (.ref nm)]) (rest := [(.ref a)]) rfl rfl pd_11 rfl (by rw [hml]; rfl) (hb hby d_prog_9_method_3_code_64) (Nat.le_of_eq rfl) (by decide) (by decide) k58
        have k59 : To p.tables e below S0 (T59.setTop (mkF m 67 #[.val (.ref a), .val (.ref ef), .val (.long pr), .second, .val (.ref nm)] [(.ref nm), (.ref a)])) := k59a
        have N59 := N0.app Nq59
        have e59 : T59.heap = h0 := eq59
        obtain ⟨T60, h60, X60, e60, W60, st60⟩ := putF X59 hx hZ hown (host := "") (Or.inl (hw _ (List.mem_of_getElem? (i := 49) rfl))) Via.refl e59 P2 P0 (Or.inl (hw _ (List.mem_of_getElem? (i := 50) rfl))) (hw _ (List.mem_of_getElem? (i := 30) rfl)) (ty := (.object "java/lang/String")) (by decide) rfl rfl (g := (mkF m 67 #[.val (.ref a), .val (.ref ef), .val (.long pr), .second, .val (.ref nm)] [(.ref nm), (.ref a)])) rfl rfl (hb hby d_prog_9_method_3_code_67)
        have k60 : To p.tables e below S0 (T60.setTop (mkF m 70 #[.val (.ref a), .val (.ref ef), .val (.long pr), .second, .val (.ref nm)] [])) := fun tt hq => k59 tt (st60 tt hq)
        have z60 : h60.size = h0.size := W60.size
        have F60 := P2.same W60
        have N60 := Fr.snoc X60 N59 (by omega : n0 ≤ a)
        have f61 : Exa Z h60 a "com/example/huntaway/huntaway/Precedence" := (P0.wr W60)
        have f62 : Fld Z h60 a "com/example/huntaway/huntaway/Precedence" "highest" "J" (.long hi) := (P1.other W60 (Or.inr (slot_ne (Or.inl (hw _ (List.mem_of_getElem? (i := 38) rfl))) (Or.inl (hw _ (List.mem_of_getElem? (i := 50) rfl))) (by decide) (t := .long) (t' := (.object "java/lang/String")) (by decide) (by decide))))
        have f63 : Fld Z h60 a "com/example/huntaway/huntaway/Precedence" "forbidding" "Ljava/lang/String;" (.ref o1) := (P3.other W60 (Or.inr (slot_ne (Or.inl (hw _ (List.mem_of_getElem? (i := 52) rfl))) (Or.inl (hw _ (List.mem_of_getElem? (i := 50) rfl))) (by decide) (t := (.object "java/lang/String")) (t' := (.object "java/lang/String")) (by decide) (by decide))))
        have hE := e60
        refine retVoid X60 hx hret hlk (hb hby d_prog_9_method_3_code_70) k60 ?_ (by decide) (by decide)
        try rw [hE]
        exact ⟨rfl, N60, ((Keep.refl h0 [a]).wr W60 (Or.inl (by simp))), f61, _, _, by rw [← own_hi2' hc6_4 hc16_9]; exact f62, F60, f63, rfl, rfl, by simp⟩
set_option maxRecDepth 65536 in
set_option maxHeartbeats 40000000 in
theorem rm_offRN (l : Launch) (Z : State) (a0 : Array Value) (hw : ∀ d ∈ tables_1, d.before a0 Z = true) (zc : Int32) (fm : Value) (qF : Addr) (qP : Addr) (qI : Addr) (a : Addr) (ef : Addr) (pr : Int64) (hi : Int64) (nm : Addr) (tn : Addr) (kn : ClassId) (cn : Int32) (o1 : Addr) (to : Addr) (ko : ClassId) (co : Int32) (h0 : Heap) (n0 : Nat) (hn0 : n0 ≤ h0.size) (S_c : Sta Z Z.heap "java/lang/String" "COMPACT_STRINGS" "Z" (.int zc)) (hzc : ¬ zc = (0 : Int32)) (S_f : Sta Z Z.heap "jdk/internal/util/Preconditions" "SIOOBE_FORMATTER" "Ljava/util/function/BiFunction;" fm) (hfm : fm.isRef = true) (S_F : Sta Z Z.heap "com/example/huntaway/huntaway/Effect" "FORBID" "Lcom/example/huntaway/huntaway/Effect;" (.ref qF)) (S_P : Sta Z Z.heap "com/example/huntaway/huntaway/Effect" "PERMIT" "Lcom/example/huntaway/huntaway/Effect;" (.ref qP)) (S_I : Sta Z Z.heap "com/example/huntaway/huntaway/CodePointOrder" "INSTANCE" "Lcom/example/huntaway/huntaway/CodePointOrder;" (.ref qI)) (A_I : Exa Z Z.heap qI "com/example/huntaway/huntaway/CodePointOrder") (O0 : Old Z n0 h0) (P0 : Exa Z h0 a "com/example/huntaway/huntaway/Precedence") (P1 : Fld Z h0 a "com/example/huntaway/huntaway/Precedence" "highest" "J" (.long hi)) (P2 : Fld Z h0 a "com/example/huntaway/huntaway/Precedence" "permitting" "Ljava/lang/String;" (.ref o1)) (P3 : Fld Z h0 a "com/example/huntaway/huntaway/Precedence" "forbidding" "Ljava/lang/String;" .null) (gn_0 : Exa Z h0 nm "java/lang/String") (gn_1 : Fld Z h0 nm "java/lang/String" "value" "[B" (.ref tn)) (gn_2 : Fld Z h0 nm "java/lang/String" "coder" "B" (.int (0 : Int32))) (gn_3 : Arv Z h0 tn kn .byte (1 : Int32) [(.int cn)] (.int 0)) (go_0 : Exa Z h0 o1 "java/lang/String") (go_1 : Fld Z h0 o1 "java/lang/String" "value" "[B" (.ref to)) (go_2 : Fld Z h0 o1 "java/lang/String" "coder" "B" (.int (0 : Int32))) (go_3 : Arv Z h0 to ko .byte (1 : Int32) [(.int co)] (.int 0)) (nd2 : ¬ (@Eq Nat o1 a)) (nd4 : ¬ (@Eq Nat to a)) (nd1 : ¬ (@Eq Nat nm a)) (nd3 : ¬ (@Eq Nat tn a)) (ga : n0 ≤ a) :
    Con l Z (⟨"com/example/huntaway/huntaway/Precedence", "offer", "(Lcom/example/huntaway/huntaway/Effect;JLjava/lang/String;)V"⟩ : MethodName) prog_9_method_3_code 5 none [] ({ frames := 5, cells := 0, slots := 0, locals := 73 } : Room) #[(.ref a), (.ref ef), (.long pr), (.ref nm)] h0 (fun v h L => v = none ∧ Fr n0 L ∧ Keep h0 h [a] ∧ Exa Z h a "com/example/huntaway/huntaway/Precedence" ∧ ∃ u1 u2 : Value, Fld Z h a "com/example/huntaway/huntaway/Precedence" "highest" "J" (.long (if pr < hi then hi else pr)) ∧ Fld Z h a "com/example/huntaway/huntaway/Precedence" "permitting" "Ljava/lang/String;" u1 ∧ Fld Z h a "com/example/huntaway/huntaway/Precedence" "forbidding" "Ljava/lang/String;" u2 ∧ u1.isRef = true ∧ u2.isRef = true ∧ ¬ (u1 = .null ∧ u2 = .null)) := by
  refine enter (Ls := #[.val (.ref a), .val (.ref ef), .val (.long pr), .second, .val (.ref nm)]) (plainFor_of_name pn_6) (fun m => by exact entry_eq rfl) ?_
  intro p e s m below meth cd_ s₁ S0 hx hby hml hret hlk hnm hown hZ X0 e0 k0
  have N0 := Fr.nil n0
  have k1 : To p.tables e below S0 (s₁.setTop (mkF m 2 #[.val (.ref a), .val (.ref ef), .val (.long pr), .second, .val (.ref nm)] [(.ref a), (.long pr)])) := fun tt hq => k0 tt (by
    show Steps _ _ _ (s₁.setTop (mkF m 0 #[.val (.ref a), .val (.ref ef), .val (.long pr), .second, .val (.ref nm)] [])) _
    refine XS.lloadN X0.here hx rfl (hb hby d_prog_9_method_3_code_0) rfl ?_
    show Steps _ _ _ (s₁.setTop (mkF m 1 #[.val (.ref a), .val (.ref ef), .val (.long pr), .second, .val (.ref nm)] [(.long pr)])) _
    refine XS.aloadN X0.here hx rfl (hb hby d_prog_9_method_3_code_1) rfl rfl ?_
    show Steps _ _ _ (s₁.setTop (mkF m 2 #[.val (.ref a), .val (.ref ef), .val (.long pr), .second, .val (.ref nm)] [(.ref a), (.long pr)])) _
    exact hq)
  obtain ⟨T2, X2, e2, st2⟩ := getF X0 hx hZ hown (host := "") (Or.inl (hw _ (List.mem_of_getElem? (i := 37) rfl))) Via.refl e0 P1 (g := (mkF m 2 #[.val (.ref a), .val (.ref ef), .val (.long pr), .second, .val (.ref nm)] [(.ref a), (.long pr)])) rfl rfl (hb hby d_prog_9_method_3_code_2)
  have k2 : To p.tables e below S0 (T2.setTop (mkF m 5 #[.val (.ref a), .val (.ref ef), .val (.long pr), .second, .val (.ref nm)] [(.long hi), (.long pr)])) := fun tt hq => k1 tt (st2 tt hq)
  have k3 : To p.tables e below S0 (T2.setTop (mkF m 6 #[.val (.ref a), .val (.ref ef), .val (.long pr), .second, .val (.ref nm)] [(.int (lcmpW pr hi))])) := fun tt hq => k2 tt (by
    show Steps _ _ _ (T2.setTop (mkF m 5 #[.val (.ref a), .val (.ref ef), .val (.long pr), .second, .val (.ref nm)] [(.long hi), (.long pr)])) _
    refine XS.lcmp X2.here hx rfl (hb hby d_prog_9_method_3_code_5) rfl ?_
    show Steps _ _ _ (T2.setTop (mkF m 6 #[.val (.ref a), .val (.ref ef), .val (.long pr), .second, .val (.ref nm)] [(.int (lcmpW pr hi))])) _
    exact hq)
  by_cases hc6_4 : (lcmpW pr hi) < (0 : Int32)
  · -- pc 6, holds
    have k5 : To p.tables e below S0 (T2.setTop (mkF m 9 #[.val (.ref a), .val (.ref ef), .val (.long pr), .second, .val (.ref nm)] [])) := fun tt hq => k3 tt (by
      show Steps _ _ _ (T2.setTop (mkF m 6 #[.val (.ref a), .val (.ref ef), .val (.long pr), .second, .val (.ref nm)] [(.int (lcmpW pr hi))])) _
      refine XS.ifNo X2.here hx rfl (hb hby d_prog_9_method_3_code_6) rfl ((if0 _ _).trans (tlt hc6_4).2.1) ?_
      show Steps _ _ _ (T2.setTop (mkF m 9 #[.val (.ref a), .val (.ref ef), .val (.long pr), .second, .val (.ref nm)] [])) _
      exact hq)
    have hE := e2
    refine retVoid X2 hx hret hlk (hb hby d_prog_9_method_3_code_9) k5 ?_ (by decide) (by decide)
    try rw [hE]
    exact ⟨rfl, N0, (Keep.refl h0 [a]), P0, _, _, by rw [← own_hi1 hc6_4]; exact P1, P2, P3, rfl, rfl, by simp⟩
  · -- pc 6, holds not
    have k6 : To p.tables e below S0 (T2.setTop (mkF m 12 #[.val (.ref a), .val (.ref ef), .val (.long pr), .second, .val (.ref nm)] [(.ref a), (.long pr)])) := fun tt hq => k3 tt (by
      show Steps _ _ _ (T2.setTop (mkF m 6 #[.val (.ref a), .val (.ref ef), .val (.long pr), .second, .val (.ref nm)] [(.int (lcmpW pr hi))])) _
      refine XS.ifYes X2.here hx rfl (pc0 := 6) (pc' := 10) rfl (hb hby d_prog_9_method_3_code_6) rfl ((if0 _ _).trans (flt hc6_4).2.1) (by decide) (by decide) ?_
      show Steps _ _ _ (T2.setTop (mkF m 10 #[.val (.ref a), .val (.ref ef), .val (.long pr), .second, .val (.ref nm)] [])) _
      refine XS.lloadN X2.here hx rfl (hb hby d_prog_9_method_3_code_10) rfl ?_
      show Steps _ _ _ (T2.setTop (mkF m 11 #[.val (.ref a), .val (.ref ef), .val (.long pr), .second, .val (.ref nm)] [(.long pr)])) _
      refine XS.aloadN X2.here hx rfl (hb hby d_prog_9_method_3_code_11) rfl rfl ?_
      show Steps _ _ _ (T2.setTop (mkF m 12 #[.val (.ref a), .val (.ref ef), .val (.long pr), .second, .val (.ref nm)] [(.ref a), (.long pr)])) _
      exact hq)
    obtain ⟨T7, X7, e7, st7⟩ := getF X2 hx hZ hown (host := "") (Or.inl (hw _ (List.mem_of_getElem? (i := 37) rfl))) Via.refl e2 P1 (g := (mkF m 12 #[.val (.ref a), .val (.ref ef), .val (.long pr), .second, .val (.ref nm)] [(.ref a), (.long pr)])) rfl rfl (hb hby d_prog_9_method_3_code_12)
    have k7 : To p.tables e below S0 (T7.setTop (mkF m 15 #[.val (.ref a), .val (.ref ef), .val (.long pr), .second, .val (.ref nm)] [(.long hi), (.long pr)])) := fun tt hq => k6 tt (st7 tt hq)
    have k8 : To p.tables e below S0 (T7.setTop (mkF m 16 #[.val (.ref a), .val (.ref ef), .val (.long pr), .second, .val (.ref nm)] [(.int (lcmpW pr hi))])) := fun tt hq => k7 tt (by
      show Steps _ _ _ (T7.setTop (mkF m 15 #[.val (.ref a), .val (.ref ef), .val (.long pr), .second, .val (.ref nm)] [(.long hi), (.long pr)])) _
      refine XS.lcmp X7.here hx rfl (hb hby d_prog_9_method_3_code_15) rfl ?_
      show Steps _ _ _ (T7.setTop (mkF m 16 #[.val (.ref a), .val (.ref ef), .val (.long pr), .second, .val (.ref nm)] [(.int (lcmpW pr hi))])) _
      exact hq)
    by_cases hc16_9 : (0 : Int32) < (lcmpW pr hi)
    · -- pc 16, holds
      have k10 : To p.tables e below S0 (T7.setTop (mkF m 21 #[.val (.ref a), .val (.ref ef), .val (.long pr), .second, .val (.ref nm)] [(.long pr), (.ref a)])) := fun tt hq => k8 tt (by
        show Steps _ _ _ (T7.setTop (mkF m 16 #[.val (.ref a), .val (.ref ef), .val (.long pr), .second, .val (.ref nm)] [(.int (lcmpW pr hi))])) _
        refine XS.ifNo X7.here hx rfl (hb hby d_prog_9_method_3_code_16) rfl ((if0 _ _).trans (tlt hc16_9).2.2.2) ?_
        show Steps _ _ _ (T7.setTop (mkF m 19 #[.val (.ref a), .val (.ref ef), .val (.long pr), .second, .val (.ref nm)] [])) _
        refine XS.aloadN X7.here hx rfl (hb hby d_prog_9_method_3_code_19) rfl rfl ?_
        show Steps _ _ _ (T7.setTop (mkF m 20 #[.val (.ref a), .val (.ref ef), .val (.long pr), .second, .val (.ref nm)] [(.ref a)])) _
        refine XS.lloadN X7.here hx rfl (hb hby d_prog_9_method_3_code_20) rfl ?_
        show Steps _ _ _ (T7.setTop (mkF m 21 #[.val (.ref a), .val (.ref ef), .val (.long pr), .second, .val (.ref nm)] [(.long pr), (.ref a)])) _
        exact hq)
      obtain ⟨T11, h11, X11, e11, W11, st11⟩ := putF X7 hx hZ hown (host := "") (Or.inl (hw _ (List.mem_of_getElem? (i := 37) rfl))) Via.refl e7 P1 P0 (Or.inl (hw _ (List.mem_of_getElem? (i := 38) rfl))) (hw _ (List.mem_of_getElem? (i := 30) rfl)) (ty := .long) (by decide) rfl rfl (g := (mkF m 21 #[.val (.ref a), .val (.ref ef), .val (.long pr), .second, .val (.ref nm)] [(.long pr), (.ref a)])) rfl rfl (hb hby d_prog_9_method_3_code_21)
      have k11 : To p.tables e below S0 (T11.setTop (mkF m 24 #[.val (.ref a), .val (.ref ef), .val (.long pr), .second, .val (.ref nm)] [])) := fun tt hq => k10 tt (st11 tt hq)
      have z11 : h11.size = h0.size := W11.size
      have F11 := P1.same W11
      have N11 := Fr.snoc X11 N0 (by omega : n0 ≤ a)
      have f12 : Exa Z h11 a "com/example/huntaway/huntaway/Precedence" := (P0.wr W11)
      have f13 : Fld Z h11 a "com/example/huntaway/huntaway/Precedence" "permitting" "Ljava/lang/String;" (.ref o1) := (P2.other W11 (Or.inr (slot_ne (Or.inl (hw _ (List.mem_of_getElem? (i := 50) rfl))) (Or.inl (hw _ (List.mem_of_getElem? (i := 38) rfl))) (by decide) (t := (.object "java/lang/String")) (t' := .long) (by decide) (by decide))))
      have k14 : To p.tables e below S0 (T11.setTop (mkF m 26 #[.val (.ref a), .val (.ref ef), .val (.long pr), .second, .val (.ref nm)] [.null, (.ref a)])) := fun tt hq => k11 tt (by
        show Steps _ _ _ (T11.setTop (mkF m 24 #[.val (.ref a), .val (.ref ef), .val (.long pr), .second, .val (.ref nm)] [])) _
        refine XS.aloadN X11.here hx rfl (hb hby d_prog_9_method_3_code_24) rfl rfl ?_
        show Steps _ _ _ (T11.setTop (mkF m 25 #[.val (.ref a), .val (.ref ef), .val (.long pr), .second, .val (.ref nm)] [(.ref a)])) _
        refine XS.aconstNull X11.here hx rfl (hb hby d_prog_9_method_3_code_25) ?_
        show Steps _ _ _ (T11.setTop (mkF m 26 #[.val (.ref a), .val (.ref ef), .val (.long pr), .second, .val (.ref nm)] [.null, (.ref a)])) _
        exact hq)
      obtain ⟨T15, h15, X15, e15, W15, st15⟩ := putF X11 hx hZ hown (host := "") (Or.inl (hw _ (List.mem_of_getElem? (i := 49) rfl))) Via.refl e11 f13 f12 (Or.inl (hw _ (List.mem_of_getElem? (i := 50) rfl))) (hw _ (List.mem_of_getElem? (i := 30) rfl)) (ty := (.object "java/lang/String")) (by decide) rfl rfl (g := (mkF m 26 #[.val (.ref a), .val (.ref ef), .val (.long pr), .second, .val (.ref nm)] [.null, (.ref a)])) rfl rfl (hb hby d_prog_9_method_3_code_26)
      have k15 : To p.tables e below S0 (T15.setTop (mkF m 29 #[.val (.ref a), .val (.ref ef), .val (.long pr), .second, .val (.ref nm)] [])) := fun tt hq => k14 tt (st15 tt hq)
      have z15 : h15.size = h11.size := W15.size
      have F15 := f13.same W15
      have N15 := Fr.snoc X15 N11 (by omega : n0 ≤ a)
      have f16 : Exa Z h15 a "com/example/huntaway/huntaway/Precedence" := (f12.wr W15)
      have f17 : Fld Z h15 a "com/example/huntaway/huntaway/Precedence" "forbidding" "Ljava/lang/String;" .null := ((P3.other W11 (Or.inr (slot_ne (Or.inl (hw _ (List.mem_of_getElem? (i := 52) rfl))) (Or.inl (hw _ (List.mem_of_getElem? (i := 38) rfl))) (by decide) (t := (.object "java/lang/String")) (t' := .long) (by decide) (by decide)))).other W15 (Or.inr (slot_ne (Or.inl (hw _ (List.mem_of_getElem? (i := 52) rfl))) (Or.inl (hw _ (List.mem_of_getElem? (i := 50) rfl))) (by decide) (t := (.object "java/lang/String")) (t' := (.object "java/lang/String")) (by decide) (by decide))))
      have k18 : To p.tables e below S0 (T15.setTop (mkF m 31 #[.val (.ref a), .val (.ref ef), .val (.long pr), .second, .val (.ref nm)] [.null, (.ref a)])) := fun tt hq => k15 tt (by
        show Steps _ _ _ (T15.setTop (mkF m 29 #[.val (.ref a), .val (.ref ef), .val (.long pr), .second, .val (.ref nm)] [])) _
        refine XS.aloadN X15.here hx rfl (hb hby d_prog_9_method_3_code_29) rfl rfl ?_
        show Steps _ _ _ (T15.setTop (mkF m 30 #[.val (.ref a), .val (.ref ef), .val (.long pr), .second, .val (.ref nm)] [(.ref a)])) _
        refine XS.aconstNull X15.here hx rfl (hb hby d_prog_9_method_3_code_30) ?_
        show Steps _ _ _ (T15.setTop (mkF m 31 #[.val (.ref a), .val (.ref ef), .val (.long pr), .second, .val (.ref nm)] [.null, (.ref a)])) _
        exact hq)
      obtain ⟨T19, h19, X19, e19, W19, st19⟩ := putF X15 hx hZ hown (host := "") (Or.inl (hw _ (List.mem_of_getElem? (i := 51) rfl))) Via.refl e15 f17 f16 (Or.inl (hw _ (List.mem_of_getElem? (i := 52) rfl))) (hw _ (List.mem_of_getElem? (i := 30) rfl)) (ty := (.object "java/lang/String")) (by decide) rfl rfl (g := (mkF m 31 #[.val (.ref a), .val (.ref ef), .val (.long pr), .second, .val (.ref nm)] [.null, (.ref a)])) rfl rfl (hb hby d_prog_9_method_3_code_31)
      have k19 : To p.tables e below S0 (T19.setTop (mkF m 34 #[.val (.ref a), .val (.ref ef), .val (.long pr), .second, .val (.ref nm)] [])) := fun tt hq => k18 tt (st19 tt hq)
      have z19 : h19.size = h15.size := W19.size
      have F19 := f17.same W19
      have N19 := Fr.snoc X19 N15 (by omega : n0 ≤ a)
      have f20 : Old Z n0 h19 := (((O0.wr W11 (by omega)).wr W15 (by omega)).wr W19 (by omega))
      have k21 : To p.tables e below S0 (T19.setTop (mkF m 35 #[.val (.ref a), .val (.ref ef), .val (.long pr), .second, .val (.ref nm)] [(.ref ef)])) := fun tt hq => k19 tt (by
        show Steps _ _ _ (T19.setTop (mkF m 34 #[.val (.ref a), .val (.ref ef), .val (.long pr), .second, .val (.ref nm)] [])) _
        refine XS.aloadN X19.here hx rfl (hb hby d_prog_9_method_3_code_34) rfl rfl ?_
        show Steps _ _ _ (T19.setTop (mkF m 35 #[.val (.ref a), .val (.ref ef), .val (.long pr), .second, .val (.ref nm)] [(.ref ef)])) _
        exact hq)
      obtain ⟨T22, X22, e22, st22⟩ := getS2 X19 hx hZ hown (host := "") (Or.inl (hw _ (List.mem_of_getElem? (i := 53) rfl))) Via.refl e19 (staOld S_F f20) (g := (mkF m 35 #[.val (.ref a), .val (.ref ef), .val (.long pr), .second, .val (.ref nm)] [(.ref ef)])) rfl (hb hby d_prog_9_method_3_code_35)
      have k22 : To p.tables e below S0 (T22.setTop (mkF m 38 #[.val (.ref a), .val (.ref ef), .val (.long pr), .second, .val (.ref nm)] [(.ref qF), (.ref ef)])) := fun tt hq => k21 tt (st22 tt hq)
      by_cases hc38_23 : ef = qF
      · -- pc 38, holds
        have k24 : To p.tables e below S0 (T22.setTop (mkF m 43 #[.val (.ref a), .val (.ref ef), .val (.long pr), .second, .val (.ref nm)] [(.ref a), (.ref a)])) := fun tt hq => k22 tt (by
          show Steps _ _ _ (T22.setTop (mkF m 38 #[.val (.ref a), .val (.ref ef), .val (.long pr), .second, .val (.ref nm)] [(.ref qF), (.ref ef)])) _
          refine Jvm.RoadKit.acmp (g := (mkF m 38 #[.val (.ref a), .val (.ref ef), .val (.long pr), .second, .val (.ref nm)] [(.ref qF), (.ref ef)])) X22 hx rfl rfl rfl (pc0 := 38) (pc' := 41) (same := true) rfl (hb hby d_prog_9_method_3_code_38) rfl (decide_eq_true (congrArg Value.ref hc38_23)) (by decide) (by decide) ?_
          show Steps _ _ _ (T22.setTop (mkF m 41 #[.val (.ref a), .val (.ref ef), .val (.long pr), .second, .val (.ref nm)] [])) _
          refine XS.aloadN X22.here hx rfl (hb hby d_prog_9_method_3_code_41) rfl rfl ?_
          show Steps _ _ _ (T22.setTop (mkF m 42 #[.val (.ref a), .val (.ref ef), .val (.long pr), .second, .val (.ref nm)] [(.ref a)])) _
          refine XS.aloadN X22.here hx rfl (hb hby d_prog_9_method_3_code_42) rfl rfl ?_
          show Steps _ _ _ (T22.setTop (mkF m 43 #[.val (.ref a), .val (.ref ef), .val (.long pr), .second, .val (.ref nm)] [(.ref a), (.ref a)])) _
          exact hq)
        obtain ⟨T25, X25, e25, st25⟩ := getF X22 hx hZ hown (host := "") (Or.inl (hw _ (List.mem_of_getElem? (i := 51) rfl))) Via.refl e22 F19 (g := (mkF m 43 #[.val (.ref a), .val (.ref ef), .val (.long pr), .second, .val (.ref nm)] [(.ref a), (.ref a)])) rfl rfl (hb hby d_prog_9_method_3_code_43)
        have k25 : To p.tables e below S0 (T25.setTop (mkF m 46 #[.val (.ref a), .val (.ref ef), .val (.long pr), .second, .val (.ref nm)] [.null, (.ref a)])) := fun tt hq => k24 tt (st25 tt hq)
        have k26 : To p.tables e below S0 (T25.setTop (mkF m 48 #[.val (.ref a), .val (.ref ef), .val (.long pr), .second, .val (.ref nm)] [(.ref nm), .null, (.ref a)])) := fun tt hq => k25 tt (by
          show Steps _ _ _ (T25.setTop (mkF m 46 #[.val (.ref a), .val (.ref ef), .val (.long pr), .second, .val (.ref nm)] [.null, (.ref a)])) _
          refine XS.aload X25.here hx rfl (hb hby d_prog_9_method_3_code_46) rfl rfl ?_
          show Steps _ _ _ (T25.setTop (mkF m 48 #[.val (.ref a), .val (.ref ef), .val (.long pr), .second, .val (.ref nm)] [(.ref nm), .null, (.ref a)])) _
          exact hq)
        obtain ⟨_, T27, L27, X27, ⟨rfl, Nq27, eq27⟩, k27a⟩ := callS' X25 hx hZ (y := (⟨"com/example/huntaway/huntaway/CodePointOrder", "min", "(Ljava/lang/String;Ljava/lang/String;)Ljava/lang/String;"⟩ : MethodName)) hown (hw _ (List.mem_of_getElem? (i := 55) rfl)) (hw _ (List.mem_of_getElem? (i := 56) rfl)) (hw _ (List.mem_of_getElem? (i := 57) rfl)) (hw _ (List.mem_of_getElem? (i := 58) rfl)) (by decide) (backC (W := 1) (rm_minN l Z a0 hw zc fm qF qP qI nm h19 n0 (by omega) S_c hzc S_f hfm S_F S_P S_I A_I f20) hZ (hw _ (List.mem_of_getElem? (i := 58) rfl)) (hw _ (List.mem_of_getElem? (i := 57) rfl)) (by decide) (by decide)) e25 (argsL := [.null, (.ref nm)]) (rest := [(.ref a)]) rfl rfl pd_11 rfl (by rw [hml]; rfl) (hb hby d_prog_9_method_3_code_48) (Nat.le_of_eq rfl) (by decide) (by decide) k26
        have k27 : To p.tables e below S0 (T27.setTop (mkF m 51 #[.val (.ref a), .val (.ref ef), .val (.long pr), .second, .val (.ref nm)] [(.ref nm), (.ref a)])) := k27a
        have N27 := N19.app Nq27
        have e27 : T27.heap = h19 := eq27
        have f28 : Exa Z h19 a "com/example/huntaway/huntaway/Precedence" := (f16.wr W19)
        obtain ⟨T29, h29, X29, e29, W29, st29⟩ := putF X27 hx hZ hown (host := "") (Or.inl (hw _ (List.mem_of_getElem? (i := 51) rfl))) Via.refl e27 F19 f28 (Or.inl (hw _ (List.mem_of_getElem? (i := 52) rfl))) (hw _ (List.mem_of_getElem? (i := 30) rfl)) (ty := (.object "java/lang/String")) (by decide) rfl rfl (g := (mkF m 51 #[.val (.ref a), .val (.ref ef), .val (.long pr), .second, .val (.ref nm)] [(.ref nm), (.ref a)])) rfl rfl (hb hby d_prog_9_method_3_code_51)
        have k29 : To p.tables e below S0 (T29.setTop (mkF m 54 #[.val (.ref a), .val (.ref ef), .val (.long pr), .second, .val (.ref nm)] [])) := fun tt hq => k27 tt (st29 tt hq)
        have z29 : h29.size = h19.size := W29.size
        have F29 := F19.same W29
        have N29 := Fr.snoc X29 N27 (by omega : n0 ≤ a)
        have k30 : To p.tables e below S0 (T29.setTop (mkF m 70 #[.val (.ref a), .val (.ref ef), .val (.long pr), .second, .val (.ref nm)] [])) := fun tt hq => k29 tt (by
          show Steps _ _ _ (T29.setTop (mkF m 54 #[.val (.ref a), .val (.ref ef), .val (.long pr), .second, .val (.ref nm)] [])) _
          refine XS.goto X29.here hx rfl (pc0 := 54) (pc' := 70) rfl (hb hby d_prog_9_method_3_code_54) (by decide) (by decide) ?_
          show Steps _ _ _ (T29.setTop (mkF m 70 #[.val (.ref a), .val (.ref ef), .val (.long pr), .second, .val (.ref nm)] [])) _
          exact hq)
        have f31 : Exa Z h29 a "com/example/huntaway/huntaway/Precedence" := (f28.wr W29)
        have f32 : Fld Z h29 a "com/example/huntaway/huntaway/Precedence" "highest" "J" (.long pr) := (((F11.other W15 (Or.inr (slot_ne (Or.inl (hw _ (List.mem_of_getElem? (i := 38) rfl))) (Or.inl (hw _ (List.mem_of_getElem? (i := 50) rfl))) (by decide) (t := .long) (t' := (.object "java/lang/String")) (by decide) (by decide)))).other W19 (Or.inr (slot_ne (Or.inl (hw _ (List.mem_of_getElem? (i := 38) rfl))) (Or.inl (hw _ (List.mem_of_getElem? (i := 52) rfl))) (by decide) (t := .long) (t' := (.object "java/lang/String")) (by decide) (by decide)))).other W29 (Or.inr (slot_ne (Or.inl (hw _ (List.mem_of_getElem? (i := 38) rfl))) (Or.inl (hw _ (List.mem_of_getElem? (i := 52) rfl))) (by decide) (t := .long) (t' := (.object "java/lang/String")) (by decide) (by decide))))
        have f33 : Fld Z h29 a "com/example/huntaway/huntaway/Precedence" "permitting" "Ljava/lang/String;" .null := ((F15.other W19 (Or.inr (slot_ne (Or.inl (hw _ (List.mem_of_getElem? (i := 50) rfl))) (Or.inl (hw _ (List.mem_of_getElem? (i := 52) rfl))) (by decide) (t := (.object "java/lang/String")) (t' := (.object "java/lang/String")) (by decide) (by decide)))).other W29 (Or.inr (slot_ne (Or.inl (hw _ (List.mem_of_getElem? (i := 50) rfl))) (Or.inl (hw _ (List.mem_of_getElem? (i := 52) rfl))) (by decide) (t := (.object "java/lang/String")) (t' := (.object "java/lang/String")) (by decide) (by decide))))
        have hE := e29
        refine retVoid X29 hx hret hlk (hb hby d_prog_9_method_3_code_70) k30 ?_ (by decide) (by decide)
        try rw [hE]
        exact ⟨rfl, N29, (((((Keep.refl h0 [a]).wr W11 (Or.inl (by simp))).wr W15 (Or.inl (by simp))).wr W19 (Or.inl (by simp))).wr W29 (Or.inl (by simp))), f31, _, _, by rw [← own_hi2 hc6_4 hc16_9]; exact f32, f33, F29, rfl, rfl, by simp⟩
      · -- pc 38, holds not
        have f34 : Fld Z h19 a "com/example/huntaway/huntaway/Precedence" "permitting" "Ljava/lang/String;" .null := (F15.other W19 (Or.inr (slot_ne (Or.inl (hw _ (List.mem_of_getElem? (i := 50) rfl))) (Or.inl (hw _ (List.mem_of_getElem? (i := 52) rfl))) (by decide) (t := (.object "java/lang/String")) (t' := (.object "java/lang/String")) (by decide) (by decide))))
        have k35 : To p.tables e below S0 (T22.setTop (mkF m 59 #[.val (.ref a), .val (.ref ef), .val (.long pr), .second, .val (.ref nm)] [(.ref a), (.ref a)])) := fun tt hq => k22 tt (by
          show Steps _ _ _ (T22.setTop (mkF m 38 #[.val (.ref a), .val (.ref ef), .val (.long pr), .second, .val (.ref nm)] [(.ref qF), (.ref ef)])) _
          refine Jvm.RoadKit.acmp (g := (mkF m 38 #[.val (.ref a), .val (.ref ef), .val (.long pr), .second, .val (.ref nm)] [(.ref qF), (.ref ef)])) X22 hx rfl rfl rfl (pc0 := 38) (pc' := 57) (same := false) rfl (hb hby d_prog_9_method_3_code_38) rfl (decide_eq_false fun q => hc38_23 (Value.ref.inj q)) (by decide) (by decide) ?_
          show Steps _ _ _ (T22.setTop (mkF m 57 #[.val (.ref a), .val (.ref ef), .val (.long pr), .second, .val (.ref nm)] [])) _
          refine XS.aloadN X22.here hx rfl (hb hby d_prog_9_method_3_code_57) rfl rfl ?_
          show Steps _ _ _ (T22.setTop (mkF m 58 #[.val (.ref a), .val (.ref ef), .val (.long pr), .second, .val (.ref nm)] [(.ref a)])) _
          refine XS.aloadN X22.here hx rfl (hb hby d_prog_9_method_3_code_58) rfl rfl ?_
          show Steps _ _ _ (T22.setTop (mkF m 59 #[.val (.ref a), .val (.ref ef), .val (.long pr), .second, .val (.ref nm)] [(.ref a), (.ref a)])) _
          exact hq)
        obtain ⟨T36, X36, e36, st36⟩ := getF X22 hx hZ hown (host := "") (Or.inl (hw _ (List.mem_of_getElem? (i := 49) rfl))) Via.refl e22 f34 (g := (mkF m 59 #[.val (.ref a), .val (.ref ef), .val (.long pr), .second, .val (.ref nm)] [(.ref a), (.ref a)])) rfl rfl (hb hby d_prog_9_method_3_code_59)
        have k36 : To p.tables e below S0 (T36.setTop (mkF m 62 #[.val (.ref a), .val (.ref ef), .val (.long pr), .second, .val (.ref nm)] [.null, (.ref a)])) := fun tt hq => k35 tt (st36 tt hq)
        have k37 : To p.tables e below S0 (T36.setTop (mkF m 64 #[.val (.ref a), .val (.ref ef), .val (.long pr), .second, .val (.ref nm)] [(.ref nm), .null, (.ref a)])) := fun tt hq => k36 tt (by
          show Steps _ _ _ (T36.setTop (mkF m 62 #[.val (.ref a), .val (.ref ef), .val (.long pr), .second, .val (.ref nm)] [.null, (.ref a)])) _
          refine XS.aload X36.here hx rfl (hb hby d_prog_9_method_3_code_62) rfl rfl ?_
          show Steps _ _ _ (T36.setTop (mkF m 64 #[.val (.ref a), .val (.ref ef), .val (.long pr), .second, .val (.ref nm)] [(.ref nm), .null, (.ref a)])) _
          exact hq)
        obtain ⟨_, T38, L38, X38, ⟨rfl, Nq38, eq38⟩, k38a⟩ := callS' X36 hx hZ (y := (⟨"com/example/huntaway/huntaway/CodePointOrder", "min", "(Ljava/lang/String;Ljava/lang/String;)Ljava/lang/String;"⟩ : MethodName)) hown (hw _ (List.mem_of_getElem? (i := 55) rfl)) (hw _ (List.mem_of_getElem? (i := 56) rfl)) (hw _ (List.mem_of_getElem? (i := 57) rfl)) (hw _ (List.mem_of_getElem? (i := 58) rfl)) (by decide) (backC (W := 1) (rm_minN l Z a0 hw zc fm qF qP qI nm h19 n0 (by omega) S_c hzc S_f hfm S_F S_P S_I A_I f20) hZ (hw _ (List.mem_of_getElem? (i := 58) rfl)) (hw _ (List.mem_of_getElem? (i := 57) rfl)) (by decide) (by decide)) e36 (argsL := [.null, (.ref nm)]) (rest := [(.ref a)]) rfl rfl pd_11 rfl (by rw [hml]; rfl) (hb hby d_prog_9_method_3_code_64) (Nat.le_of_eq rfl) (by decide) (by decide) k37
        have k38 : To p.tables e below S0 (T38.setTop (mkF m 67 #[.val (.ref a), .val (.ref ef), .val (.long pr), .second, .val (.ref nm)] [(.ref nm), (.ref a)])) := k38a
        have N38 := N19.app Nq38
        have e38 : T38.heap = h19 := eq38
        have f39 : Exa Z h19 a "com/example/huntaway/huntaway/Precedence" := (f16.wr W19)
        obtain ⟨T40, h40, X40, e40, W40, st40⟩ := putF X38 hx hZ hown (host := "") (Or.inl (hw _ (List.mem_of_getElem? (i := 49) rfl))) Via.refl e38 f34 f39 (Or.inl (hw _ (List.mem_of_getElem? (i := 50) rfl))) (hw _ (List.mem_of_getElem? (i := 30) rfl)) (ty := (.object "java/lang/String")) (by decide) rfl rfl (g := (mkF m 67 #[.val (.ref a), .val (.ref ef), .val (.long pr), .second, .val (.ref nm)] [(.ref nm), (.ref a)])) rfl rfl (hb hby d_prog_9_method_3_code_67)
        have k40 : To p.tables e below S0 (T40.setTop (mkF m 70 #[.val (.ref a), .val (.ref ef), .val (.long pr), .second, .val (.ref nm)] [])) := fun tt hq => k38 tt (st40 tt hq)
        have z40 : h40.size = h19.size := W40.size
        have F40 := f34.same W40
        have N40 := Fr.snoc X40 N38 (by omega : n0 ≤ a)
        have f41 : Exa Z h40 a "com/example/huntaway/huntaway/Precedence" := (f39.wr W40)
        have f42 : Fld Z h40 a "com/example/huntaway/huntaway/Precedence" "highest" "J" (.long pr) := (((F11.other W15 (Or.inr (slot_ne (Or.inl (hw _ (List.mem_of_getElem? (i := 38) rfl))) (Or.inl (hw _ (List.mem_of_getElem? (i := 50) rfl))) (by decide) (t := .long) (t' := (.object "java/lang/String")) (by decide) (by decide)))).other W19 (Or.inr (slot_ne (Or.inl (hw _ (List.mem_of_getElem? (i := 38) rfl))) (Or.inl (hw _ (List.mem_of_getElem? (i := 52) rfl))) (by decide) (t := .long) (t' := (.object "java/lang/String")) (by decide) (by decide)))).other W40 (Or.inr (slot_ne (Or.inl (hw _ (List.mem_of_getElem? (i := 38) rfl))) (Or.inl (hw _ (List.mem_of_getElem? (i := 50) rfl))) (by decide) (t := .long) (t' := (.object "java/lang/String")) (by decide) (by decide))))
        have f43 : Fld Z h40 a "com/example/huntaway/huntaway/Precedence" "forbidding" "Ljava/lang/String;" .null := (F19.other W40 (Or.inr (slot_ne (Or.inl (hw _ (List.mem_of_getElem? (i := 52) rfl))) (Or.inl (hw _ (List.mem_of_getElem? (i := 50) rfl))) (by decide) (t := (.object "java/lang/String")) (t' := (.object "java/lang/String")) (by decide) (by decide))))
        have hE := e40
        refine retVoid X40 hx hret hlk (hb hby d_prog_9_method_3_code_70) k40 ?_ (by decide) (by decide)
        try rw [hE]
        exact ⟨rfl, N40, (((((Keep.refl h0 [a]).wr W11 (Or.inl (by simp))).wr W15 (Or.inl (by simp))).wr W19 (Or.inl (by simp))).wr W40 (Or.inl (by simp))), f41, _, _, by rw [← own_hi2 hc6_4 hc16_9]; exact f42, F40, f43, rfl, rfl, by simp⟩
    · -- pc 16, holds not
      have k44 : To p.tables e below S0 (T7.setTop (mkF m 35 #[.val (.ref a), .val (.ref ef), .val (.long pr), .second, .val (.ref nm)] [(.ref ef)])) := fun tt hq => k8 tt (by
        show Steps _ _ _ (T7.setTop (mkF m 16 #[.val (.ref a), .val (.ref ef), .val (.long pr), .second, .val (.ref nm)] [(.int (lcmpW pr hi))])) _
        refine XS.ifYes X7.here hx rfl (pc0 := 16) (pc' := 34) rfl (hb hby d_prog_9_method_3_code_16) rfl ((if0 _ _).trans (flt hc16_9).2.2.2) (by decide) (by decide) ?_
        show Steps _ _ _ (T7.setTop (mkF m 34 #[.val (.ref a), .val (.ref ef), .val (.long pr), .second, .val (.ref nm)] [])) _
        refine XS.aloadN X7.here hx rfl (hb hby d_prog_9_method_3_code_34) rfl rfl ?_
        show Steps _ _ _ (T7.setTop (mkF m 35 #[.val (.ref a), .val (.ref ef), .val (.long pr), .second, .val (.ref nm)] [(.ref ef)])) _
        exact hq)
      obtain ⟨T45, X45, e45, st45⟩ := getS2 X7 hx hZ hown (host := "") (Or.inl (hw _ (List.mem_of_getElem? (i := 53) rfl))) Via.refl e7 (staOld S_F O0) (g := (mkF m 35 #[.val (.ref a), .val (.ref ef), .val (.long pr), .second, .val (.ref nm)] [(.ref ef)])) rfl (hb hby d_prog_9_method_3_code_35)
      have k45 : To p.tables e below S0 (T45.setTop (mkF m 38 #[.val (.ref a), .val (.ref ef), .val (.long pr), .second, .val (.ref nm)] [(.ref qF), (.ref ef)])) := fun tt hq => k44 tt (st45 tt hq)
      by_cases hc38_46 : ef = qF
      · -- pc 38, holds
        have k47 : To p.tables e below S0 (T45.setTop (mkF m 43 #[.val (.ref a), .val (.ref ef), .val (.long pr), .second, .val (.ref nm)] [(.ref a), (.ref a)])) := fun tt hq => k45 tt (by
          show Steps _ _ _ (T45.setTop (mkF m 38 #[.val (.ref a), .val (.ref ef), .val (.long pr), .second, .val (.ref nm)] [(.ref qF), (.ref ef)])) _
          refine Jvm.RoadKit.acmp (g := (mkF m 38 #[.val (.ref a), .val (.ref ef), .val (.long pr), .second, .val (.ref nm)] [(.ref qF), (.ref ef)])) X45 hx rfl rfl rfl (pc0 := 38) (pc' := 41) (same := true) rfl (hb hby d_prog_9_method_3_code_38) rfl (decide_eq_true (congrArg Value.ref hc38_46)) (by decide) (by decide) ?_
          show Steps _ _ _ (T45.setTop (mkF m 41 #[.val (.ref a), .val (.ref ef), .val (.long pr), .second, .val (.ref nm)] [])) _
          refine XS.aloadN X45.here hx rfl (hb hby d_prog_9_method_3_code_41) rfl rfl ?_
          show Steps _ _ _ (T45.setTop (mkF m 42 #[.val (.ref a), .val (.ref ef), .val (.long pr), .second, .val (.ref nm)] [(.ref a)])) _
          refine XS.aloadN X45.here hx rfl (hb hby d_prog_9_method_3_code_42) rfl rfl ?_
          show Steps _ _ _ (T45.setTop (mkF m 43 #[.val (.ref a), .val (.ref ef), .val (.long pr), .second, .val (.ref nm)] [(.ref a), (.ref a)])) _
          exact hq)
        obtain ⟨T48, X48, e48, st48⟩ := getF X45 hx hZ hown (host := "") (Or.inl (hw _ (List.mem_of_getElem? (i := 51) rfl))) Via.refl e45 P3 (g := (mkF m 43 #[.val (.ref a), .val (.ref ef), .val (.long pr), .second, .val (.ref nm)] [(.ref a), (.ref a)])) rfl rfl (hb hby d_prog_9_method_3_code_43)
        have k48 : To p.tables e below S0 (T48.setTop (mkF m 46 #[.val (.ref a), .val (.ref ef), .val (.long pr), .second, .val (.ref nm)] [.null, (.ref a)])) := fun tt hq => k47 tt (st48 tt hq)
        have k49 : To p.tables e below S0 (T48.setTop (mkF m 48 #[.val (.ref a), .val (.ref ef), .val (.long pr), .second, .val (.ref nm)] [(.ref nm), .null, (.ref a)])) := fun tt hq => k48 tt (by
          show Steps _ _ _ (T48.setTop (mkF m 46 #[.val (.ref a), .val (.ref ef), .val (.long pr), .second, .val (.ref nm)] [.null, (.ref a)])) _
          refine XS.aload X48.here hx rfl (hb hby d_prog_9_method_3_code_46) rfl rfl ?_
          show Steps _ _ _ (T48.setTop (mkF m 48 #[.val (.ref a), .val (.ref ef), .val (.long pr), .second, .val (.ref nm)] [(.ref nm), .null, (.ref a)])) _
          exact hq)
        obtain ⟨_, T50, L50, X50, ⟨rfl, Nq50, eq50⟩, k50a⟩ := callS' X48 hx hZ (y := (⟨"com/example/huntaway/huntaway/CodePointOrder", "min", "(Ljava/lang/String;Ljava/lang/String;)Ljava/lang/String;"⟩ : MethodName)) hown (hw _ (List.mem_of_getElem? (i := 55) rfl)) (hw _ (List.mem_of_getElem? (i := 56) rfl)) (hw _ (List.mem_of_getElem? (i := 57) rfl)) (hw _ (List.mem_of_getElem? (i := 58) rfl)) (by decide) (backC (W := 1) (rm_minN l Z a0 hw zc fm qF qP qI nm h0 n0 (by omega) S_c hzc S_f hfm S_F S_P S_I A_I O0) hZ (hw _ (List.mem_of_getElem? (i := 58) rfl)) (hw _ (List.mem_of_getElem? (i := 57) rfl)) (by decide) (by decide)) e48 (argsL := [.null, (.ref nm)]) (rest := [(.ref a)]) rfl rfl pd_11 rfl (by rw [hml]; rfl) (hb hby d_prog_9_method_3_code_48) (Nat.le_of_eq rfl) (by decide) (by decide) k49
        have k50 : To p.tables e below S0 (T50.setTop (mkF m 51 #[.val (.ref a), .val (.ref ef), .val (.long pr), .second, .val (.ref nm)] [(.ref nm), (.ref a)])) := k50a
        have N50 := N0.app Nq50
        have e50 : T50.heap = h0 := eq50
        obtain ⟨T51, h51, X51, e51, W51, st51⟩ := putF X50 hx hZ hown (host := "") (Or.inl (hw _ (List.mem_of_getElem? (i := 51) rfl))) Via.refl e50 P3 P0 (Or.inl (hw _ (List.mem_of_getElem? (i := 52) rfl))) (hw _ (List.mem_of_getElem? (i := 30) rfl)) (ty := (.object "java/lang/String")) (by decide) rfl rfl (g := (mkF m 51 #[.val (.ref a), .val (.ref ef), .val (.long pr), .second, .val (.ref nm)] [(.ref nm), (.ref a)])) rfl rfl (hb hby d_prog_9_method_3_code_51)
        have k51 : To p.tables e below S0 (T51.setTop (mkF m 54 #[.val (.ref a), .val (.ref ef), .val (.long pr), .second, .val (.ref nm)] [])) := fun tt hq => k50 tt (st51 tt hq)
        have z51 : h51.size = h0.size := W51.size
        have F51 := P3.same W51
        have N51 := Fr.snoc X51 N50 (by omega : n0 ≤ a)
        have k52 : To p.tables e below S0 (T51.setTop (mkF m 70 #[.val (.ref a), .val (.ref ef), .val (.long pr), .second, .val (.ref nm)] [])) := fun tt hq => k51 tt (by
          show Steps _ _ _ (T51.setTop (mkF m 54 #[.val (.ref a), .val (.ref ef), .val (.long pr), .second, .val (.ref nm)] [])) _
          refine XS.goto X51.here hx rfl (pc0 := 54) (pc' := 70) rfl (hb hby d_prog_9_method_3_code_54) (by decide) (by decide) ?_
          show Steps _ _ _ (T51.setTop (mkF m 70 #[.val (.ref a), .val (.ref ef), .val (.long pr), .second, .val (.ref nm)] [])) _
          exact hq)
        have f53 : Exa Z h51 a "com/example/huntaway/huntaway/Precedence" := (P0.wr W51)
        have f54 : Fld Z h51 a "com/example/huntaway/huntaway/Precedence" "highest" "J" (.long hi) := (P1.other W51 (Or.inr (slot_ne (Or.inl (hw _ (List.mem_of_getElem? (i := 38) rfl))) (Or.inl (hw _ (List.mem_of_getElem? (i := 52) rfl))) (by decide) (t := .long) (t' := (.object "java/lang/String")) (by decide) (by decide))))
        have f55 : Fld Z h51 a "com/example/huntaway/huntaway/Precedence" "permitting" "Ljava/lang/String;" (.ref o1) := (P2.other W51 (Or.inr (slot_ne (Or.inl (hw _ (List.mem_of_getElem? (i := 50) rfl))) (Or.inl (hw _ (List.mem_of_getElem? (i := 52) rfl))) (by decide) (t := (.object "java/lang/String")) (t' := (.object "java/lang/String")) (by decide) (by decide))))
        have hE := e51
        refine retVoid X51 hx hret hlk (hb hby d_prog_9_method_3_code_70) k52 ?_ (by decide) (by decide)
        try rw [hE]
        exact ⟨rfl, N51, ((Keep.refl h0 [a]).wr W51 (Or.inl (by simp))), f53, _, _, by rw [← own_hi2' hc6_4 hc16_9]; exact f54, f55, F51, rfl, rfl, by simp⟩
      · -- pc 38, holds not
        have k56 : To p.tables e below S0 (T45.setTop (mkF m 59 #[.val (.ref a), .val (.ref ef), .val (.long pr), .second, .val (.ref nm)] [(.ref a), (.ref a)])) := fun tt hq => k45 tt (by
          show Steps _ _ _ (T45.setTop (mkF m 38 #[.val (.ref a), .val (.ref ef), .val (.long pr), .second, .val (.ref nm)] [(.ref qF), (.ref ef)])) _
          refine Jvm.RoadKit.acmp (g := (mkF m 38 #[.val (.ref a), .val (.ref ef), .val (.long pr), .second, .val (.ref nm)] [(.ref qF), (.ref ef)])) X45 hx rfl rfl rfl (pc0 := 38) (pc' := 57) (same := false) rfl (hb hby d_prog_9_method_3_code_38) rfl (decide_eq_false fun q => hc38_46 (Value.ref.inj q)) (by decide) (by decide) ?_
          show Steps _ _ _ (T45.setTop (mkF m 57 #[.val (.ref a), .val (.ref ef), .val (.long pr), .second, .val (.ref nm)] [])) _
          refine XS.aloadN X45.here hx rfl (hb hby d_prog_9_method_3_code_57) rfl rfl ?_
          show Steps _ _ _ (T45.setTop (mkF m 58 #[.val (.ref a), .val (.ref ef), .val (.long pr), .second, .val (.ref nm)] [(.ref a)])) _
          refine XS.aloadN X45.here hx rfl (hb hby d_prog_9_method_3_code_58) rfl rfl ?_
          show Steps _ _ _ (T45.setTop (mkF m 59 #[.val (.ref a), .val (.ref ef), .val (.long pr), .second, .val (.ref nm)] [(.ref a), (.ref a)])) _
          exact hq)
        obtain ⟨T57, X57, e57, st57⟩ := getF X45 hx hZ hown (host := "") (Or.inl (hw _ (List.mem_of_getElem? (i := 49) rfl))) Via.refl e45 P2 (g := (mkF m 59 #[.val (.ref a), .val (.ref ef), .val (.long pr), .second, .val (.ref nm)] [(.ref a), (.ref a)])) rfl rfl (hb hby d_prog_9_method_3_code_59)
        have k57 : To p.tables e below S0 (T57.setTop (mkF m 62 #[.val (.ref a), .val (.ref ef), .val (.long pr), .second, .val (.ref nm)] [(.ref o1), (.ref a)])) := fun tt hq => k56 tt (st57 tt hq)
        have k58 : To p.tables e below S0 (T57.setTop (mkF m 64 #[.val (.ref a), .val (.ref ef), .val (.long pr), .second, .val (.ref nm)] [(.ref nm), (.ref o1), (.ref a)])) := fun tt hq => k57 tt (by
          show Steps _ _ _ (T57.setTop (mkF m 62 #[.val (.ref a), .val (.ref ef), .val (.long pr), .second, .val (.ref nm)] [(.ref o1), (.ref a)])) _
          refine XS.aload X57.here hx rfl (hb hby d_prog_9_method_3_code_62) rfl rfl ?_
          show Steps _ _ _ (T57.setTop (mkF m 64 #[.val (.ref a), .val (.ref ef), .val (.long pr), .second, .val (.ref nm)] [(.ref nm), (.ref o1), (.ref a)])) _
          exact hq)
        obtain ⟨_, T59, L59, X59, ⟨x59, rfl, Nq59, eq59, hx59⟩, k59a⟩ := callS' X57 hx hZ (y := (⟨"com/example/huntaway/huntaway/CodePointOrder", "min", "(Ljava/lang/String;Ljava/lang/String;)Ljava/lang/String;"⟩ : MethodName)) hown (hw _ (List.mem_of_getElem? (i := 55) rfl)) (hw _ (List.mem_of_getElem? (i := 56) rfl)) (hw _ (List.mem_of_getElem? (i := 57) rfl)) (hw _ (List.mem_of_getElem? (i := 58) rfl)) (by decide) (backC (W := 1) (rm_minR l Z a0 hw zc fm qF qP qI o1 to ko co nm tn kn cn h0 n0 (by omega) S_c hzc S_f hfm S_F S_P S_I A_I O0 go_0 go_1 go_2 go_3 gn_0 gn_1 gn_2 gn_3) hZ (hw _ (List.mem_of_getElem? (i := 58) rfl)) (hw _ (List.mem_of_getElem? (i := 57) rfl)) (by decide) (by decide)) e57 (argsL := [(.ref o1), (.ref nm)]) (rest := [(.ref a)]) rfl rfl pd_11 rfl (by rw [hml]; rfl) (hb hby d_prog_9_method_3_code_64) (Nat.le_of_eq rfl) (by decide) (by decide) k58
        have k59 : To p.tables e below S0 (T59.setTop (mkF m 67 #[.val (.ref a), .val (.ref ef), .val (.long pr), .second, .val (.ref nm)] [(.ref x59), (.ref a)])) := k59a
        have N59 := N0.app Nq59
        have e59 : T59.heap = h0 := eq59
        obtain ⟨T60, h60, X60, e60, W60, st60⟩ := putF X59 hx hZ hown (host := "") (Or.inl (hw _ (List.mem_of_getElem? (i := 49) rfl))) Via.refl e59 P2 P0 (Or.inl (hw _ (List.mem_of_getElem? (i := 50) rfl))) (hw _ (List.mem_of_getElem? (i := 30) rfl)) (ty := (.object "java/lang/String")) (by decide) rfl rfl (g := (mkF m 67 #[.val (.ref a), .val (.ref ef), .val (.long pr), .second, .val (.ref nm)] [(.ref x59), (.ref a)])) rfl rfl (hb hby d_prog_9_method_3_code_67)
        have k60 : To p.tables e below S0 (T60.setTop (mkF m 70 #[.val (.ref a), .val (.ref ef), .val (.long pr), .second, .val (.ref nm)] [])) := fun tt hq => k59 tt (st60 tt hq)
        have z60 : h60.size = h0.size := W60.size
        have F60 := P2.same W60
        have N60 := Fr.snoc X60 N59 (by omega : n0 ≤ a)
        have f61 : Exa Z h60 a "com/example/huntaway/huntaway/Precedence" := (P0.wr W60)
        have f62 : Fld Z h60 a "com/example/huntaway/huntaway/Precedence" "highest" "J" (.long hi) := (P1.other W60 (Or.inr (slot_ne (Or.inl (hw _ (List.mem_of_getElem? (i := 38) rfl))) (Or.inl (hw _ (List.mem_of_getElem? (i := 50) rfl))) (by decide) (t := .long) (t' := (.object "java/lang/String")) (by decide) (by decide))))
        have f63 : Fld Z h60 a "com/example/huntaway/huntaway/Precedence" "forbidding" "Ljava/lang/String;" .null := (P3.other W60 (Or.inr (slot_ne (Or.inl (hw _ (List.mem_of_getElem? (i := 52) rfl))) (Or.inl (hw _ (List.mem_of_getElem? (i := 50) rfl))) (by decide) (t := (.object "java/lang/String")) (t' := (.object "java/lang/String")) (by decide) (by decide))))
        have hE := e60
        refine retVoid X60 hx hret hlk (hb hby d_prog_9_method_3_code_70) k60 ?_ (by decide) (by decide)
        try rw [hE]
        exact ⟨rfl, N60, ((Keep.refl h0 [a]).wr W60 (Or.inl (by simp))), f61, _, _, by rw [← own_hi2' hc6_4 hc16_9]; exact f62, F60, f63, rfl, rfl, by simp⟩
theorem rm_off2 (l : Launch) (Z : State) (a0 : Array Value) (hw : ∀ d ∈ tables_1, d.before a0 Z = true) (zc : Int32) (fm : Value) (qF : Addr) (qP : Addr) (qI : Addr) (a : Addr) (ef : Addr) (pr : Int64) (hi : Int64) (nm : Addr) (tn : Addr) (kn : ClassId) (cn : Int32) (o1 : Addr) (to : Addr) (ko : ClassId) (co : Int32) (u1 : Value) (u2 : Value) (h0 : Heap) (n0 : Nat) (hn0 : n0 ≤ h0.size) (S_c : Sta Z Z.heap "java/lang/String" "COMPACT_STRINGS" "Z" (.int zc)) (hzc : ¬ zc = (0 : Int32)) (S_f : Sta Z Z.heap "jdk/internal/util/Preconditions" "SIOOBE_FORMATTER" "Ljava/util/function/BiFunction;" fm) (hfm : fm.isRef = true) (S_F : Sta Z Z.heap "com/example/huntaway/huntaway/Effect" "FORBID" "Lcom/example/huntaway/huntaway/Effect;" (.ref qF)) (S_P : Sta Z Z.heap "com/example/huntaway/huntaway/Effect" "PERMIT" "Lcom/example/huntaway/huntaway/Effect;" (.ref qP)) (S_I : Sta Z Z.heap "com/example/huntaway/huntaway/CodePointOrder" "INSTANCE" "Lcom/example/huntaway/huntaway/CodePointOrder;" (.ref qI)) (A_I : Exa Z Z.heap qI "com/example/huntaway/huntaway/CodePointOrder") (O0 : Old Z n0 h0) (P0 : Exa Z h0 a "com/example/huntaway/huntaway/Precedence") (P1 : Fld Z h0 a "com/example/huntaway/huntaway/Precedence" "highest" "J" (.long hi)) (P2 : Fld Z h0 a "com/example/huntaway/huntaway/Precedence" "permitting" "Ljava/lang/String;" u1) (P3 : Fld Z h0 a "com/example/huntaway/huntaway/Precedence" "forbidding" "Ljava/lang/String;" u2) (gn_0 : Exa Z h0 nm "java/lang/String") (gn_1 : Fld Z h0 nm "java/lang/String" "value" "[B" (.ref tn)) (gn_2 : Fld Z h0 nm "java/lang/String" "coder" "B" (.int (0 : Int32))) (gn_3 : Arv Z h0 tn kn .byte (1 : Int32) [(.int cn)] (.int 0)) (go_0 : Exa Z h0 o1 "java/lang/String") (go_1 : Fld Z h0 o1 "java/lang/String" "value" "[B" (.ref to)) (go_2 : Fld Z h0 o1 "java/lang/String" "coder" "B" (.int (0 : Int32))) (go_3 : Arv Z h0 to ko .byte (1 : Int32) [(.int co)] (.int 0)) (nd2 : ¬ (@Eq Nat o1 a)) (nd4 : ¬ (@Eq Nat to a)) (nd1 : ¬ (@Eq Nat nm a)) (nd3 : ¬ (@Eq Nat tn a)) (ga : n0 ≤ a) (cs : (u1 = .null ∧ u2 = .ref o1) ∨ (u1 = .ref o1 ∧ u2 = .null)) :
    Con l Z (⟨"com/example/huntaway/huntaway/Precedence", "offer", "(Lcom/example/huntaway/huntaway/Effect;JLjava/lang/String;)V"⟩ : MethodName) prog_9_method_3_code 5 none [] ({ frames := 5, cells := 0, slots := 0, locals := 73 } : Room) #[(.ref a), (.ref ef), (.long pr), (.ref nm)] h0 (fun v h L => v = none ∧ Fr n0 L ∧ Keep h0 h [a] ∧ Exa Z h a "com/example/huntaway/huntaway/Precedence" ∧ ∃ u1 u2 : Value, Fld Z h a "com/example/huntaway/huntaway/Precedence" "highest" "J" (.long (if pr < hi then hi else pr)) ∧ Fld Z h a "com/example/huntaway/huntaway/Precedence" "permitting" "Ljava/lang/String;" u1 ∧ Fld Z h a "com/example/huntaway/huntaway/Precedence" "forbidding" "Ljava/lang/String;" u2 ∧ u1.isRef = true ∧ u2.isRef = true ∧ ¬ (u1 = .null ∧ u2 = .null)) := by
  rcases cs with ⟨rfl, rfl⟩ | ⟨rfl, rfl⟩
  · exact rm_offNR l Z a0 hw zc fm qF qP qI a ef pr hi nm tn kn cn o1 to ko co h0 n0 hn0 S_c hzc S_f hfm S_F S_P S_I A_I O0 P0 P1 P2 P3 gn_0 gn_1 gn_2 gn_3 go_0 go_1 go_2 go_3 nd2 nd4 nd1 nd3 ga
  · exact rm_offRN l Z a0 hw zc fm qF qP qI a ef pr hi nm tn kn cn o1 to ko co h0 n0 hn0 S_c hzc S_f hfm S_F S_P S_I A_I O0 P0 P1 P2 P3 gn_0 gn_1 gn_2 gn_3 go_0 go_1 go_2 go_3 nd2 nd4 nd1 nd3 ga
theorem d_prog_9_method_2_code_0 : decode prog_9_method_2_code 0 = .ok (.lload_n 1, 1) := by decide +kernel
theorem d_prog_9_method_2_code_1 : decode prog_9_method_2_code 1 = .ok (.aload_n 0, 1) := by decide +kernel
theorem d_prog_9_method_2_code_2 : decode prog_9_method_2_code 2 = .ok (.getfield 11, 3) := by decide +kernel
theorem d_prog_9_method_2_code_5 : decode prog_9_method_2_code 5 = .ok (.lcmp, 1) := by decide +kernel
theorem d_prog_9_method_2_code_6 : decode prog_9_method_2_code 6 = .ok (.ifCond .lt 7, 3) := by decide +kernel
theorem d_prog_9_method_2_code_9 : decode prog_9_method_2_code 9 = .ok (.iconst 1, 1) := by decide +kernel
theorem d_prog_9_method_2_code_10 : decode prog_9_method_2_code 10 = .ok (.goto 4, 3) := by decide +kernel
theorem d_prog_9_method_2_code_13 : decode prog_9_method_2_code 13 = .ok (.iconst 0, 1) := by decide +kernel
theorem d_prog_9_method_2_code_14 : decode prog_9_method_2_code 14 = .ok (.ireturn, 1) := by decide +kernel
set_option maxRecDepth 65536 in
set_option maxHeartbeats 40000000 in
theorem rm_could (l : Launch) (Z : State) (a0 : Array Value) (hw : ∀ d ∈ tables_1, d.before a0 Z = true) (a : Addr) (hi : Int64) (q : Int64) (r : Int32) (h0 : Heap) (n0 : Nat) (hn0 : n0 ≤ h0.size) (F0 : Fld Z h0 a "com/example/huntaway/huntaway/Precedence" "highest" "J" (.long hi)) (hr1 : q < hi → r = 0) (hr0 : ¬ q < hi → r = 1) :
    Con l Z (⟨"com/example/huntaway/huntaway/Precedence", "couldCount", "(J)Z"⟩ : MethodName) prog_9_method_2_code 3 (some .boolean) [] ({ frames := 0, cells := 0, slots := 0, locals := 0 } : Room) #[(.ref a), (.long q)] h0 (fun v h L => v = some (.int r) ∧ Fr n0 L ∧ h = h0) := by
  refine enter (Ls := #[.val (.ref a), .val (.long q), .second]) (plainFor_of_name pn_6) (fun m => by exact entry_eq rfl) ?_
  intro p e s m below meth cd_ s₁ S0 hx hby hml hret hlk hnm hown hZ X0 e0 k0
  have N0 := Fr.nil n0
  have k1 : To p.tables e below S0 (s₁.setTop (mkF m 2 #[.val (.ref a), .val (.long q), .second] [(.ref a), (.long q)])) := fun tt hq => k0 tt (by
    show Steps _ _ _ (s₁.setTop (mkF m 0 #[.val (.ref a), .val (.long q), .second] [])) _
    refine XS.lloadN X0.here hx rfl (hb hby d_prog_9_method_2_code_0) rfl ?_
    show Steps _ _ _ (s₁.setTop (mkF m 1 #[.val (.ref a), .val (.long q), .second] [(.long q)])) _
    refine XS.aloadN X0.here hx rfl (hb hby d_prog_9_method_2_code_1) rfl rfl ?_
    show Steps _ _ _ (s₁.setTop (mkF m 2 #[.val (.ref a), .val (.long q), .second] [(.ref a), (.long q)])) _
    exact hq)
  obtain ⟨T2, X2, e2, st2⟩ := getF X0 hx hZ hown (host := "") (Or.inl (hw _ (List.mem_of_getElem? (i := 37) rfl))) Via.refl e0 F0 (g := (mkF m 2 #[.val (.ref a), .val (.long q), .second] [(.ref a), (.long q)])) rfl rfl (hb hby d_prog_9_method_2_code_2)
  have k2 : To p.tables e below S0 (T2.setTop (mkF m 5 #[.val (.ref a), .val (.long q), .second] [(.long hi), (.long q)])) := fun tt hq => k1 tt (st2 tt hq)
  have k3 : To p.tables e below S0 (T2.setTop (mkF m 6 #[.val (.ref a), .val (.long q), .second] [(.int (lcmpW q hi))])) := fun tt hq => k2 tt (by
    show Steps _ _ _ (T2.setTop (mkF m 5 #[.val (.ref a), .val (.long q), .second] [(.long hi), (.long q)])) _
    refine XS.lcmp X2.here hx rfl (hb hby d_prog_9_method_2_code_5) rfl ?_
    show Steps _ _ _ (T2.setTop (mkF m 6 #[.val (.ref a), .val (.long q), .second] [(.int (lcmpW q hi))])) _
    exact hq)
  by_cases hc6_4 : (lcmpW q hi) < (0 : Int32)
  · -- pc 6, holds
    have k5 : To p.tables e below S0 (T2.setTop (mkF m 14 #[.val (.ref a), .val (.long q), .second] [(.int (0 : Int32))])) := fun tt hq => k3 tt (by
      show Steps _ _ _ (T2.setTop (mkF m 6 #[.val (.ref a), .val (.long q), .second] [(.int (lcmpW q hi))])) _
      refine XS.ifYes X2.here hx rfl (pc0 := 6) (pc' := 13) rfl (hb hby d_prog_9_method_2_code_6) rfl ((if0 _ _).trans (tlt hc6_4).1) (by decide) (by decide) ?_
      show Steps _ _ _ (T2.setTop (mkF m 13 #[.val (.ref a), .val (.long q), .second] [])) _
      refine XS.iconst X2.here hx rfl (hb hby d_prog_9_method_2_code_13) ?_
      show Steps _ _ _ (T2.setTop (mkF m 14 #[.val (.ref a), .val (.long q), .second] [(.int (0 : Int32))])) _
      exact hq)
    have hE := e2
    refine retInt X2 hx hret hlk (by simp) rfl (hb hby d_prog_9_method_2_code_14) k5 ?_ (by decide) (by decide)
    try rw [hE]
    exact ⟨by rw [hr1 ((lc_lt _ _).mp ((lcW _ _) ▸ hc6_4))], N0, rfl⟩
  · -- pc 6, holds not
    have k6 : To p.tables e below S0 (T2.setTop (mkF m 14 #[.val (.ref a), .val (.long q), .second] [(.int (1 : Int32))])) := fun tt hq => k3 tt (by
      show Steps _ _ _ (T2.setTop (mkF m 6 #[.val (.ref a), .val (.long q), .second] [(.int (lcmpW q hi))])) _
      refine XS.ifNo X2.here hx rfl (hb hby d_prog_9_method_2_code_6) rfl ((if0 _ _).trans (flt hc6_4).1) ?_
      show Steps _ _ _ (T2.setTop (mkF m 9 #[.val (.ref a), .val (.long q), .second] [])) _
      refine XS.iconst X2.here hx rfl (hb hby d_prog_9_method_2_code_9) ?_
      show Steps _ _ _ (T2.setTop (mkF m 10 #[.val (.ref a), .val (.long q), .second] [(.int (1 : Int32))])) _
      refine XS.goto X2.here hx rfl (pc0 := 10) (pc' := 14) rfl (hb hby d_prog_9_method_2_code_10) (by decide) (by decide) ?_
      show Steps _ _ _ (T2.setTop (mkF m 14 #[.val (.ref a), .val (.long q), .second] [(.int (1 : Int32))])) _
      exact hq)
    have hE := e2
    refine retInt X2 hx hret hlk (by simp) rfl (hb hby d_prog_9_method_2_code_14) k6 ?_ (by decide) (by decide)
    try rw [hE]
    exact ⟨by rw [hr0 (fun z => hc6_4 ((lcW _ _) ▸ (lc_lt _ _).mpr z))], N0, rfl⟩
theorem own_mx1 {a b : Int64} (h : lcmpW a b < 0) : b = (if b < a then a else b) := by
  rw [lcW, lc_lt] at h; rw [if_neg]; rw [Int64.lt_iff_toInt_lt] at h ⊢; omega
theorem own_mx0 {a b : Int64} (h : ¬ lcmpW a b < 0) : a = (if b < a then a else b) := by
  rw [lcW, lc_lt] at h
  by_cases g : b < a
  · rw [if_pos g]
  · rw [if_neg g]; apply Int64.toInt_inj.mp; rw [Int64.lt_iff_toInt_lt] at h g; omega
theorem own_pred {m : Int64} (h : ¬ lcmpW m (-9223372036854775808 : Int64) = 0) : m - 1 < m := by
  rw [lcW, lc_eq] at h
  have h1 := Int64.le_toInt m
  have h2 := Int64.toInt_lt m
  have e : (-9223372036854775808 : Int64).toInt = -9223372036854775808 := by decide
  have h3 : ¬ m.toInt = -9223372036854775808 := fun q => h (Int64.toInt_inj.mp (by rw [q, e]))
  have e1 : (1 : Int64).toInt = 1 := by decide
  rw [Int64.lt_iff_toInt_lt, Int64.toInt_sub, e1, Int.bmod_eq_of_le (by omega) (by omega)]
  omega
theorem own_le255 (x : Int32) : ¬ (255 : Int32) < (x &&& 255).toUInt32.toUInt16.toUInt32.toInt32 := by
  rw [i2c_mask, Int32.lt_iff_toInt_lt]
  have h := own_and255 x
  have : (255 : Int32).toInt = 255 := by decide
  omega
theorem d_jdk_29_method_66_code_0 : decode jdk_29_method_66_code 0 = .ok (.lload_n 0, 1) := by decide +kernel
theorem d_jdk_29_method_66_code_1 : decode jdk_29_method_66_code 1 = .ok (.lload_n 2, 1) := by decide +kernel
theorem d_jdk_29_method_66_code_2 : decode jdk_29_method_66_code 2 = .ok (.lcmp, 1) := by decide +kernel
theorem d_jdk_29_method_66_code_3 : decode jdk_29_method_66_code 3 = .ok (.ifCond .lt 7, 3) := by decide +kernel
theorem d_jdk_29_method_66_code_6 : decode jdk_29_method_66_code 6 = .ok (.lload_n 0, 1) := by decide +kernel
theorem d_jdk_29_method_66_code_7 : decode jdk_29_method_66_code 7 = .ok (.goto 4, 3) := by decide +kernel
theorem d_jdk_29_method_66_code_10 : decode jdk_29_method_66_code 10 = .ok (.lload_n 2, 1) := by decide +kernel
theorem d_jdk_29_method_66_code_11 : decode jdk_29_method_66_code 11 = .ok (.lreturn, 1) := by decide +kernel
set_option maxRecDepth 65536 in
set_option maxHeartbeats 40000000 in
theorem rm_max (l : Launch) (Z : State) (a0 : Array Value) (hw : ∀ d ∈ tables_1, d.before a0 Z = true) (a : Int64) (b : Int64) (h0 : Heap) (n0 : Nat) (hn0 : n0 ≤ h0.size)  :
    Con l Z (⟨"java/lang/Math", "max", "(JJ)J"⟩ : MethodName) jdk_29_method_66_code 4 (some .long) [] ({ frames := 0, cells := 0, slots := 0, locals := 0 } : Room) #[(.long a), (.long b)] h0 (fun v h L => v = some (.long (if b < a then a else b)) ∧ Fr n0 L ∧ h = h0) := by
  refine enter (Ls := #[.val (.long a), .second, .val (.long b), .second]) (Jvm.Free.JP.mathPlain rfl (by decide +kernel)) (fun m => by exact entry_eq rfl) ?_
  intro p e s m below meth cd_ s₁ S0 hx hby hml hret hlk hnm hown hZ X0 e0 k0
  have N0 := Fr.nil n0
  have k1 : To p.tables e below S0 (s₁.setTop (mkF m 3 #[.val (.long a), .second, .val (.long b), .second] [(.int (lcmpW a b))])) := fun tt hq => k0 tt (by
    show Steps _ _ _ (s₁.setTop (mkF m 0 #[.val (.long a), .second, .val (.long b), .second] [])) _
    refine XS.lloadN X0.here hx rfl (hb hby d_jdk_29_method_66_code_0) rfl ?_
    show Steps _ _ _ (s₁.setTop (mkF m 1 #[.val (.long a), .second, .val (.long b), .second] [(.long a)])) _
    refine XS.lloadN X0.here hx rfl (hb hby d_jdk_29_method_66_code_1) rfl ?_
    show Steps _ _ _ (s₁.setTop (mkF m 2 #[.val (.long a), .second, .val (.long b), .second] [(.long b), (.long a)])) _
    refine XS.lcmp X0.here hx rfl (hb hby d_jdk_29_method_66_code_2) rfl ?_
    show Steps _ _ _ (s₁.setTop (mkF m 3 #[.val (.long a), .second, .val (.long b), .second] [(.int (lcmpW a b))])) _
    exact hq)
  by_cases hc3_2 : (lcmpW a b) < (0 : Int32)
  · -- pc 3, holds
    have k3 : To p.tables e below S0 (s₁.setTop (mkF m 11 #[.val (.long a), .second, .val (.long b), .second] [(.long b)])) := fun tt hq => k1 tt (by
      show Steps _ _ _ (s₁.setTop (mkF m 3 #[.val (.long a), .second, .val (.long b), .second] [(.int (lcmpW a b))])) _
      refine XS.ifYes X0.here hx rfl (pc0 := 3) (pc' := 10) rfl (hb hby d_jdk_29_method_66_code_3) rfl ((if0 _ _).trans (tlt hc3_2).1) (by decide) (by decide) ?_
      show Steps _ _ _ (s₁.setTop (mkF m 10 #[.val (.long a), .second, .val (.long b), .second] [])) _
      refine XS.lloadN X0.here hx rfl (hb hby d_jdk_29_method_66_code_10) rfl ?_
      show Steps _ _ _ (s₁.setTop (mkF m 11 #[.val (.long a), .second, .val (.long b), .second] [(.long b)])) _
      exact hq)
    have hE := e0
    refine retLong X0 hx hret hlk (hb hby d_jdk_29_method_66_code_11) k3 ?_ (by decide) (by decide)
    try rw [hE]
    exact ⟨by rw [← own_mx1 hc3_2], N0, rfl⟩
  · -- pc 3, holds not
    have k4 : To p.tables e below S0 (s₁.setTop (mkF m 11 #[.val (.long a), .second, .val (.long b), .second] [(.long a)])) := fun tt hq => k1 tt (by
      show Steps _ _ _ (s₁.setTop (mkF m 3 #[.val (.long a), .second, .val (.long b), .second] [(.int (lcmpW a b))])) _
      refine XS.ifNo X0.here hx rfl (hb hby d_jdk_29_method_66_code_3) rfl ((if0 _ _).trans (flt hc3_2).1) ?_
      show Steps _ _ _ (s₁.setTop (mkF m 6 #[.val (.long a), .second, .val (.long b), .second] [])) _
      refine XS.lloadN X0.here hx rfl (hb hby d_jdk_29_method_66_code_6) rfl ?_
      show Steps _ _ _ (s₁.setTop (mkF m 7 #[.val (.long a), .second, .val (.long b), .second] [(.long a)])) _
      refine XS.goto X0.here hx rfl (pc0 := 7) (pc' := 11) rfl (hb hby d_jdk_29_method_66_code_7) (by decide) (by decide) ?_
      show Steps _ _ _ (s₁.setTop (mkF m 11 #[.val (.long a), .second, .val (.long b), .second] [(.long a)])) _
      exact hq)
    have hE := e0
    refine retLong X0 hx hret hlk (hb hby d_jdk_29_method_66_code_11) k4 ?_ (by decide) (by decide)
    try rw [hE]
    exact ⟨by rw [← own_mx0 hc3_2], N0, rfl⟩
theorem pn_7 : plainName "com/example/huntaway/huntaway/PrecedenceCouldCountPinLaw" = true := by first | (simp [plainName, overriddenIn]; done) | decide +kernel
theorem pd_12 : parseMethodDescriptor "(C)Ljava/lang/String;" = some ⟨[.char], some (.object "java/lang/String")⟩ := by decide +kernel
theorem pd_13 : parseMethodDescriptor "()V" = some ⟨[], none⟩ := by decide +kernel
theorem pd_14 : parseMethodDescriptor "(J)Z" = some ⟨[.long], some .boolean⟩ := by decide +kernel
theorem pd_15 : parseMethodDescriptor "(Lcom/example/huntaway/huntaway/Effect;JLjava/lang/String;)V" = some ⟨[(.object "com/example/huntaway/huntaway/Effect"), .long, (.object "java/lang/String")], none⟩ := by decide +kernel
theorem pd_16 : parseMethodDescriptor "(JJ)J" = some ⟨[.long, .long], some .long⟩ := by decide +kernel
set_option maxRecDepth 65536 in
set_option maxHeartbeats 40000000 in
theorem rm0 (l : Launch) (Z : State) (a0 : Array Value) (hw : ∀ d ∈ tables_1, d.before a0 Z = true) (zc : Int32) (fm : Value) (qF : Addr) (qP : Addr) (qI : Addr) (a : Int64) (b : Int64) (q : Int64) (f : Int32) (h0 : Heap) (n0 : Nat) (hn0 : n0 ≤ h0.size) (S_c : Sta Z Z.heap "java/lang/String" "COMPACT_STRINGS" "Z" (.int zc)) (hzc : ¬ zc = (0 : Int32)) (S_f : Sta Z Z.heap "jdk/internal/util/Preconditions" "SIOOBE_FORMATTER" "Ljava/util/function/BiFunction;" fm) (hfm : fm.isRef = true) (S_F : Sta Z Z.heap "com/example/huntaway/huntaway/Effect" "FORBID" "Lcom/example/huntaway/huntaway/Effect;" (.ref qF)) (S_P : Sta Z Z.heap "com/example/huntaway/huntaway/Effect" "PERMIT" "Lcom/example/huntaway/huntaway/Effect;" (.ref qP)) (S_I : Sta Z Z.heap "com/example/huntaway/huntaway/CodePointOrder" "INSTANCE" "Lcom/example/huntaway/huntaway/CodePointOrder;" (.ref qI)) (A_I : Exa Z Z.heap qI "com/example/huntaway/huntaway/CodePointOrder") (O0 : Old Z n0 h0) :
    Con l Z x code maxLocals ret tables_1 room_1 #[(.long a), (.long b), (.long q), (.int f)] h0 (fun v h L => v = some (.int 1) ∧ Fr n0 L) := by
  refine enter (Ls := #[.val (.long a), .second, .val (.long b), .second, .val (.long q), .second, .val (.int f), .unset, .unset, .unset, .unset, .unset, .unset, .unset, .unset, .unset, .unset, .unset, .unset, .unset]) (plainFor_of_name pn_7) (fun m => by exact entry_eq rfl) ?_
  intro p e s m below meth cd_ s₁ S0 hx hby hml hret hlk hnm hown hZ X0 e0 k0
  have N0 := Fr.nil n0
  let l1 : Array Slot := #[.val (.long a), .second, .val (.long b), .second, .val (.long q), .second, .val (.int f), .unset, .unset, .unset, .unset, .unset, .unset, .unset, .unset, .unset, .unset, .unset, .unset, .unset]
  have k2 : To p.tables e below S0 (s₁.setTop (mkF m 4 l1 [(.int (f &&& (1 : Int32)))])) := fun tt hq => k0 tt (by
    show Steps _ _ _ (s₁.setTop (mkF m 0 l1 [])) _
    refine XS.iload X0.here hx rfl (hb hby at_0) rfl ?_
    show Steps _ _ _ (s₁.setTop (mkF m 2 l1 [(.int f)])) _
    refine XS.iconst X0.here hx rfl (hb hby at_2) ?_
    show Steps _ _ _ (s₁.setTop (mkF m 3 l1 [(.int (1 : Int32)), (.int f)])) _
    refine XS.iand X0.here hx rfl (hb hby at_3) rfl ?_
    show Steps _ _ _ (s₁.setTop (mkF m 4 l1 [(.int (f &&& (1 : Int32)))])) _
    exact hq)
  by_cases hc4_3 : (f &&& (1 : Int32)) = (0 : Int32)
  · -- pc 4, holds
    let l4 : Array Slot := #[.val (.long a), .second, .val (.long b), .second, .val (.long q), .second, .val (.int f), .val (.int (0 : Int32)), .unset, .unset, .unset, .unset, .unset, .unset, .unset, .unset, .unset, .unset, .unset, .unset]
    have k5 : To p.tables e below S0 (s₁.setTop (mkF m 18 l4 [(.int (f &&& (2 : Int32)))])) := fun tt hq => k2 tt (by
      show Steps _ _ _ (s₁.setTop (mkF m 4 l1 [(.int (f &&& (1 : Int32)))])) _
      refine XS.ifYes X0.here hx rfl (pc0 := 4) (pc' := 11) rfl (hb hby at_4) rfl ((if0 _ _).trans (teq hc4_3).1) (by decide) (by decide) ?_
      show Steps _ _ _ (s₁.setTop (mkF m 11 l1 [])) _
      refine XS.iconst X0.here hx rfl (hb hby at_11) ?_
      show Steps _ _ _ (s₁.setTop (mkF m 12 l1 [(.int (0 : Int32))])) _
      refine XS.istore X0.here hx rfl (hb hby at_12) rfl (l' := l4) rfl ?_
      show Steps _ _ _ (s₁.setTop (mkF m 14 l4 [])) _
      refine XS.iload X0.here hx rfl (hb hby at_14) rfl ?_
      show Steps _ _ _ (s₁.setTop (mkF m 16 l4 [(.int f)])) _
      refine XS.iconst X0.here hx rfl (hb hby at_16) ?_
      show Steps _ _ _ (s₁.setTop (mkF m 17 l4 [(.int (2 : Int32)), (.int f)])) _
      refine XS.iand X0.here hx rfl (hb hby at_17) rfl ?_
      show Steps _ _ _ (s₁.setTop (mkF m 18 l4 [(.int (f &&& (2 : Int32)))])) _
      exact hq)
    by_cases hc18_6 : (f &&& (2 : Int32)) = (0 : Int32)
    · -- pc 18, holds
      let l7 : Array Slot := #[.val (.long a), .second, .val (.long b), .second, .val (.long q), .second, .val (.int f), .val (.int (0 : Int32)), .val (.int (0 : Int32)), .unset, .unset, .unset, .unset, .unset, .unset, .unset, .unset, .unset, .unset, .unset]
      have k8 : To p.tables e below S0 (s₁.setTop (mkF m 32 l7 [(.int (f &&& (4 : Int32)))])) := fun tt hq => k5 tt (by
        show Steps _ _ _ (s₁.setTop (mkF m 18 l4 [(.int (f &&& (2 : Int32)))])) _
        refine XS.ifYes X0.here hx rfl (pc0 := 18) (pc' := 25) rfl (hb hby at_18) rfl ((if0 _ _).trans (teq hc18_6).1) (by decide) (by decide) ?_
        show Steps _ _ _ (s₁.setTop (mkF m 25 l4 [])) _
        refine XS.iconst X0.here hx rfl (hb hby at_25) ?_
        show Steps _ _ _ (s₁.setTop (mkF m 26 l4 [(.int (0 : Int32))])) _
        refine XS.istore X0.here hx rfl (hb hby at_26) rfl (l' := l7) rfl ?_
        show Steps _ _ _ (s₁.setTop (mkF m 28 l7 [])) _
        refine XS.iload X0.here hx rfl (hb hby at_28) rfl ?_
        show Steps _ _ _ (s₁.setTop (mkF m 30 l7 [(.int f)])) _
        refine XS.iconst X0.here hx rfl (hb hby at_30) ?_
        show Steps _ _ _ (s₁.setTop (mkF m 31 l7 [(.int (4 : Int32)), (.int f)])) _
        refine XS.iand X0.here hx rfl (hb hby at_31) rfl ?_
        show Steps _ _ _ (s₁.setTop (mkF m 32 l7 [(.int (f &&& (4 : Int32)))])) _
        exact hq)
      refine joinT (S0 := S0) X0 e0 (mkF m 44 l7 [(.ref (if (f &&& (4 : Int32)) = (0 : Int32) then qP else qF))]) (fun kont => ?_) (fun T9 X9 e9 k9 => ?_)
      · -- the roads to pc 44
        by_cases hc32_10 : (f &&& (4 : Int32)) = (0 : Int32)
        · -- pc 32, holds
          have k11 : To p.tables e below S0 (s₁.setTop (mkF m 41 l7 [])) := fun tt hq => k8 tt (by
            show Steps _ _ _ (s₁.setTop (mkF m 32 l7 [(.int (f &&& (4 : Int32)))])) _
            refine XS.ifYes X0.here hx rfl (pc0 := 32) (pc' := 41) rfl (hb hby at_32) rfl ((if0 _ _).trans (teq hc32_10).1) (by decide) (by decide) ?_
            show Steps _ _ _ (s₁.setTop (mkF m 41 l7 [])) _
            exact hq)
          obtain ⟨T12, X12, e12, st12⟩ := getS2 X0 hx hZ hown (host := "") (Or.inl (hw _ (List.mem_of_getElem? (i := 0) rfl))) Via.refl e0 (staOld S_P O0) (g := (mkF m 41 l7 [])) rfl (hb hby at_41)
          have k12 : To p.tables e below S0 (T12.setTop (mkF m 44 l7 [(.ref qP)])) := fun tt hq => k11 tt (st12 tt hq)
          exact kont T12 X12 e12 (fun tt hq => k12 tt (by simpa only [if_pos hc32_10] using hq))
        · -- pc 32, holds not
          have k13 : To p.tables e below S0 (s₁.setTop (mkF m 35 l7 [])) := fun tt hq => k8 tt (by
            show Steps _ _ _ (s₁.setTop (mkF m 32 l7 [(.int (f &&& (4 : Int32)))])) _
            refine XS.ifNo X0.here hx rfl (hb hby at_32) rfl ((if0 _ _).trans (feq hc32_10).1) ?_
            show Steps _ _ _ (s₁.setTop (mkF m 35 l7 [])) _
            exact hq)
          obtain ⟨T14, X14, e14, st14⟩ := getS2 X0 hx hZ hown (host := "") (Or.inl (hw _ (List.mem_of_getElem? (i := 60) rfl))) Via.refl e0 (staOld S_F O0) (g := (mkF m 35 l7 [])) rfl (hb hby at_35)
          have k14 : To p.tables e below S0 (T14.setTop (mkF m 38 l7 [(.ref qF)])) := fun tt hq => k13 tt (st14 tt hq)
          have k15 : To p.tables e below S0 (T14.setTop (mkF m 44 l7 [(.ref qF)])) := fun tt hq => k14 tt (by
            show Steps _ _ _ (T14.setTop (mkF m 38 l7 [(.ref qF)])) _
            refine XS.goto X14.here hx rfl (pc0 := 38) (pc' := 44) rfl (hb hby at_38) (by decide) (by decide) ?_
            show Steps _ _ _ (T14.setTop (mkF m 44 l7 [(.ref qF)])) _
            exact hq)
          exact kont T14 X14 e14 (fun tt hq => k15 tt (by simpa only [if_neg hc32_10] using hq))
      let l16 : Array Slot := #[.val (.long a), .second, .val (.long b), .second, .val (.long q), .second, .val (.int f), .val (.int (0 : Int32)), .val (.int (0 : Int32)), .val (.ref (if (f &&& (4 : Int32)) = (0 : Int32) then qP else qF)), .unset, .unset, .unset, .unset, .unset, .unset, .unset, .unset, .unset, .unset]
      have k17 : To p.tables e below S0 (T9.setTop (mkF m 51 l16 [(.int (f &&& (8 : Int32)))])) := fun tt hq => k9 tt (by
        show Steps _ _ _ (T9.setTop (mkF m 44 l7 [(.ref (if (f &&& (4 : Int32)) = (0 : Int32) then qP else qF))])) _
        refine XS.astore X9.here hx rfl (hb hby at_44) rfl rfl (l' := l16) rfl ?_
        show Steps _ _ _ (T9.setTop (mkF m 46 l16 [])) _
        refine XS.iload X9.here hx rfl (hb hby at_46) rfl ?_
        show Steps _ _ _ (T9.setTop (mkF m 48 l16 [(.int f)])) _
        refine XS.bipush X9.here hx rfl (hb hby at_48) ?_
        show Steps _ _ _ (T9.setTop (mkF m 50 l16 [(.int (8 : Int32)), (.int f)])) _
        refine XS.iand X9.here hx rfl (hb hby at_50) rfl ?_
        show Steps _ _ _ (T9.setTop (mkF m 51 l16 [(.int (f &&& (8 : Int32)))])) _
        exact hq)
      refine joinT (S0 := S0) X9 e9 (mkF m 63 l16 [(.ref (if (f &&& (8 : Int32)) = (0 : Int32) then qP else qF))]) (fun kont => ?_) (fun T18 X18 e18 k18 => ?_)
      · -- the roads to pc 63
        by_cases hc51_19 : (f &&& (8 : Int32)) = (0 : Int32)
        · -- pc 51, holds
          have k20 : To p.tables e below S0 (T9.setTop (mkF m 60 l16 [])) := fun tt hq => k17 tt (by
            show Steps _ _ _ (T9.setTop (mkF m 51 l16 [(.int (f &&& (8 : Int32)))])) _
            refine XS.ifYes X9.here hx rfl (pc0 := 51) (pc' := 60) rfl (hb hby at_51) rfl ((if0 _ _).trans (teq hc51_19).1) (by decide) (by decide) ?_
            show Steps _ _ _ (T9.setTop (mkF m 60 l16 [])) _
            exact hq)
          obtain ⟨T21, X21, e21, st21⟩ := getS2 X9 hx hZ hown (host := "") (Or.inl (hw _ (List.mem_of_getElem? (i := 0) rfl))) Via.refl e9 (staOld S_P O0) (g := (mkF m 60 l16 [])) rfl (hb hby at_60)
          have k21 : To p.tables e below S0 (T21.setTop (mkF m 63 l16 [(.ref qP)])) := fun tt hq => k20 tt (st21 tt hq)
          exact kont T21 X21 e21 (fun tt hq => k21 tt (by simpa only [if_pos hc51_19] using hq))
        · -- pc 51, holds not
          have k22 : To p.tables e below S0 (T9.setTop (mkF m 54 l16 [])) := fun tt hq => k17 tt (by
            show Steps _ _ _ (T9.setTop (mkF m 51 l16 [(.int (f &&& (8 : Int32)))])) _
            refine XS.ifNo X9.here hx rfl (hb hby at_51) rfl ((if0 _ _).trans (feq hc51_19).1) ?_
            show Steps _ _ _ (T9.setTop (mkF m 54 l16 [])) _
            exact hq)
          obtain ⟨T23, X23, e23, st23⟩ := getS2 X9 hx hZ hown (host := "") (Or.inl (hw _ (List.mem_of_getElem? (i := 60) rfl))) Via.refl e9 (staOld S_F O0) (g := (mkF m 54 l16 [])) rfl (hb hby at_54)
          have k23 : To p.tables e below S0 (T23.setTop (mkF m 57 l16 [(.ref qF)])) := fun tt hq => k22 tt (st23 tt hq)
          have k24 : To p.tables e below S0 (T23.setTop (mkF m 63 l16 [(.ref qF)])) := fun tt hq => k23 tt (by
            show Steps _ _ _ (T23.setTop (mkF m 57 l16 [(.ref qF)])) _
            refine XS.goto X23.here hx rfl (pc0 := 57) (pc' := 63) rfl (hb hby at_57) (by decide) (by decide) ?_
            show Steps _ _ _ (T23.setTop (mkF m 63 l16 [(.ref qF)])) _
            exact hq)
          exact kont T23 X23 e23 (fun tt hq => k24 tt (by simpa only [if_neg hc51_19] using hq))
      let l25 : Array Slot := #[.val (.long a), .second, .val (.long b), .second, .val (.long q), .second, .val (.int f), .val (.int (0 : Int32)), .val (.int (0 : Int32)), .val (.ref (if (f &&& (4 : Int32)) = (0 : Int32) then qP else qF)), .val (.ref (if (f &&& (8 : Int32)) = (0 : Int32) then qP else qF)), .unset, .unset, .unset, .unset, .unset, .unset, .unset, .unset, .unset]
      have k26 : To p.tables e below S0 (T18.setTop (mkF m 75 l25 [(.int ((((f.toUInt32 >>> ((8 : Int32) &&& 31).toUInt32).toInt32) &&& (255 : Int32)).toUInt32.toUInt16.toUInt32.toInt32))])) := fun tt hq => k18 tt (by
        show Steps _ _ _ (T18.setTop (mkF m 63 l16 [(.ref (if (f &&& (8 : Int32)) = (0 : Int32) then qP else qF))])) _
        refine XS.astore X18.here hx rfl (hb hby at_63) rfl rfl (l' := l25) rfl ?_
        show Steps _ _ _ (T18.setTop (mkF m 65 l25 [])) _
        refine XS.iload X18.here hx rfl (hb hby at_65) rfl ?_
        show Steps _ _ _ (T18.setTop (mkF m 67 l25 [(.int f)])) _
        refine XS.bipush X18.here hx rfl (hb hby at_67) ?_
        show Steps _ _ _ (T18.setTop (mkF m 69 l25 [(.int (8 : Int32)), (.int f)])) _
        refine XS.iushr X18.here hx rfl (hb hby at_69) rfl ?_
        show Steps _ _ _ (T18.setTop (mkF m 70 l25 [(.int ((f.toUInt32 >>> ((8 : Int32) &&& 31).toUInt32).toInt32))])) _
        refine XS.sipush X18.here hx rfl (hb hby at_70) ?_
        show Steps _ _ _ (T18.setTop (mkF m 73 l25 [(.int (255 : Int32)), (.int ((f.toUInt32 >>> ((8 : Int32) &&& 31).toUInt32).toInt32))])) _
        refine XS.iand X18.here hx rfl (hb hby at_73) rfl ?_
        show Steps _ _ _ (T18.setTop (mkF m 74 l25 [(.int (((f.toUInt32 >>> ((8 : Int32) &&& 31).toUInt32).toInt32) &&& (255 : Int32)))])) _
        refine XS.i2c X18.here hx rfl (hb hby at_74) rfl ?_
        show Steps _ _ _ (T18.setTop (mkF m 75 l25 [(.int ((((f.toUInt32 >>> ((8 : Int32) &&& 31).toUInt32).toInt32) &&& (255 : Int32)).toUInt32.toUInt16.toUInt32.toInt32))])) _
        exact hq)
      obtain ⟨_, T27, L27, X27, ⟨a27, t27, k27x, rfl, Nq27, ga27, gt27, Kq27, P270, P271, P272, P273⟩, k27a⟩ := callS' X18 hx hZ (y := (⟨"java/lang/String", "valueOf", "(C)Ljava/lang/String;"⟩ : MethodName)) hown (hw _ (List.mem_of_getElem? (i := 3) rfl)) (hw _ (List.mem_of_getElem? (i := 4) rfl)) (hw _ (List.mem_of_getElem? (i := 5) rfl)) (hw _ (List.mem_of_getElem? (i := 6) rfl)) (by decide) (backC (W := 0) (rm_vof l Z a0 hw zc ((((f.toUInt32 >>> ((8 : Int32) &&& 31).toUInt32).toInt32) &&& (255 : Int32)).toUInt32.toUInt16.toUInt32.toInt32) h0 n0 (by omega) S_c hzc O0 (own_le255 _)) hZ (hw _ (List.mem_of_getElem? (i := 6) rfl)) (hw _ (List.mem_of_getElem? (i := 5) rfl)) (by decide) (by decide)) e18 (argsL := [(.int ((((f.toUInt32 >>> ((8 : Int32) &&& 31).toUInt32).toInt32) &&& (255 : Int32)).toUInt32.toUInt16.toUInt32.toInt32))]) (rest := []) rfl rfl pd_12 rfl (by rw [hml]; rfl) (hb hby at_75) (Nat.le_of_eq rfl) (by decide) (by decide) k26
      have k27 : To p.tables e below S0 (T27.setTop (mkF m 78 l25 [(.ref a27)])) := k27a
      have N27 := N0.app Nq27
      obtain ⟨h27, e27⟩ : ∃ z, T27.heap = z := ⟨_, rfl⟩
      rw [e27] at Kq27 P270 P271 P272 P273
      have z27 : h0.size ≤ h27.size := Kq27.1
      have ya27 : @LT.lt Nat instLTNat a27 h27.size := P270.lt
      have yt27 : @LT.lt Nat instLTNat t27 h27.size := P273.lt
      let l28 : Array Slot := #[.val (.long a), .second, .val (.long b), .second, .val (.long q), .second, .val (.int f), .val (.int (0 : Int32)), .val (.int (0 : Int32)), .val (.ref (if (f &&& (4 : Int32)) = (0 : Int32) then qP else qF)), .val (.ref (if (f &&& (8 : Int32)) = (0 : Int32) then qP else qF)), .val (.ref a27), .unset, .unset, .unset, .unset, .unset, .unset, .unset, .unset]
      have k29 : To p.tables e below S0 (T27.setTop (mkF m 90 l28 [(.int ((((f.toUInt32 >>> ((16 : Int32) &&& 31).toUInt32).toInt32) &&& (255 : Int32)).toUInt32.toUInt16.toUInt32.toInt32))])) := fun tt hq => k27 tt (by
        show Steps _ _ _ (T27.setTop (mkF m 78 l25 [(.ref a27)])) _
        refine XS.astore X27.here hx rfl (hb hby at_78) rfl rfl (l' := l28) rfl ?_
        show Steps _ _ _ (T27.setTop (mkF m 80 l28 [])) _
        refine XS.iload X27.here hx rfl (hb hby at_80) rfl ?_
        show Steps _ _ _ (T27.setTop (mkF m 82 l28 [(.int f)])) _
        refine XS.bipush X27.here hx rfl (hb hby at_82) ?_
        show Steps _ _ _ (T27.setTop (mkF m 84 l28 [(.int (16 : Int32)), (.int f)])) _
        refine XS.iushr X27.here hx rfl (hb hby at_84) rfl ?_
        show Steps _ _ _ (T27.setTop (mkF m 85 l28 [(.int ((f.toUInt32 >>> ((16 : Int32) &&& 31).toUInt32).toInt32))])) _
        refine XS.sipush X27.here hx rfl (hb hby at_85) ?_
        show Steps _ _ _ (T27.setTop (mkF m 88 l28 [(.int (255 : Int32)), (.int ((f.toUInt32 >>> ((16 : Int32) &&& 31).toUInt32).toInt32))])) _
        refine XS.iand X27.here hx rfl (hb hby at_88) rfl ?_
        show Steps _ _ _ (T27.setTop (mkF m 89 l28 [(.int (((f.toUInt32 >>> ((16 : Int32) &&& 31).toUInt32).toInt32) &&& (255 : Int32)))])) _
        refine XS.i2c X27.here hx rfl (hb hby at_89) rfl ?_
        show Steps _ _ _ (T27.setTop (mkF m 90 l28 [(.int ((((f.toUInt32 >>> ((16 : Int32) &&& 31).toUInt32).toInt32) &&& (255 : Int32)).toUInt32.toUInt16.toUInt32.toInt32))])) _
        exact hq)
      have f30 : Old Z n0 h27 := (O0.keep Kq27 all0)
      obtain ⟨_, T31, L31, X31, ⟨a31, t31, k31x, rfl, Nq31, ga31, gt31, Kq31, P310, P311, P312, P313⟩, k31a⟩ := callS' X27 hx hZ (y := (⟨"java/lang/String", "valueOf", "(C)Ljava/lang/String;"⟩ : MethodName)) hown (hw _ (List.mem_of_getElem? (i := 3) rfl)) (hw _ (List.mem_of_getElem? (i := 4) rfl)) (hw _ (List.mem_of_getElem? (i := 5) rfl)) (hw _ (List.mem_of_getElem? (i := 6) rfl)) (by decide) (backC (W := 0) (rm_vof l Z a0 hw zc ((((f.toUInt32 >>> ((16 : Int32) &&& 31).toUInt32).toInt32) &&& (255 : Int32)).toUInt32.toUInt16.toUInt32.toInt32) h27 n0 (by omega) S_c hzc f30 (own_le255 _)) hZ (hw _ (List.mem_of_getElem? (i := 6) rfl)) (hw _ (List.mem_of_getElem? (i := 5) rfl)) (by decide) (by decide)) e27 (argsL := [(.int ((((f.toUInt32 >>> ((16 : Int32) &&& 31).toUInt32).toInt32) &&& (255 : Int32)).toUInt32.toUInt16.toUInt32.toInt32))]) (rest := []) rfl rfl pd_12 rfl (by rw [hml]; rfl) (hb hby at_90) (Nat.le_of_eq rfl) (by decide) (by decide) k29
      have k31 : To p.tables e below S0 (T31.setTop (mkF m 93 l28 [(.ref a31)])) := k31a
      have N31 := N27.app Nq31
      obtain ⟨h31, e31⟩ : ∃ z, T31.heap = z := ⟨_, rfl⟩
      rw [e31] at Kq31 P310 P311 P312 P313
      have z31 : h27.size ≤ h31.size := Kq31.1
      have ya31 : @LT.lt Nat instLTNat a31 h31.size := P310.lt
      have yt31 : @LT.lt Nat instLTNat t31 h31.size := P313.lt
      let l32 : Array Slot := #[.val (.long a), .second, .val (.long b), .second, .val (.long q), .second, .val (.int f), .val (.int (0 : Int32)), .val (.int (0 : Int32)), .val (.ref (if (f &&& (4 : Int32)) = (0 : Int32) then qP else qF)), .val (.ref (if (f &&& (8 : Int32)) = (0 : Int32) then qP else qF)), .val (.ref a27), .val (.ref a31), .unset, .unset, .unset, .unset, .unset, .unset, .unset]
      have k33 : To p.tables e below S0 (T31.setTop (mkF m 95 l32 [])) := fun tt hq => k31 tt (by
        show Steps _ _ _ (T31.setTop (mkF m 93 l28 [(.ref a31)])) _
        refine XS.astore X31.here hx rfl (hb hby at_93) rfl rfl (l' := l32) rfl ?_
        show Steps _ _ _ (T31.setTop (mkF m 95 l32 [])) _
        exact hq)
      obtain ⟨T34, h34, X34, e34, E34, A34, D34, -, st34⟩ := newO X31 hx hZ hown (hw _ (List.mem_of_getElem? (i := 29) rfl)) (hw _ (List.mem_of_getElem? (i := 30) rfl)) (hw _ (List.mem_of_getElem? (i := 31) rfl)) e31 (g := (mkF m 95 l32 [])) rfl (hb hby at_95) (by decide) (by decide)
      obtain ⟨b34, g34⟩ : ∃ z, z = h31.size := ⟨_, rfl⟩
      rw [← g34] at A34 D34 st34
      have k34 : To p.tables e below S0 (T34.setTop (mkF m 98 l32 [(.ref b34)])) := fun tt hq => k33 tt (st34 tt hq)
      have z34 : h31.size ≤ h34.size := E34.1
      have y34 : @LT.lt Nat instLTNat b34 h34.size := A34.lt
      have F34_highest : Fld Z h34 b34 "com/example/huntaway/huntaway/Precedence" "highest" "J" (.long (0 : Int64)) := D34 (Or.inl (hw _ (List.mem_of_getElem? (i := 38) rfl))) (ty := .long) (by decide)
      have F34_permitting : Fld Z h34 b34 "com/example/huntaway/huntaway/Precedence" "permitting" "Ljava/lang/String;" .null := D34 (Or.inl (hw _ (List.mem_of_getElem? (i := 50) rfl))) (ty := (.object "java/lang/String")) (by decide)
      have F34_forbidding : Fld Z h34 b34 "com/example/huntaway/huntaway/Precedence" "forbidding" "Ljava/lang/String;" .null := D34 (Or.inl (hw _ (List.mem_of_getElem? (i := 52) rfl))) (ty := (.object "java/lang/String")) (by decide)
      have k35 : To p.tables e below S0 (T34.setTop (mkF m 99 l32 [(.ref b34), (.ref b34)])) := fun tt hq => k34 tt (by
        show Steps _ _ _ (T34.setTop (mkF m 98 l32 [(.ref b34)])) _
        refine XS.dup X34.here hx rfl (hb hby at_98) rfl rfl ?_
        show Steps _ _ _ (T34.setTop (mkF m 99 l32 [(.ref b34), (.ref b34)])) _
        exact hq)
      obtain ⟨_, T36, L36, X36, ⟨rfl, Nq36, Kq36, P360, P361, P362, P363⟩, k36a⟩ := callC' X34 hx hZ (y := (⟨"com/example/huntaway/huntaway/Precedence", "<init>", "()V"⟩ : MethodName)) rfl hown (hw _ (List.mem_of_getElem? (i := 32) rfl)) (hw _ (List.mem_of_getElem? (i := 33) rfl)) (hw _ (List.mem_of_getElem? (i := 34) rfl)) (by decide) (backC (W := 1) (rm_pinit l Z a0 hw b34 h34 n0 (by omega) A34 F34_highest F34_permitting F34_forbidding (by omega)) hZ (hw _ (List.mem_of_getElem? (i := 34) rfl)) (hw _ (List.mem_of_getElem? (i := 31) rfl)) (by decide) (by decide)) e34 (argsL := []) (rest := [(.ref b34)]) rfl rfl pd_13 rfl (by rw [hml]; rfl) (hb hby at_99) (Nat.le_of_eq rfl) (by decide) (by decide) k35
      have k36 : To p.tables e below S0 (T36.setTop (mkF m 102 l32 [(.ref b34)])) := k36a
      have N36 := N31.app Nq36
      obtain ⟨h36, e36⟩ : ∃ z, T36.heap = z := ⟨_, rfl⟩
      rw [e36] at Kq36 P360 P361 P362 P363
      have z36 : h34.size ≤ h36.size := Kq36.1
      let l37 : Array Slot := #[.val (.long a), .second, .val (.long b), .second, .val (.long q), .second, .val (.int f), .val (.int (0 : Int32)), .val (.int (0 : Int32)), .val (.ref (if (f &&& (4 : Int32)) = (0 : Int32) then qP else qF)), .val (.ref (if (f &&& (8 : Int32)) = (0 : Int32) then qP else qF)), .val (.ref a27), .val (.ref a31), .val (.ref b34), .unset, .unset, .unset, .unset, .unset, .unset]
      have k38 : To p.tables e below S0 (T36.setTop (mkF m 108 l37 [(.long q), (.ref b34)])) := fun tt hq => k36 tt (by
        show Steps _ _ _ (T36.setTop (mkF m 102 l32 [(.ref b34)])) _
        refine XS.astore X36.here hx rfl (hb hby at_102) rfl rfl (l' := l37) rfl ?_
        show Steps _ _ _ (T36.setTop (mkF m 104 l37 [])) _
        refine XS.aload X36.here hx rfl (hb hby at_104) rfl rfl ?_
        show Steps _ _ _ (T36.setTop (mkF m 106 l37 [(.ref b34)])) _
        refine XS.lload X36.here hx rfl (hb hby at_106) rfl ?_
        show Steps _ _ _ (T36.setTop (mkF m 108 l37 [(.long q), (.ref b34)])) _
        exact hq)
      obtain ⟨_, T39, L39, X39, ⟨rfl, Nq39, eq39⟩, k39a⟩ := callV' X36 hx hZ (y := (⟨"com/example/huntaway/huntaway/Precedence", "couldCount", "(J)Z"⟩ : MethodName)) (z := (⟨"com/example/huntaway/huntaway/Precedence", "couldCount", "(J)Z"⟩ : MethodName)) hown (hw _ (List.mem_of_getElem? (i := 39) rfl)) (hw _ (List.mem_of_getElem? (i := 40) rfl)) (notFace_of_selects (args := #[]) (mvT hZ (hw _ (List.mem_of_getElem? (i := 42) rfl)))) (hw _ (List.mem_of_getElem? (i := 42) rfl)) (hw _ (List.mem_of_getElem? (i := 41) rfl)) (by decide) P360 (backC (W := 0) (rm_could l Z a0 hw b34 (-9223372036854775808 : Int64) q (1 : Int32) h36 n0 (by omega) P361 (fun z => absurd z (own_min64 _)) (fun _ => rfl)) hZ (hw _ (List.mem_of_getElem? (i := 43) rfl)) (hw _ (List.mem_of_getElem? (i := 31) rfl)) (by decide) (by decide)) e36 (argsL := [(.long q)]) (rest := []) rfl rfl pd_14 rfl (by rw [hml]; rfl) (hb hby at_108) (Nat.le_of_eq rfl) (by decide) (by decide) k38
      have k39 : To p.tables e below S0 (T39.setTop (mkF m 111 l37 [(.int (1 : Int32))])) := k39a
      have N39 := N36.app Nq39
      have e39 : T39.heap = h36 := eq39
      let l40 : Array Slot := #[.val (.long a), .second, .val (.long b), .second, .val (.long q), .second, .val (.int f), .val (.int (0 : Int32)), .val (.int (0 : Int32)), .val (.ref (if (f &&& (4 : Int32)) = (0 : Int32) then qP else qF)), .val (.ref (if (f &&& (8 : Int32)) = (0 : Int32) then qP else qF)), .val (.ref a27), .val (.ref a31), .val (.ref b34), .val (.int (1 : Int32)), .unset, .unset, .unset, .unset, .unset]
      let l41 : Array Slot := #[.val (.long a), .second, .val (.long b), .second, .val (.long q), .second, .val (.int f), .val (.int (0 : Int32)), .val (.int (0 : Int32)), .val (.ref (if (f &&& (4 : Int32)) = (0 : Int32) then qP else qF)), .val (.ref (if (f &&& (8 : Int32)) = (0 : Int32) then qP else qF)), .val (.ref a27), .val (.ref a31), .val (.ref b34), .val (.int (1 : Int32)), .val (.int (0 : Int32)), .unset, .unset, .unset, .unset]
      let l42 : Array Slot := #[.val (.long a), .second, .val (.long b), .second, .val (.long q), .second, .val (.int f), .val (.int (0 : Int32)), .val (.int (0 : Int32)), .val (.ref (if (f &&& (4 : Int32)) = (0 : Int32) then qP else qF)), .val (.ref (if (f &&& (8 : Int32)) = (0 : Int32) then qP else qF)), .val (.ref a27), .val (.ref a31), .val (.ref b34), .val (.int (1 : Int32)), .val (.int (0 : Int32)), .val (.long b), .second, .unset, .unset]
      let l43 : Array Slot := #[.val (.long a), .second, .val (.long b), .second, .val (.long q), .second, .val (.int f), .val (.int (0 : Int32)), .val (.int (0 : Int32)), .val (.ref (if (f &&& (4 : Int32)) = (0 : Int32) then qP else qF)), .val (.ref (if (f &&& (8 : Int32)) = (0 : Int32) then qP else qF)), .val (.ref a27), .val (.ref a31), .val (.ref b34), .val (.int (1 : Int32)), .val (.int (0 : Int32)), .val (.long b), .second, .val (.int (1 : Int32)), .unset]
      have k44 : To p.tables e below S0 (T39.setTop (mkF m 214 l43 [(.long q), (.ref b34)])) := fun tt hq => k39 tt (by
        show Steps _ _ _ (T39.setTop (mkF m 111 l37 [(.int (1 : Int32))])) _
        refine XS.istore X39.here hx rfl (hb hby at_111) rfl (l' := l40) rfl ?_
        show Steps _ _ _ (T39.setTop (mkF m 113 l40 [])) _
        refine XS.iload X39.here hx rfl (hb hby at_113) rfl ?_
        show Steps _ _ _ (T39.setTop (mkF m 115 l40 [(.int (0 : Int32))])) _
        refine XS.ifYes X39.here hx rfl (pc0 := 115) (pc' := 128) rfl (hb hby at_115) rfl ((if0 _ _).trans (teq (by decide)).1) (by decide) (by decide) ?_
        show Steps _ _ _ (T39.setTop (mkF m 128 l40 [])) _
        refine XS.iload X39.here hx rfl (hb hby at_128) rfl ?_
        show Steps _ _ _ (T39.setTop (mkF m 130 l40 [(.int (0 : Int32))])) _
        refine XS.ifYes X39.here hx rfl (pc0 := 130) (pc' := 143) rfl (hb hby at_130) rfl ((if0 _ _).trans (teq (by decide)).1) (by decide) (by decide) ?_
        show Steps _ _ _ (T39.setTop (mkF m 143 l40 [])) _
        refine XS.iload X39.here hx rfl (hb hby at_143) rfl ?_
        show Steps _ _ _ (T39.setTop (mkF m 145 l40 [(.int (0 : Int32))])) _
        refine XS.ifNo X39.here hx rfl (hb hby at_145) rfl ((if0 _ _).trans (teq (by decide)).2) ?_
        show Steps _ _ _ (T39.setTop (mkF m 148 l40 [])) _
        refine XS.iload X39.here hx rfl (hb hby at_148) rfl ?_
        show Steps _ _ _ (T39.setTop (mkF m 150 l40 [(.int (0 : Int32))])) _
        refine XS.ifYes X39.here hx rfl (pc0 := 150) (pc' := 157) rfl (hb hby at_150) rfl ((if0 _ _).trans (teq (by decide)).1) (by decide) (by decide) ?_
        show Steps _ _ _ (T39.setTop (mkF m 157 l40 [])) _
        refine XS.iconst X39.here hx rfl (hb hby at_157) ?_
        show Steps _ _ _ (T39.setTop (mkF m 158 l40 [(.int (0 : Int32))])) _
        refine XS.istore X39.here hx rfl (hb hby at_158) rfl (l' := l41) rfl ?_
        show Steps _ _ _ (T39.setTop (mkF m 160 l41 [])) _
        refine XS.iload X39.here hx rfl (hb hby at_160) rfl ?_
        show Steps _ _ _ (T39.setTop (mkF m 162 l41 [(.int (0 : Int32))])) _
        refine XS.ifYes X39.here hx rfl (pc0 := 162) (pc' := 182) rfl (hb hby at_162) rfl ((if0 _ _).trans (teq (by decide)).1) (by decide) (by decide) ?_
        show Steps _ _ _ (T39.setTop (mkF m 182 l41 [])) _
        refine XS.lloadN X39.here hx rfl (hb hby at_182) rfl ?_
        show Steps _ _ _ (T39.setTop (mkF m 183 l41 [(.long b)])) _
        refine XS.lstore X39.here hx rfl (hb hby at_183) rfl (l' := l42) rfl ?_
        show Steps _ _ _ (T39.setTop (mkF m 185 l42 [])) _
        refine XS.iload X39.here hx rfl (hb hby at_185) rfl ?_
        show Steps _ _ _ (T39.setTop (mkF m 187 l42 [(.int (0 : Int32))])) _
        refine XS.ifYes X39.here hx rfl (pc0 := 187) (pc' := 198) rfl (hb hby at_187) rfl ((if0 _ _).trans (teq (by decide)).1) (by decide) (by decide) ?_
        show Steps _ _ _ (T39.setTop (mkF m 198 l42 [])) _
        refine XS.iconst X39.here hx rfl (hb hby at_198) ?_
        show Steps _ _ _ (T39.setTop (mkF m 199 l42 [(.int (1 : Int32))])) _
        refine XS.goto X39.here hx rfl (pc0 := 199) (pc' := 203) rfl (hb hby at_199) (by decide) (by decide) ?_
        show Steps _ _ _ (T39.setTop (mkF m 203 l42 [(.int (1 : Int32))])) _
        refine XS.istore X39.here hx rfl (hb hby at_203) rfl (l' := l43) rfl ?_
        show Steps _ _ _ (T39.setTop (mkF m 205 l43 [])) _
        refine XS.iload X39.here hx rfl (hb hby at_205) rfl ?_
        show Steps _ _ _ (T39.setTop (mkF m 207 l43 [(.int (1 : Int32))])) _
        refine XS.ifNo X39.here hx rfl (hb hby at_207) rfl ((if0 _ _).trans (feq (by decide)).1) ?_
        show Steps _ _ _ (T39.setTop (mkF m 210 l43 [])) _
        refine XS.aload X39.here hx rfl (hb hby at_210) rfl rfl ?_
        show Steps _ _ _ (T39.setTop (mkF m 212 l43 [(.ref b34)])) _
        refine XS.lload X39.here hx rfl (hb hby at_212) rfl ?_
        show Steps _ _ _ (T39.setTop (mkF m 214 l43 [(.long q), (.ref b34)])) _
        exact hq)
      obtain ⟨_, T45, L45, X45, ⟨rfl, Nq45, eq45⟩, k45a⟩ := callV' X39 hx hZ (y := (⟨"com/example/huntaway/huntaway/Precedence", "couldCount", "(J)Z"⟩ : MethodName)) (z := (⟨"com/example/huntaway/huntaway/Precedence", "couldCount", "(J)Z"⟩ : MethodName)) hown (hw _ (List.mem_of_getElem? (i := 39) rfl)) (hw _ (List.mem_of_getElem? (i := 40) rfl)) (notFace_of_selects (args := #[]) (mvT hZ (hw _ (List.mem_of_getElem? (i := 42) rfl)))) (hw _ (List.mem_of_getElem? (i := 42) rfl)) (hw _ (List.mem_of_getElem? (i := 41) rfl)) (by decide) P360 (backC (W := 0) (rm_could l Z a0 hw b34 (-9223372036854775808 : Int64) q (1 : Int32) h36 n0 (by omega) P361 (fun z => absurd z (own_min64 _)) (fun _ => rfl)) hZ (hw _ (List.mem_of_getElem? (i := 43) rfl)) (hw _ (List.mem_of_getElem? (i := 31) rfl)) (by decide) (by decide)) e39 (argsL := [(.long q)]) (rest := []) rfl rfl pd_14 rfl (by rw [hml]; rfl) (hb hby at_214) (Nat.le_of_eq rfl) (by decide) (by decide) k44
      have k45 : To p.tables e below S0 (T45.setTop (mkF m 217 l43 [(.int (1 : Int32))])) := k45a
      have N45 := N39.app Nq45
      have e45 : T45.heap = h36 := eq45
      let l46 : Array Slot := #[.val (.long a), .second, .val (.long b), .second, .val (.long q), .second, .val (.int f), .val (.int (0 : Int32)), .val (.int (0 : Int32)), .val (.ref (if (f &&& (4 : Int32)) = (0 : Int32) then qP else qF)), .val (.ref (if (f &&& (8 : Int32)) = (0 : Int32) then qP else qF)), .val (.ref a27), .val (.ref a31), .val (.ref b34), .val (.int (1 : Int32)), .val (.int (0 : Int32)), .val (.long b), .second, .val (.int (1 : Int32)), .val (.int (1 : Int32))]
      have k47 : To p.tables e below S0 (T45.setTop (mkF m 291 l46 [(.int (1 : Int32))])) := fun tt hq => k45 tt (by
        show Steps _ _ _ (T45.setTop (mkF m 217 l43 [(.int (1 : Int32))])) _
        refine XS.iload X45.here hx rfl (hb hby at_217) rfl ?_
        show Steps _ _ _ (T45.setTop (mkF m 219 l43 [(.int (1 : Int32)), (.int (1 : Int32))])) _
        refine XS.icmpNo X45.here hx rfl (hb hby at_219) rfl (teq (by decide)).2 ?_
        show Steps _ _ _ (T45.setTop (mkF m 222 l43 [])) _
        refine XS.iconst X45.here hx rfl (hb hby at_222) ?_
        show Steps _ _ _ (T45.setTop (mkF m 223 l43 [(.int (1 : Int32))])) _
        refine XS.goto X45.here hx rfl (pc0 := 223) (pc' := 227) rfl (hb hby at_223) (by decide) (by decide) ?_
        show Steps _ _ _ (T45.setTop (mkF m 227 l43 [(.int (1 : Int32))])) _
        refine XS.istore X45.here hx rfl (hb hby at_227) rfl (l' := l46) rfl ?_
        show Steps _ _ _ (T45.setTop (mkF m 229 l46 [])) _
        refine XS.iload X45.here hx rfl (hb hby at_229) rfl ?_
        show Steps _ _ _ (T45.setTop (mkF m 231 l46 [(.int (0 : Int32))])) _
        refine XS.ifYes X45.here hx rfl (pc0 := 231) (pc' := 289) rfl (hb hby at_231) rfl ((if0 _ _).trans (teq (by decide)).1) (by decide) (by decide) ?_
        show Steps _ _ _ (T45.setTop (mkF m 289 l46 [])) _
        refine XS.iload X45.here hx rfl (hb hby at_289) rfl ?_
        show Steps _ _ _ (T45.setTop (mkF m 291 l46 [(.int (1 : Int32))])) _
        exact hq)
      have hE := e45
      refine retInt X45 hx hret hlk (by simp) rfl (hb hby at_291) k47 ?_ (by decide) (by decide)
      try rw [hE]
      exact ⟨rfl, N45⟩
    · -- pc 18, holds not
      let l48 : Array Slot := #[.val (.long a), .second, .val (.long b), .second, .val (.long q), .second, .val (.int f), .val (.int (0 : Int32)), .val (.int (1 : Int32)), .unset, .unset, .unset, .unset, .unset, .unset, .unset, .unset, .unset, .unset, .unset]
      have k49 : To p.tables e below S0 (s₁.setTop (mkF m 32 l48 [(.int (f &&& (4 : Int32)))])) := fun tt hq => k5 tt (by
        show Steps _ _ _ (s₁.setTop (mkF m 18 l4 [(.int (f &&& (2 : Int32)))])) _
        refine XS.ifNo X0.here hx rfl (hb hby at_18) rfl ((if0 _ _).trans (feq hc18_6).1) ?_
        show Steps _ _ _ (s₁.setTop (mkF m 21 l4 [])) _
        refine XS.iconst X0.here hx rfl (hb hby at_21) ?_
        show Steps _ _ _ (s₁.setTop (mkF m 22 l4 [(.int (1 : Int32))])) _
        refine XS.goto X0.here hx rfl (pc0 := 22) (pc' := 26) rfl (hb hby at_22) (by decide) (by decide) ?_
        show Steps _ _ _ (s₁.setTop (mkF m 26 l4 [(.int (1 : Int32))])) _
        refine XS.istore X0.here hx rfl (hb hby at_26) rfl (l' := l48) rfl ?_
        show Steps _ _ _ (s₁.setTop (mkF m 28 l48 [])) _
        refine XS.iload X0.here hx rfl (hb hby at_28) rfl ?_
        show Steps _ _ _ (s₁.setTop (mkF m 30 l48 [(.int f)])) _
        refine XS.iconst X0.here hx rfl (hb hby at_30) ?_
        show Steps _ _ _ (s₁.setTop (mkF m 31 l48 [(.int (4 : Int32)), (.int f)])) _
        refine XS.iand X0.here hx rfl (hb hby at_31) rfl ?_
        show Steps _ _ _ (s₁.setTop (mkF m 32 l48 [(.int (f &&& (4 : Int32)))])) _
        exact hq)
      refine joinT (S0 := S0) X0 e0 (mkF m 44 l48 [(.ref (if (f &&& (4 : Int32)) = (0 : Int32) then qP else qF))]) (fun kont => ?_) (fun T50 X50 e50 k50 => ?_)
      · -- the roads to pc 44
        by_cases hc32_51 : (f &&& (4 : Int32)) = (0 : Int32)
        · -- pc 32, holds
          have k52 : To p.tables e below S0 (s₁.setTop (mkF m 41 l48 [])) := fun tt hq => k49 tt (by
            show Steps _ _ _ (s₁.setTop (mkF m 32 l48 [(.int (f &&& (4 : Int32)))])) _
            refine XS.ifYes X0.here hx rfl (pc0 := 32) (pc' := 41) rfl (hb hby at_32) rfl ((if0 _ _).trans (teq hc32_51).1) (by decide) (by decide) ?_
            show Steps _ _ _ (s₁.setTop (mkF m 41 l48 [])) _
            exact hq)
          obtain ⟨T53, X53, e53, st53⟩ := getS2 X0 hx hZ hown (host := "") (Or.inl (hw _ (List.mem_of_getElem? (i := 0) rfl))) Via.refl e0 (staOld S_P O0) (g := (mkF m 41 l48 [])) rfl (hb hby at_41)
          have k53 : To p.tables e below S0 (T53.setTop (mkF m 44 l48 [(.ref qP)])) := fun tt hq => k52 tt (st53 tt hq)
          exact kont T53 X53 e53 (fun tt hq => k53 tt (by simpa only [if_pos hc32_51] using hq))
        · -- pc 32, holds not
          have k54 : To p.tables e below S0 (s₁.setTop (mkF m 35 l48 [])) := fun tt hq => k49 tt (by
            show Steps _ _ _ (s₁.setTop (mkF m 32 l48 [(.int (f &&& (4 : Int32)))])) _
            refine XS.ifNo X0.here hx rfl (hb hby at_32) rfl ((if0 _ _).trans (feq hc32_51).1) ?_
            show Steps _ _ _ (s₁.setTop (mkF m 35 l48 [])) _
            exact hq)
          obtain ⟨T55, X55, e55, st55⟩ := getS2 X0 hx hZ hown (host := "") (Or.inl (hw _ (List.mem_of_getElem? (i := 60) rfl))) Via.refl e0 (staOld S_F O0) (g := (mkF m 35 l48 [])) rfl (hb hby at_35)
          have k55 : To p.tables e below S0 (T55.setTop (mkF m 38 l48 [(.ref qF)])) := fun tt hq => k54 tt (st55 tt hq)
          have k56 : To p.tables e below S0 (T55.setTop (mkF m 44 l48 [(.ref qF)])) := fun tt hq => k55 tt (by
            show Steps _ _ _ (T55.setTop (mkF m 38 l48 [(.ref qF)])) _
            refine XS.goto X55.here hx rfl (pc0 := 38) (pc' := 44) rfl (hb hby at_38) (by decide) (by decide) ?_
            show Steps _ _ _ (T55.setTop (mkF m 44 l48 [(.ref qF)])) _
            exact hq)
          exact kont T55 X55 e55 (fun tt hq => k56 tt (by simpa only [if_neg hc32_51] using hq))
      let l57 : Array Slot := #[.val (.long a), .second, .val (.long b), .second, .val (.long q), .second, .val (.int f), .val (.int (0 : Int32)), .val (.int (1 : Int32)), .val (.ref (if (f &&& (4 : Int32)) = (0 : Int32) then qP else qF)), .unset, .unset, .unset, .unset, .unset, .unset, .unset, .unset, .unset, .unset]
      have k58 : To p.tables e below S0 (T50.setTop (mkF m 51 l57 [(.int (f &&& (8 : Int32)))])) := fun tt hq => k50 tt (by
        show Steps _ _ _ (T50.setTop (mkF m 44 l48 [(.ref (if (f &&& (4 : Int32)) = (0 : Int32) then qP else qF))])) _
        refine XS.astore X50.here hx rfl (hb hby at_44) rfl rfl (l' := l57) rfl ?_
        show Steps _ _ _ (T50.setTop (mkF m 46 l57 [])) _
        refine XS.iload X50.here hx rfl (hb hby at_46) rfl ?_
        show Steps _ _ _ (T50.setTop (mkF m 48 l57 [(.int f)])) _
        refine XS.bipush X50.here hx rfl (hb hby at_48) ?_
        show Steps _ _ _ (T50.setTop (mkF m 50 l57 [(.int (8 : Int32)), (.int f)])) _
        refine XS.iand X50.here hx rfl (hb hby at_50) rfl ?_
        show Steps _ _ _ (T50.setTop (mkF m 51 l57 [(.int (f &&& (8 : Int32)))])) _
        exact hq)
      refine joinT (S0 := S0) X50 e50 (mkF m 63 l57 [(.ref (if (f &&& (8 : Int32)) = (0 : Int32) then qP else qF))]) (fun kont => ?_) (fun T59 X59 e59 k59 => ?_)
      · -- the roads to pc 63
        by_cases hc51_60 : (f &&& (8 : Int32)) = (0 : Int32)
        · -- pc 51, holds
          have k61 : To p.tables e below S0 (T50.setTop (mkF m 60 l57 [])) := fun tt hq => k58 tt (by
            show Steps _ _ _ (T50.setTop (mkF m 51 l57 [(.int (f &&& (8 : Int32)))])) _
            refine XS.ifYes X50.here hx rfl (pc0 := 51) (pc' := 60) rfl (hb hby at_51) rfl ((if0 _ _).trans (teq hc51_60).1) (by decide) (by decide) ?_
            show Steps _ _ _ (T50.setTop (mkF m 60 l57 [])) _
            exact hq)
          obtain ⟨T62, X62, e62, st62⟩ := getS2 X50 hx hZ hown (host := "") (Or.inl (hw _ (List.mem_of_getElem? (i := 0) rfl))) Via.refl e50 (staOld S_P O0) (g := (mkF m 60 l57 [])) rfl (hb hby at_60)
          have k62 : To p.tables e below S0 (T62.setTop (mkF m 63 l57 [(.ref qP)])) := fun tt hq => k61 tt (st62 tt hq)
          exact kont T62 X62 e62 (fun tt hq => k62 tt (by simpa only [if_pos hc51_60] using hq))
        · -- pc 51, holds not
          have k63 : To p.tables e below S0 (T50.setTop (mkF m 54 l57 [])) := fun tt hq => k58 tt (by
            show Steps _ _ _ (T50.setTop (mkF m 51 l57 [(.int (f &&& (8 : Int32)))])) _
            refine XS.ifNo X50.here hx rfl (hb hby at_51) rfl ((if0 _ _).trans (feq hc51_60).1) ?_
            show Steps _ _ _ (T50.setTop (mkF m 54 l57 [])) _
            exact hq)
          obtain ⟨T64, X64, e64, st64⟩ := getS2 X50 hx hZ hown (host := "") (Or.inl (hw _ (List.mem_of_getElem? (i := 60) rfl))) Via.refl e50 (staOld S_F O0) (g := (mkF m 54 l57 [])) rfl (hb hby at_54)
          have k64 : To p.tables e below S0 (T64.setTop (mkF m 57 l57 [(.ref qF)])) := fun tt hq => k63 tt (st64 tt hq)
          have k65 : To p.tables e below S0 (T64.setTop (mkF m 63 l57 [(.ref qF)])) := fun tt hq => k64 tt (by
            show Steps _ _ _ (T64.setTop (mkF m 57 l57 [(.ref qF)])) _
            refine XS.goto X64.here hx rfl (pc0 := 57) (pc' := 63) rfl (hb hby at_57) (by decide) (by decide) ?_
            show Steps _ _ _ (T64.setTop (mkF m 63 l57 [(.ref qF)])) _
            exact hq)
          exact kont T64 X64 e64 (fun tt hq => k65 tt (by simpa only [if_neg hc51_60] using hq))
      let l66 : Array Slot := #[.val (.long a), .second, .val (.long b), .second, .val (.long q), .second, .val (.int f), .val (.int (0 : Int32)), .val (.int (1 : Int32)), .val (.ref (if (f &&& (4 : Int32)) = (0 : Int32) then qP else qF)), .val (.ref (if (f &&& (8 : Int32)) = (0 : Int32) then qP else qF)), .unset, .unset, .unset, .unset, .unset, .unset, .unset, .unset, .unset]
      have k67 : To p.tables e below S0 (T59.setTop (mkF m 75 l66 [(.int ((((f.toUInt32 >>> ((8 : Int32) &&& 31).toUInt32).toInt32) &&& (255 : Int32)).toUInt32.toUInt16.toUInt32.toInt32))])) := fun tt hq => k59 tt (by
        show Steps _ _ _ (T59.setTop (mkF m 63 l57 [(.ref (if (f &&& (8 : Int32)) = (0 : Int32) then qP else qF))])) _
        refine XS.astore X59.here hx rfl (hb hby at_63) rfl rfl (l' := l66) rfl ?_
        show Steps _ _ _ (T59.setTop (mkF m 65 l66 [])) _
        refine XS.iload X59.here hx rfl (hb hby at_65) rfl ?_
        show Steps _ _ _ (T59.setTop (mkF m 67 l66 [(.int f)])) _
        refine XS.bipush X59.here hx rfl (hb hby at_67) ?_
        show Steps _ _ _ (T59.setTop (mkF m 69 l66 [(.int (8 : Int32)), (.int f)])) _
        refine XS.iushr X59.here hx rfl (hb hby at_69) rfl ?_
        show Steps _ _ _ (T59.setTop (mkF m 70 l66 [(.int ((f.toUInt32 >>> ((8 : Int32) &&& 31).toUInt32).toInt32))])) _
        refine XS.sipush X59.here hx rfl (hb hby at_70) ?_
        show Steps _ _ _ (T59.setTop (mkF m 73 l66 [(.int (255 : Int32)), (.int ((f.toUInt32 >>> ((8 : Int32) &&& 31).toUInt32).toInt32))])) _
        refine XS.iand X59.here hx rfl (hb hby at_73) rfl ?_
        show Steps _ _ _ (T59.setTop (mkF m 74 l66 [(.int (((f.toUInt32 >>> ((8 : Int32) &&& 31).toUInt32).toInt32) &&& (255 : Int32)))])) _
        refine XS.i2c X59.here hx rfl (hb hby at_74) rfl ?_
        show Steps _ _ _ (T59.setTop (mkF m 75 l66 [(.int ((((f.toUInt32 >>> ((8 : Int32) &&& 31).toUInt32).toInt32) &&& (255 : Int32)).toUInt32.toUInt16.toUInt32.toInt32))])) _
        exact hq)
      obtain ⟨_, T68, L68, X68, ⟨a68, t68, k68x, rfl, Nq68, ga68, gt68, Kq68, P680, P681, P682, P683⟩, k68a⟩ := callS' X59 hx hZ (y := (⟨"java/lang/String", "valueOf", "(C)Ljava/lang/String;"⟩ : MethodName)) hown (hw _ (List.mem_of_getElem? (i := 3) rfl)) (hw _ (List.mem_of_getElem? (i := 4) rfl)) (hw _ (List.mem_of_getElem? (i := 5) rfl)) (hw _ (List.mem_of_getElem? (i := 6) rfl)) (by decide) (backC (W := 0) (rm_vof l Z a0 hw zc ((((f.toUInt32 >>> ((8 : Int32) &&& 31).toUInt32).toInt32) &&& (255 : Int32)).toUInt32.toUInt16.toUInt32.toInt32) h0 n0 (by omega) S_c hzc O0 (own_le255 _)) hZ (hw _ (List.mem_of_getElem? (i := 6) rfl)) (hw _ (List.mem_of_getElem? (i := 5) rfl)) (by decide) (by decide)) e59 (argsL := [(.int ((((f.toUInt32 >>> ((8 : Int32) &&& 31).toUInt32).toInt32) &&& (255 : Int32)).toUInt32.toUInt16.toUInt32.toInt32))]) (rest := []) rfl rfl pd_12 rfl (by rw [hml]; rfl) (hb hby at_75) (Nat.le_of_eq rfl) (by decide) (by decide) k67
      have k68 : To p.tables e below S0 (T68.setTop (mkF m 78 l66 [(.ref a68)])) := k68a
      have N68 := N0.app Nq68
      obtain ⟨h68, e68⟩ : ∃ z, T68.heap = z := ⟨_, rfl⟩
      rw [e68] at Kq68 P680 P681 P682 P683
      have z68 : h0.size ≤ h68.size := Kq68.1
      have ya68 : @LT.lt Nat instLTNat a68 h68.size := P680.lt
      have yt68 : @LT.lt Nat instLTNat t68 h68.size := P683.lt
      let l69 : Array Slot := #[.val (.long a), .second, .val (.long b), .second, .val (.long q), .second, .val (.int f), .val (.int (0 : Int32)), .val (.int (1 : Int32)), .val (.ref (if (f &&& (4 : Int32)) = (0 : Int32) then qP else qF)), .val (.ref (if (f &&& (8 : Int32)) = (0 : Int32) then qP else qF)), .val (.ref a68), .unset, .unset, .unset, .unset, .unset, .unset, .unset, .unset]
      have k70 : To p.tables e below S0 (T68.setTop (mkF m 90 l69 [(.int ((((f.toUInt32 >>> ((16 : Int32) &&& 31).toUInt32).toInt32) &&& (255 : Int32)).toUInt32.toUInt16.toUInt32.toInt32))])) := fun tt hq => k68 tt (by
        show Steps _ _ _ (T68.setTop (mkF m 78 l66 [(.ref a68)])) _
        refine XS.astore X68.here hx rfl (hb hby at_78) rfl rfl (l' := l69) rfl ?_
        show Steps _ _ _ (T68.setTop (mkF m 80 l69 [])) _
        refine XS.iload X68.here hx rfl (hb hby at_80) rfl ?_
        show Steps _ _ _ (T68.setTop (mkF m 82 l69 [(.int f)])) _
        refine XS.bipush X68.here hx rfl (hb hby at_82) ?_
        show Steps _ _ _ (T68.setTop (mkF m 84 l69 [(.int (16 : Int32)), (.int f)])) _
        refine XS.iushr X68.here hx rfl (hb hby at_84) rfl ?_
        show Steps _ _ _ (T68.setTop (mkF m 85 l69 [(.int ((f.toUInt32 >>> ((16 : Int32) &&& 31).toUInt32).toInt32))])) _
        refine XS.sipush X68.here hx rfl (hb hby at_85) ?_
        show Steps _ _ _ (T68.setTop (mkF m 88 l69 [(.int (255 : Int32)), (.int ((f.toUInt32 >>> ((16 : Int32) &&& 31).toUInt32).toInt32))])) _
        refine XS.iand X68.here hx rfl (hb hby at_88) rfl ?_
        show Steps _ _ _ (T68.setTop (mkF m 89 l69 [(.int (((f.toUInt32 >>> ((16 : Int32) &&& 31).toUInt32).toInt32) &&& (255 : Int32)))])) _
        refine XS.i2c X68.here hx rfl (hb hby at_89) rfl ?_
        show Steps _ _ _ (T68.setTop (mkF m 90 l69 [(.int ((((f.toUInt32 >>> ((16 : Int32) &&& 31).toUInt32).toInt32) &&& (255 : Int32)).toUInt32.toUInt16.toUInt32.toInt32))])) _
        exact hq)
      have f71 : Old Z n0 h68 := (O0.keep Kq68 all0)
      obtain ⟨_, T72, L72, X72, ⟨a72, t72, k72x, rfl, Nq72, ga72, gt72, Kq72, P720, P721, P722, P723⟩, k72a⟩ := callS' X68 hx hZ (y := (⟨"java/lang/String", "valueOf", "(C)Ljava/lang/String;"⟩ : MethodName)) hown (hw _ (List.mem_of_getElem? (i := 3) rfl)) (hw _ (List.mem_of_getElem? (i := 4) rfl)) (hw _ (List.mem_of_getElem? (i := 5) rfl)) (hw _ (List.mem_of_getElem? (i := 6) rfl)) (by decide) (backC (W := 0) (rm_vof l Z a0 hw zc ((((f.toUInt32 >>> ((16 : Int32) &&& 31).toUInt32).toInt32) &&& (255 : Int32)).toUInt32.toUInt16.toUInt32.toInt32) h68 n0 (by omega) S_c hzc f71 (own_le255 _)) hZ (hw _ (List.mem_of_getElem? (i := 6) rfl)) (hw _ (List.mem_of_getElem? (i := 5) rfl)) (by decide) (by decide)) e68 (argsL := [(.int ((((f.toUInt32 >>> ((16 : Int32) &&& 31).toUInt32).toInt32) &&& (255 : Int32)).toUInt32.toUInt16.toUInt32.toInt32))]) (rest := []) rfl rfl pd_12 rfl (by rw [hml]; rfl) (hb hby at_90) (Nat.le_of_eq rfl) (by decide) (by decide) k70
      have k72 : To p.tables e below S0 (T72.setTop (mkF m 93 l69 [(.ref a72)])) := k72a
      have N72 := N68.app Nq72
      obtain ⟨h72, e72⟩ : ∃ z, T72.heap = z := ⟨_, rfl⟩
      rw [e72] at Kq72 P720 P721 P722 P723
      have z72 : h68.size ≤ h72.size := Kq72.1
      have ya72 : @LT.lt Nat instLTNat a72 h72.size := P720.lt
      have yt72 : @LT.lt Nat instLTNat t72 h72.size := P723.lt
      let l73 : Array Slot := #[.val (.long a), .second, .val (.long b), .second, .val (.long q), .second, .val (.int f), .val (.int (0 : Int32)), .val (.int (1 : Int32)), .val (.ref (if (f &&& (4 : Int32)) = (0 : Int32) then qP else qF)), .val (.ref (if (f &&& (8 : Int32)) = (0 : Int32) then qP else qF)), .val (.ref a68), .val (.ref a72), .unset, .unset, .unset, .unset, .unset, .unset, .unset]
      have k74 : To p.tables e below S0 (T72.setTop (mkF m 95 l73 [])) := fun tt hq => k72 tt (by
        show Steps _ _ _ (T72.setTop (mkF m 93 l69 [(.ref a72)])) _
        refine XS.astore X72.here hx rfl (hb hby at_93) rfl rfl (l' := l73) rfl ?_
        show Steps _ _ _ (T72.setTop (mkF m 95 l73 [])) _
        exact hq)
      obtain ⟨T75, h75, X75, e75, E75, A75, D75, -, st75⟩ := newO X72 hx hZ hown (hw _ (List.mem_of_getElem? (i := 29) rfl)) (hw _ (List.mem_of_getElem? (i := 30) rfl)) (hw _ (List.mem_of_getElem? (i := 31) rfl)) e72 (g := (mkF m 95 l73 [])) rfl (hb hby at_95) (by decide) (by decide)
      obtain ⟨b75, g75⟩ : ∃ z, z = h72.size := ⟨_, rfl⟩
      rw [← g75] at A75 D75 st75
      have k75 : To p.tables e below S0 (T75.setTop (mkF m 98 l73 [(.ref b75)])) := fun tt hq => k74 tt (st75 tt hq)
      have z75 : h72.size ≤ h75.size := E75.1
      have y75 : @LT.lt Nat instLTNat b75 h75.size := A75.lt
      have F75_highest : Fld Z h75 b75 "com/example/huntaway/huntaway/Precedence" "highest" "J" (.long (0 : Int64)) := D75 (Or.inl (hw _ (List.mem_of_getElem? (i := 38) rfl))) (ty := .long) (by decide)
      have F75_permitting : Fld Z h75 b75 "com/example/huntaway/huntaway/Precedence" "permitting" "Ljava/lang/String;" .null := D75 (Or.inl (hw _ (List.mem_of_getElem? (i := 50) rfl))) (ty := (.object "java/lang/String")) (by decide)
      have F75_forbidding : Fld Z h75 b75 "com/example/huntaway/huntaway/Precedence" "forbidding" "Ljava/lang/String;" .null := D75 (Or.inl (hw _ (List.mem_of_getElem? (i := 52) rfl))) (ty := (.object "java/lang/String")) (by decide)
      have k76 : To p.tables e below S0 (T75.setTop (mkF m 99 l73 [(.ref b75), (.ref b75)])) := fun tt hq => k75 tt (by
        show Steps _ _ _ (T75.setTop (mkF m 98 l73 [(.ref b75)])) _
        refine XS.dup X75.here hx rfl (hb hby at_98) rfl rfl ?_
        show Steps _ _ _ (T75.setTop (mkF m 99 l73 [(.ref b75), (.ref b75)])) _
        exact hq)
      obtain ⟨_, T77, L77, X77, ⟨rfl, Nq77, Kq77, P770, P771, P772, P773⟩, k77a⟩ := callC' X75 hx hZ (y := (⟨"com/example/huntaway/huntaway/Precedence", "<init>", "()V"⟩ : MethodName)) rfl hown (hw _ (List.mem_of_getElem? (i := 32) rfl)) (hw _ (List.mem_of_getElem? (i := 33) rfl)) (hw _ (List.mem_of_getElem? (i := 34) rfl)) (by decide) (backC (W := 1) (rm_pinit l Z a0 hw b75 h75 n0 (by omega) A75 F75_highest F75_permitting F75_forbidding (by omega)) hZ (hw _ (List.mem_of_getElem? (i := 34) rfl)) (hw _ (List.mem_of_getElem? (i := 31) rfl)) (by decide) (by decide)) e75 (argsL := []) (rest := [(.ref b75)]) rfl rfl pd_13 rfl (by rw [hml]; rfl) (hb hby at_99) (Nat.le_of_eq rfl) (by decide) (by decide) k76
      have k77 : To p.tables e below S0 (T77.setTop (mkF m 102 l73 [(.ref b75)])) := k77a
      have N77 := N72.app Nq77
      obtain ⟨h77, e77⟩ : ∃ z, T77.heap = z := ⟨_, rfl⟩
      rw [e77] at Kq77 P770 P771 P772 P773
      have z77 : h75.size ≤ h77.size := Kq77.1
      let l78 : Array Slot := #[.val (.long a), .second, .val (.long b), .second, .val (.long q), .second, .val (.int f), .val (.int (0 : Int32)), .val (.int (1 : Int32)), .val (.ref (if (f &&& (4 : Int32)) = (0 : Int32) then qP else qF)), .val (.ref (if (f &&& (8 : Int32)) = (0 : Int32) then qP else qF)), .val (.ref a68), .val (.ref a72), .val (.ref b75), .unset, .unset, .unset, .unset, .unset, .unset]
      have k79 : To p.tables e below S0 (T77.setTop (mkF m 108 l78 [(.long q), (.ref b75)])) := fun tt hq => k77 tt (by
        show Steps _ _ _ (T77.setTop (mkF m 102 l73 [(.ref b75)])) _
        refine XS.astore X77.here hx rfl (hb hby at_102) rfl rfl (l' := l78) rfl ?_
        show Steps _ _ _ (T77.setTop (mkF m 104 l78 [])) _
        refine XS.aload X77.here hx rfl (hb hby at_104) rfl rfl ?_
        show Steps _ _ _ (T77.setTop (mkF m 106 l78 [(.ref b75)])) _
        refine XS.lload X77.here hx rfl (hb hby at_106) rfl ?_
        show Steps _ _ _ (T77.setTop (mkF m 108 l78 [(.long q), (.ref b75)])) _
        exact hq)
      obtain ⟨_, T80, L80, X80, ⟨rfl, Nq80, eq80⟩, k80a⟩ := callV' X77 hx hZ (y := (⟨"com/example/huntaway/huntaway/Precedence", "couldCount", "(J)Z"⟩ : MethodName)) (z := (⟨"com/example/huntaway/huntaway/Precedence", "couldCount", "(J)Z"⟩ : MethodName)) hown (hw _ (List.mem_of_getElem? (i := 39) rfl)) (hw _ (List.mem_of_getElem? (i := 40) rfl)) (notFace_of_selects (args := #[]) (mvT hZ (hw _ (List.mem_of_getElem? (i := 42) rfl)))) (hw _ (List.mem_of_getElem? (i := 42) rfl)) (hw _ (List.mem_of_getElem? (i := 41) rfl)) (by decide) P770 (backC (W := 0) (rm_could l Z a0 hw b75 (-9223372036854775808 : Int64) q (1 : Int32) h77 n0 (by omega) P771 (fun z => absurd z (own_min64 _)) (fun _ => rfl)) hZ (hw _ (List.mem_of_getElem? (i := 43) rfl)) (hw _ (List.mem_of_getElem? (i := 31) rfl)) (by decide) (by decide)) e77 (argsL := [(.long q)]) (rest := []) rfl rfl pd_14 rfl (by rw [hml]; rfl) (hb hby at_108) (Nat.le_of_eq rfl) (by decide) (by decide) k79
      have k80 : To p.tables e below S0 (T80.setTop (mkF m 111 l78 [(.int (1 : Int32))])) := k80a
      have N80 := N77.app Nq80
      have e80 : T80.heap = h77 := eq80
      let l81 : Array Slot := #[.val (.long a), .second, .val (.long b), .second, .val (.long q), .second, .val (.int f), .val (.int (0 : Int32)), .val (.int (1 : Int32)), .val (.ref (if (f &&& (4 : Int32)) = (0 : Int32) then qP else qF)), .val (.ref (if (f &&& (8 : Int32)) = (0 : Int32) then qP else qF)), .val (.ref a68), .val (.ref a72), .val (.ref b75), .val (.int (1 : Int32)), .unset, .unset, .unset, .unset, .unset]
      have k82 : To p.tables e below S0 (T80.setTop (mkF m 140 l81 [(.ref a72), (.long b), (.ref (if (f &&& (8 : Int32)) = (0 : Int32) then qP else qF)), (.ref b75)])) := fun tt hq => k80 tt (by
        show Steps _ _ _ (T80.setTop (mkF m 111 l78 [(.int (1 : Int32))])) _
        refine XS.istore X80.here hx rfl (hb hby at_111) rfl (l' := l81) rfl ?_
        show Steps _ _ _ (T80.setTop (mkF m 113 l81 [])) _
        refine XS.iload X80.here hx rfl (hb hby at_113) rfl ?_
        show Steps _ _ _ (T80.setTop (mkF m 115 l81 [(.int (0 : Int32))])) _
        refine XS.ifYes X80.here hx rfl (pc0 := 115) (pc' := 128) rfl (hb hby at_115) rfl ((if0 _ _).trans (teq (by decide)).1) (by decide) (by decide) ?_
        show Steps _ _ _ (T80.setTop (mkF m 128 l81 [])) _
        refine XS.iload X80.here hx rfl (hb hby at_128) rfl ?_
        show Steps _ _ _ (T80.setTop (mkF m 130 l81 [(.int (1 : Int32))])) _
        refine XS.ifNo X80.here hx rfl (hb hby at_130) rfl ((if0 _ _).trans (feq (by decide)).1) ?_
        show Steps _ _ _ (T80.setTop (mkF m 133 l81 [])) _
        refine XS.aload X80.here hx rfl (hb hby at_133) rfl rfl ?_
        show Steps _ _ _ (T80.setTop (mkF m 135 l81 [(.ref b75)])) _
        refine XS.aload X80.here hx rfl (hb hby at_135) rfl rfl ?_
        show Steps _ _ _ (T80.setTop (mkF m 137 l81 [(.ref (if (f &&& (8 : Int32)) = (0 : Int32) then qP else qF)), (.ref b75)])) _
        refine XS.lloadN X80.here hx rfl (hb hby at_137) rfl ?_
        show Steps _ _ _ (T80.setTop (mkF m 138 l81 [(.long b), (.ref (if (f &&& (8 : Int32)) = (0 : Int32) then qP else qF)), (.ref b75)])) _
        refine XS.aload X80.here hx rfl (hb hby at_138) rfl rfl ?_
        show Steps _ _ _ (T80.setTop (mkF m 140 l81 [(.ref a72), (.long b), (.ref (if (f &&& (8 : Int32)) = (0 : Int32) then qP else qF)), (.ref b75)])) _
        exact hq)
      have f83 : Exa Z h77 a72 "java/lang/String" := ((P720.ext E75).keep Kq77)
      have f84 : Fld Z h77 a72 "java/lang/String" "value" "[B" (.ref t72) := ((P721.ext E75).keep Kq77 (ninS (adr_ne (by omega)) nin0))
      have f85 : Fld Z h77 a72 "java/lang/String" "coder" "B" (.int (0 : Int32)) := ((P722.ext E75).keep Kq77 (ninS (adr_ne (by omega)) nin0))
      have f86 : Arv Z h77 t72 k72x .byte (1 : Int32) [(.int (nar .byte (((((f.toUInt32 >>> ((16 : Int32) &&& 31).toUInt32).toInt32) &&& (255 : Int32)).toUInt32.toUInt16.toUInt32.toInt32).toInt8.toInt32)))] (.int 0) := ((P723.ext E75).keep Kq77 (ninS (adr_ne (by omega)) nin0))
      have f87 : Old Z n0 h77 := (((f71.keep Kq72 all0).ext E75).keep Kq77 (allS (by omega) all0))
      obtain ⟨_, T88, L88, X88, ⟨rfl, Nq88, Kq88, A88, u88, v88x, Fh88, Fp88, Ff88, hu88, hv88, nn88, cs88⟩, k88a⟩ := callV' X80 hx hZ (y := (⟨"com/example/huntaway/huntaway/Precedence", "offer", "(Lcom/example/huntaway/huntaway/Effect;JLjava/lang/String;)V"⟩ : MethodName)) (z := (⟨"com/example/huntaway/huntaway/Precedence", "offer", "(Lcom/example/huntaway/huntaway/Effect;JLjava/lang/String;)V"⟩ : MethodName)) hown (hw _ (List.mem_of_getElem? (i := 44) rfl)) (hw _ (List.mem_of_getElem? (i := 45) rfl)) (notFace_of_selects (args := #[]) (mvT hZ (hw _ (List.mem_of_getElem? (i := 47) rfl)))) (hw _ (List.mem_of_getElem? (i := 47) rfl)) (hw _ (List.mem_of_getElem? (i := 46) rfl)) (by decide) P770 (backC (W := 0) (rm_offNN l Z a0 hw zc fm qF qP qI b75 (if (f &&& (8 : Int32)) = (0 : Int32) then qP else qF) b  a72 t72 k72x (nar .byte (((((f.toUInt32 >>> ((16 : Int32) &&& 31).toUInt32).toInt32) &&& (255 : Int32)).toUInt32.toUInt16.toUInt32.toInt32).toInt8.toInt32))  h77 n0 (by omega) S_c hzc S_f hfm S_F S_P S_I A_I f87 P770 P771 P772 P773 f83 f84 f85 f86  (adr_ne (by omega)) (adr_ne (by omega)) (by omega)) hZ (hw _ (List.mem_of_getElem? (i := 48) rfl)) (hw _ (List.mem_of_getElem? (i := 31) rfl)) (by decide) (by decide)) e80 (argsL := [(.ref (if (f &&& (8 : Int32)) = (0 : Int32) then qP else qF)), (.long b), (.ref a72)]) (rest := []) rfl rfl pd_15 rfl (by rw [hml]; rfl) (hb hby at_140) (Nat.le_of_eq rfl) (by decide) (by decide) k82
      have k88 : To p.tables e below S0 (T88.setTop (mkF m 143 l81 [])) := k88a
      have N88 := N80.app Nq88
      obtain ⟨h88, e88⟩ : ∃ z, T88.heap = z := ⟨_, rfl⟩
      rw [e88] at Kq88 A88 Fh88 Fp88 Ff88
      have z88 : h77.size ≤ h88.size := Kq88.1
      let l89 : Array Slot := #[.val (.long a), .second, .val (.long b), .second, .val (.long q), .second, .val (.int f), .val (.int (0 : Int32)), .val (.int (1 : Int32)), .val (.ref (if (f &&& (4 : Int32)) = (0 : Int32) then qP else qF)), .val (.ref (if (f &&& (8 : Int32)) = (0 : Int32) then qP else qF)), .val (.ref a68), .val (.ref a72), .val (.ref b75), .val (.int (1 : Int32)), .val (.int (1 : Int32)), .unset, .unset, .unset, .unset]
      let l90 : Array Slot := #[.val (.long a), .second, .val (.long b), .second, .val (.long q), .second, .val (.int f), .val (.int (0 : Int32)), .val (.int (1 : Int32)), .val (.ref (if (f &&& (4 : Int32)) = (0 : Int32) then qP else qF)), .val (.ref (if (f &&& (8 : Int32)) = (0 : Int32) then qP else qF)), .val (.ref a68), .val (.ref a72), .val (.ref b75), .val (.int (1 : Int32)), .val (.int (1 : Int32)), .val (.long b), .second, .unset, .unset]
      have k91 : To p.tables e below S0 (T88.setTop (mkF m 195 l90 [(.int (lcmpW q b))])) := fun tt hq => k88 tt (by
        show Steps _ _ _ (T88.setTop (mkF m 143 l81 [])) _
        refine XS.iload X88.here hx rfl (hb hby at_143) rfl ?_
        show Steps _ _ _ (T88.setTop (mkF m 145 l81 [(.int (0 : Int32))])) _
        refine XS.ifNo X88.here hx rfl (hb hby at_145) rfl ((if0 _ _).trans (teq (by decide)).2) ?_
        show Steps _ _ _ (T88.setTop (mkF m 148 l81 [])) _
        refine XS.iload X88.here hx rfl (hb hby at_148) rfl ?_
        show Steps _ _ _ (T88.setTop (mkF m 150 l81 [(.int (1 : Int32))])) _
        refine XS.ifNo X88.here hx rfl (hb hby at_150) rfl ((if0 _ _).trans (feq (by decide)).1) ?_
        show Steps _ _ _ (T88.setTop (mkF m 153 l81 [])) _
        refine XS.iconst X88.here hx rfl (hb hby at_153) ?_
        show Steps _ _ _ (T88.setTop (mkF m 154 l81 [(.int (1 : Int32))])) _
        refine XS.goto X88.here hx rfl (pc0 := 154) (pc' := 158) rfl (hb hby at_154) (by decide) (by decide) ?_
        show Steps _ _ _ (T88.setTop (mkF m 158 l81 [(.int (1 : Int32))])) _
        refine XS.istore X88.here hx rfl (hb hby at_158) rfl (l' := l89) rfl ?_
        show Steps _ _ _ (T88.setTop (mkF m 160 l89 [])) _
        refine XS.iload X88.here hx rfl (hb hby at_160) rfl ?_
        show Steps _ _ _ (T88.setTop (mkF m 162 l89 [(.int (0 : Int32))])) _
        refine XS.ifYes X88.here hx rfl (pc0 := 162) (pc' := 182) rfl (hb hby at_162) rfl ((if0 _ _).trans (teq (by decide)).1) (by decide) (by decide) ?_
        show Steps _ _ _ (T88.setTop (mkF m 182 l89 [])) _
        refine XS.lloadN X88.here hx rfl (hb hby at_182) rfl ?_
        show Steps _ _ _ (T88.setTop (mkF m 183 l89 [(.long b)])) _
        refine XS.lstore X88.here hx rfl (hb hby at_183) rfl (l' := l90) rfl ?_
        show Steps _ _ _ (T88.setTop (mkF m 185 l90 [])) _
        refine XS.iload X88.here hx rfl (hb hby at_185) rfl ?_
        show Steps _ _ _ (T88.setTop (mkF m 187 l90 [(.int (1 : Int32))])) _
        refine XS.ifNo X88.here hx rfl (hb hby at_187) rfl ((if0 _ _).trans (feq (by decide)).1) ?_
        show Steps _ _ _ (T88.setTop (mkF m 190 l90 [])) _
        refine XS.lload X88.here hx rfl (hb hby at_190) rfl ?_
        show Steps _ _ _ (T88.setTop (mkF m 192 l90 [(.long q)])) _
        refine XS.lload X88.here hx rfl (hb hby at_192) rfl ?_
        show Steps _ _ _ (T88.setTop (mkF m 194 l90 [(.long b), (.long q)])) _
        refine XS.lcmp X88.here hx rfl (hb hby at_194) rfl ?_
        show Steps _ _ _ (T88.setTop (mkF m 195 l90 [(.int (lcmpW q b))])) _
        exact hq)
      by_cases hc195_92 : (lcmpW q b) < (0 : Int32)
      · -- pc 195, holds
        let l93 : Array Slot := #[.val (.long a), .second, .val (.long b), .second, .val (.long q), .second, .val (.int f), .val (.int (0 : Int32)), .val (.int (1 : Int32)), .val (.ref (if (f &&& (4 : Int32)) = (0 : Int32) then qP else qF)), .val (.ref (if (f &&& (8 : Int32)) = (0 : Int32) then qP else qF)), .val (.ref a68), .val (.ref a72), .val (.ref b75), .val (.int (1 : Int32)), .val (.int (1 : Int32)), .val (.long b), .second, .val (.int (0 : Int32)), .unset]
        have k94 : To p.tables e below S0 (T88.setTop (mkF m 214 l93 [(.long q), (.ref b75)])) := fun tt hq => k91 tt (by
          show Steps _ _ _ (T88.setTop (mkF m 195 l90 [(.int (lcmpW q b))])) _
          refine XS.ifYes X88.here hx rfl (pc0 := 195) (pc' := 202) rfl (hb hby at_195) rfl ((if0 _ _).trans (tlt hc195_92).1) (by decide) (by decide) ?_
          show Steps _ _ _ (T88.setTop (mkF m 202 l90 [])) _
          refine XS.iconst X88.here hx rfl (hb hby at_202) ?_
          show Steps _ _ _ (T88.setTop (mkF m 203 l90 [(.int (0 : Int32))])) _
          refine XS.istore X88.here hx rfl (hb hby at_203) rfl (l' := l93) rfl ?_
          show Steps _ _ _ (T88.setTop (mkF m 205 l93 [])) _
          refine XS.iload X88.here hx rfl (hb hby at_205) rfl ?_
          show Steps _ _ _ (T88.setTop (mkF m 207 l93 [(.int (1 : Int32))])) _
          refine XS.ifNo X88.here hx rfl (hb hby at_207) rfl ((if0 _ _).trans (feq (by decide)).1) ?_
          show Steps _ _ _ (T88.setTop (mkF m 210 l93 [])) _
          refine XS.aload X88.here hx rfl (hb hby at_210) rfl rfl ?_
          show Steps _ _ _ (T88.setTop (mkF m 212 l93 [(.ref b75)])) _
          refine XS.lload X88.here hx rfl (hb hby at_212) rfl ?_
          show Steps _ _ _ (T88.setTop (mkF m 214 l93 [(.long q), (.ref b75)])) _
          exact hq)
        obtain ⟨_, T95, L95, X95, ⟨rfl, Nq95, eq95⟩, k95a⟩ := callV' X88 hx hZ (y := (⟨"com/example/huntaway/huntaway/Precedence", "couldCount", "(J)Z"⟩ : MethodName)) (z := (⟨"com/example/huntaway/huntaway/Precedence", "couldCount", "(J)Z"⟩ : MethodName)) hown (hw _ (List.mem_of_getElem? (i := 39) rfl)) (hw _ (List.mem_of_getElem? (i := 40) rfl)) (notFace_of_selects (args := #[]) (mvT hZ (hw _ (List.mem_of_getElem? (i := 42) rfl)))) (hw _ (List.mem_of_getElem? (i := 42) rfl)) (hw _ (List.mem_of_getElem? (i := 41) rfl)) (by decide) A88 (backC (W := 0) (rm_could l Z a0 hw b75 b q (0 : Int32) h88 n0 (by omega) Fh88 (fun _ => rfl) (fun z => absurd ((lc_lt _ _).mp ((lcW _ _) ▸ hc195_92)) z)) hZ (hw _ (List.mem_of_getElem? (i := 43) rfl)) (hw _ (List.mem_of_getElem? (i := 31) rfl)) (by decide) (by decide)) e88 (argsL := [(.long q)]) (rest := []) rfl rfl pd_14 rfl (by rw [hml]; rfl) (hb hby at_214) (Nat.le_of_eq rfl) (by decide) (by decide) k94
        have k95 : To p.tables e below S0 (T95.setTop (mkF m 217 l93 [(.int (0 : Int32))])) := k95a
        have N95 := N88.app Nq95
        have e95 : T95.heap = h88 := eq95
        let l96 : Array Slot := #[.val (.long a), .second, .val (.long b), .second, .val (.long q), .second, .val (.int f), .val (.int (0 : Int32)), .val (.int (1 : Int32)), .val (.ref (if (f &&& (4 : Int32)) = (0 : Int32) then qP else qF)), .val (.ref (if (f &&& (8 : Int32)) = (0 : Int32) then qP else qF)), .val (.ref a68), .val (.ref a72), .val (.ref b75), .val (.int (1 : Int32)), .val (.int (1 : Int32)), .val (.long b), .second, .val (.int (0 : Int32)), .val (.int (1 : Int32))]
        have k97 : To p.tables e below S0 (T95.setTop (mkF m 243 l96 [(.long b), (.ref b75)])) := fun tt hq => k95 tt (by
          show Steps _ _ _ (T95.setTop (mkF m 217 l93 [(.int (0 : Int32))])) _
          refine XS.iload X95.here hx rfl (hb hby at_217) rfl ?_
          show Steps _ _ _ (T95.setTop (mkF m 219 l93 [(.int (0 : Int32)), (.int (0 : Int32))])) _
          refine XS.icmpNo X95.here hx rfl (hb hby at_219) rfl (teq (by decide)).2 ?_
          show Steps _ _ _ (T95.setTop (mkF m 222 l93 [])) _
          refine XS.iconst X95.here hx rfl (hb hby at_222) ?_
          show Steps _ _ _ (T95.setTop (mkF m 223 l93 [(.int (1 : Int32))])) _
          refine XS.goto X95.here hx rfl (pc0 := 223) (pc' := 227) rfl (hb hby at_223) (by decide) (by decide) ?_
          show Steps _ _ _ (T95.setTop (mkF m 227 l93 [(.int (1 : Int32))])) _
          refine XS.istore X95.here hx rfl (hb hby at_227) rfl (l' := l96) rfl ?_
          show Steps _ _ _ (T95.setTop (mkF m 229 l96 [])) _
          refine XS.iload X95.here hx rfl (hb hby at_229) rfl ?_
          show Steps _ _ _ (T95.setTop (mkF m 231 l96 [(.int (1 : Int32))])) _
          refine XS.ifNo X95.here hx rfl (hb hby at_231) rfl ((if0 _ _).trans (feq (by decide)).1) ?_
          show Steps _ _ _ (T95.setTop (mkF m 234 l96 [])) _
          refine XS.iload X95.here hx rfl (hb hby at_234) rfl ?_
          show Steps _ _ _ (T95.setTop (mkF m 236 l96 [(.int (1 : Int32))])) _
          refine XS.ifNo X95.here hx rfl (hb hby at_236) rfl ((if0 _ _).trans (feq (by decide)).1) ?_
          show Steps _ _ _ (T95.setTop (mkF m 239 l96 [])) _
          refine XS.aload X95.here hx rfl (hb hby at_239) rfl rfl ?_
          show Steps _ _ _ (T95.setTop (mkF m 241 l96 [(.ref b75)])) _
          refine XS.lload X95.here hx rfl (hb hby at_241) rfl ?_
          show Steps _ _ _ (T95.setTop (mkF m 243 l96 [(.long b), (.ref b75)])) _
          exact hq)
        obtain ⟨_, T98, L98, X98, ⟨rfl, Nq98, eq98⟩, k98a⟩ := callV' X95 hx hZ (y := (⟨"com/example/huntaway/huntaway/Precedence", "couldCount", "(J)Z"⟩ : MethodName)) (z := (⟨"com/example/huntaway/huntaway/Precedence", "couldCount", "(J)Z"⟩ : MethodName)) hown (hw _ (List.mem_of_getElem? (i := 39) rfl)) (hw _ (List.mem_of_getElem? (i := 40) rfl)) (notFace_of_selects (args := #[]) (mvT hZ (hw _ (List.mem_of_getElem? (i := 42) rfl)))) (hw _ (List.mem_of_getElem? (i := 42) rfl)) (hw _ (List.mem_of_getElem? (i := 41) rfl)) (by decide) A88 (backC (W := 0) (rm_could l Z a0 hw b75 b b (1 : Int32) h88 n0 (by omega) Fh88 (fun z => (Int64.lt_irrefl z).elim) (fun _ => rfl)) hZ (hw _ (List.mem_of_getElem? (i := 43) rfl)) (hw _ (List.mem_of_getElem? (i := 31) rfl)) (by decide) (by decide)) e95 (argsL := [(.long b)]) (rest := []) rfl rfl pd_14 rfl (by rw [hml]; rfl) (hb hby at_243) (Nat.le_of_eq rfl) (by decide) (by decide) k97
        have k98 : To p.tables e below S0 (T98.setTop (mkF m 246 l96 [(.int (1 : Int32))])) := k98a
        have N98 := N95.app Nq98
        have e98 : T98.heap = h88 := eq98
        have k99 : To p.tables e below S0 (T98.setTop (mkF m 262 l96 [(.int (lcmpW b (-9223372036854775808 : Int64)))])) := fun tt hq => k98 tt (by
          show Steps _ _ _ (T98.setTop (mkF m 246 l96 [(.int (1 : Int32))])) _
          refine XS.ifNo X98.here hx rfl (hb hby at_246) rfl ((if0 _ _).trans (feq (by decide)).1) ?_
          show Steps _ _ _ (T98.setTop (mkF m 249 l96 [])) _
          refine XS.iconst X98.here hx rfl (hb hby at_249) ?_
          show Steps _ _ _ (T98.setTop (mkF m 250 l96 [(.int (1 : Int32))])) _
          refine XS.goto X98.here hx rfl (pc0 := 250) (pc' := 254) rfl (hb hby at_250) (by decide) (by decide) ?_
          show Steps _ _ _ (T98.setTop (mkF m 254 l96 [(.int (1 : Int32))])) _
          refine XS.istore X98.here hx rfl (hb hby at_254) rfl (l' := l96) rfl ?_
          show Steps _ _ _ (T98.setTop (mkF m 256 l96 [])) _
          refine XS.lload X98.here hx rfl (hb hby at_256) rfl ?_
          show Steps _ _ _ (T98.setTop (mkF m 258 l96 [(.long b)])) _
          refine X98.ldc2Long hx hown (mvT hZ (hw _ (List.mem_of_getElem? (i := 59) rfl))) (g := (mkF m 258 l96 [(.long b)])) rfl (hb hby at_258) _ ?_
          show Steps _ _ _ (T98.setTop (mkF m 261 l96 [(.long (-9223372036854775808 : Int64)), (.long b)])) _
          refine XS.lcmp X98.here hx rfl (hb hby at_261) rfl ?_
          show Steps _ _ _ (T98.setTop (mkF m 262 l96 [(.int (lcmpW b (-9223372036854775808 : Int64)))])) _
          exact hq)
        by_cases hc262_100 : (lcmpW b (-9223372036854775808 : Int64)) = (0 : Int32)
        · -- pc 262, holds
          have k101 : To p.tables e below S0 (T98.setTop (mkF m 291 l96 [(.int (1 : Int32))])) := fun tt hq => k99 tt (by
            show Steps _ _ _ (T98.setTop (mkF m 262 l96 [(.int (lcmpW b (-9223372036854775808 : Int64)))])) _
            refine XS.ifYes X98.here hx rfl (pc0 := 262) (pc' := 289) rfl (hb hby at_262) rfl ((if0 _ _).trans (teq hc262_100).1) (by decide) (by decide) ?_
            show Steps _ _ _ (T98.setTop (mkF m 289 l96 [])) _
            refine XS.iload X98.here hx rfl (hb hby at_289) rfl ?_
            show Steps _ _ _ (T98.setTop (mkF m 291 l96 [(.int (1 : Int32))])) _
            exact hq)
          have hE := e98
          refine retInt X98 hx hret hlk (by simp) rfl (hb hby at_291) k101 ?_ (by decide) (by decide)
          try rw [hE]
          exact ⟨rfl, N98⟩
        · -- pc 262, holds not
          have k102 : To p.tables e below S0 (T98.setTop (mkF m 276 l96 [(.long (b - (1 : Int64))), (.ref b75)])) := fun tt hq => k99 tt (by
            show Steps _ _ _ (T98.setTop (mkF m 262 l96 [(.int (lcmpW b (-9223372036854775808 : Int64)))])) _
            refine XS.ifNo X98.here hx rfl (hb hby at_262) rfl ((if0 _ _).trans (feq hc262_100).1) ?_
            show Steps _ _ _ (T98.setTop (mkF m 265 l96 [])) _
            refine XS.iload X98.here hx rfl (hb hby at_265) rfl ?_
            show Steps _ _ _ (T98.setTop (mkF m 267 l96 [(.int (1 : Int32))])) _
            refine XS.ifNo X98.here hx rfl (hb hby at_267) rfl ((if0 _ _).trans (feq (by decide)).1) ?_
            show Steps _ _ _ (T98.setTop (mkF m 270 l96 [])) _
            refine XS.aload X98.here hx rfl (hb hby at_270) rfl rfl ?_
            show Steps _ _ _ (T98.setTop (mkF m 272 l96 [(.ref b75)])) _
            refine XS.lload X98.here hx rfl (hb hby at_272) rfl ?_
            show Steps _ _ _ (T98.setTop (mkF m 274 l96 [(.long b), (.ref b75)])) _
            refine XS.lconst X98.here hx rfl (hb hby at_274) ?_
            show Steps _ _ _ (T98.setTop (mkF m 275 l96 [(.long (1 : Int64)), (.long b), (.ref b75)])) _
            refine XS.lsub X98.here hx rfl (hb hby at_275) rfl ?_
            show Steps _ _ _ (T98.setTop (mkF m 276 l96 [(.long (b - (1 : Int64))), (.ref b75)])) _
            exact hq)
          obtain ⟨_, T103, L103, X103, ⟨rfl, Nq103, eq103⟩, k103a⟩ := callV' X98 hx hZ (y := (⟨"com/example/huntaway/huntaway/Precedence", "couldCount", "(J)Z"⟩ : MethodName)) (z := (⟨"com/example/huntaway/huntaway/Precedence", "couldCount", "(J)Z"⟩ : MethodName)) hown (hw _ (List.mem_of_getElem? (i := 39) rfl)) (hw _ (List.mem_of_getElem? (i := 40) rfl)) (notFace_of_selects (args := #[]) (mvT hZ (hw _ (List.mem_of_getElem? (i := 42) rfl)))) (hw _ (List.mem_of_getElem? (i := 42) rfl)) (hw _ (List.mem_of_getElem? (i := 41) rfl)) (by decide) A88 (backC (W := 0) (rm_could l Z a0 hw b75 b (b - (1 : Int64)) (0 : Int32) h88 n0 (by omega) Fh88 (fun _ => rfl) (fun z => absurd (own_pred hc262_100) z)) hZ (hw _ (List.mem_of_getElem? (i := 43) rfl)) (hw _ (List.mem_of_getElem? (i := 31) rfl)) (by decide) (by decide)) e98 (argsL := [(.long (b - (1 : Int64)))]) (rest := []) rfl rfl pd_14 rfl (by rw [hml]; rfl) (hb hby at_276) (Nat.le_of_eq rfl) (by decide) (by decide) k102
          have k103 : To p.tables e below S0 (T103.setTop (mkF m 279 l96 [(.int (0 : Int32))])) := k103a
          have N103 := N98.app Nq103
          have e103 : T103.heap = h88 := eq103
          have k104 : To p.tables e below S0 (T103.setTop (mkF m 291 l96 [(.int (1 : Int32))])) := fun tt hq => k103 tt (by
            show Steps _ _ _ (T103.setTop (mkF m 279 l96 [(.int (0 : Int32))])) _
            refine XS.ifNo X103.here hx rfl (hb hby at_279) rfl ((if0 _ _).trans (teq (by decide)).2) ?_
            show Steps _ _ _ (T103.setTop (mkF m 282 l96 [])) _
            refine XS.iconst X103.here hx rfl (hb hby at_282) ?_
            show Steps _ _ _ (T103.setTop (mkF m 283 l96 [(.int (1 : Int32))])) _
            refine XS.goto X103.here hx rfl (pc0 := 283) (pc' := 287) rfl (hb hby at_283) (by decide) (by decide) ?_
            show Steps _ _ _ (T103.setTop (mkF m 287 l96 [(.int (1 : Int32))])) _
            refine XS.istore X103.here hx rfl (hb hby at_287) rfl (l' := l96) rfl ?_
            show Steps _ _ _ (T103.setTop (mkF m 289 l96 [])) _
            refine XS.iload X103.here hx rfl (hb hby at_289) rfl ?_
            show Steps _ _ _ (T103.setTop (mkF m 291 l96 [(.int (1 : Int32))])) _
            exact hq)
          have hE := e103
          refine retInt X103 hx hret hlk (by simp) rfl (hb hby at_291) k104 ?_ (by decide) (by decide)
          try rw [hE]
          exact ⟨rfl, N103⟩
      · -- pc 195, holds not
        let l105 : Array Slot := #[.val (.long a), .second, .val (.long b), .second, .val (.long q), .second, .val (.int f), .val (.int (0 : Int32)), .val (.int (1 : Int32)), .val (.ref (if (f &&& (4 : Int32)) = (0 : Int32) then qP else qF)), .val (.ref (if (f &&& (8 : Int32)) = (0 : Int32) then qP else qF)), .val (.ref a68), .val (.ref a72), .val (.ref b75), .val (.int (1 : Int32)), .val (.int (1 : Int32)), .val (.long b), .second, .val (.int (1 : Int32)), .unset]
        have k106 : To p.tables e below S0 (T88.setTop (mkF m 214 l105 [(.long q), (.ref b75)])) := fun tt hq => k91 tt (by
          show Steps _ _ _ (T88.setTop (mkF m 195 l90 [(.int (lcmpW q b))])) _
          refine XS.ifNo X88.here hx rfl (hb hby at_195) rfl ((if0 _ _).trans (flt hc195_92).1) ?_
          show Steps _ _ _ (T88.setTop (mkF m 198 l90 [])) _
          refine XS.iconst X88.here hx rfl (hb hby at_198) ?_
          show Steps _ _ _ (T88.setTop (mkF m 199 l90 [(.int (1 : Int32))])) _
          refine XS.goto X88.here hx rfl (pc0 := 199) (pc' := 203) rfl (hb hby at_199) (by decide) (by decide) ?_
          show Steps _ _ _ (T88.setTop (mkF m 203 l90 [(.int (1 : Int32))])) _
          refine XS.istore X88.here hx rfl (hb hby at_203) rfl (l' := l105) rfl ?_
          show Steps _ _ _ (T88.setTop (mkF m 205 l105 [])) _
          refine XS.iload X88.here hx rfl (hb hby at_205) rfl ?_
          show Steps _ _ _ (T88.setTop (mkF m 207 l105 [(.int (1 : Int32))])) _
          refine XS.ifNo X88.here hx rfl (hb hby at_207) rfl ((if0 _ _).trans (feq (by decide)).1) ?_
          show Steps _ _ _ (T88.setTop (mkF m 210 l105 [])) _
          refine XS.aload X88.here hx rfl (hb hby at_210) rfl rfl ?_
          show Steps _ _ _ (T88.setTop (mkF m 212 l105 [(.ref b75)])) _
          refine XS.lload X88.here hx rfl (hb hby at_212) rfl ?_
          show Steps _ _ _ (T88.setTop (mkF m 214 l105 [(.long q), (.ref b75)])) _
          exact hq)
        obtain ⟨_, T107, L107, X107, ⟨rfl, Nq107, eq107⟩, k107a⟩ := callV' X88 hx hZ (y := (⟨"com/example/huntaway/huntaway/Precedence", "couldCount", "(J)Z"⟩ : MethodName)) (z := (⟨"com/example/huntaway/huntaway/Precedence", "couldCount", "(J)Z"⟩ : MethodName)) hown (hw _ (List.mem_of_getElem? (i := 39) rfl)) (hw _ (List.mem_of_getElem? (i := 40) rfl)) (notFace_of_selects (args := #[]) (mvT hZ (hw _ (List.mem_of_getElem? (i := 42) rfl)))) (hw _ (List.mem_of_getElem? (i := 42) rfl)) (hw _ (List.mem_of_getElem? (i := 41) rfl)) (by decide) A88 (backC (W := 0) (rm_could l Z a0 hw b75 b q (1 : Int32) h88 n0 (by omega) Fh88 (fun z => absurd ((lcW _ _) ▸ (lc_lt _ _).mpr z) hc195_92) (fun _ => rfl)) hZ (hw _ (List.mem_of_getElem? (i := 43) rfl)) (hw _ (List.mem_of_getElem? (i := 31) rfl)) (by decide) (by decide)) e88 (argsL := [(.long q)]) (rest := []) rfl rfl pd_14 rfl (by rw [hml]; rfl) (hb hby at_214) (Nat.le_of_eq rfl) (by decide) (by decide) k106
        have k107 : To p.tables e below S0 (T107.setTop (mkF m 217 l105 [(.int (1 : Int32))])) := k107a
        have N107 := N88.app Nq107
        have e107 : T107.heap = h88 := eq107
        let l108 : Array Slot := #[.val (.long a), .second, .val (.long b), .second, .val (.long q), .second, .val (.int f), .val (.int (0 : Int32)), .val (.int (1 : Int32)), .val (.ref (if (f &&& (4 : Int32)) = (0 : Int32) then qP else qF)), .val (.ref (if (f &&& (8 : Int32)) = (0 : Int32) then qP else qF)), .val (.ref a68), .val (.ref a72), .val (.ref b75), .val (.int (1 : Int32)), .val (.int (1 : Int32)), .val (.long b), .second, .val (.int (1 : Int32)), .val (.int (1 : Int32))]
        have k109 : To p.tables e below S0 (T107.setTop (mkF m 243 l108 [(.long b), (.ref b75)])) := fun tt hq => k107 tt (by
          show Steps _ _ _ (T107.setTop (mkF m 217 l105 [(.int (1 : Int32))])) _
          refine XS.iload X107.here hx rfl (hb hby at_217) rfl ?_
          show Steps _ _ _ (T107.setTop (mkF m 219 l105 [(.int (1 : Int32)), (.int (1 : Int32))])) _
          refine XS.icmpNo X107.here hx rfl (hb hby at_219) rfl (teq (by decide)).2 ?_
          show Steps _ _ _ (T107.setTop (mkF m 222 l105 [])) _
          refine XS.iconst X107.here hx rfl (hb hby at_222) ?_
          show Steps _ _ _ (T107.setTop (mkF m 223 l105 [(.int (1 : Int32))])) _
          refine XS.goto X107.here hx rfl (pc0 := 223) (pc' := 227) rfl (hb hby at_223) (by decide) (by decide) ?_
          show Steps _ _ _ (T107.setTop (mkF m 227 l105 [(.int (1 : Int32))])) _
          refine XS.istore X107.here hx rfl (hb hby at_227) rfl (l' := l108) rfl ?_
          show Steps _ _ _ (T107.setTop (mkF m 229 l108 [])) _
          refine XS.iload X107.here hx rfl (hb hby at_229) rfl ?_
          show Steps _ _ _ (T107.setTop (mkF m 231 l108 [(.int (1 : Int32))])) _
          refine XS.ifNo X107.here hx rfl (hb hby at_231) rfl ((if0 _ _).trans (feq (by decide)).1) ?_
          show Steps _ _ _ (T107.setTop (mkF m 234 l108 [])) _
          refine XS.iload X107.here hx rfl (hb hby at_234) rfl ?_
          show Steps _ _ _ (T107.setTop (mkF m 236 l108 [(.int (1 : Int32))])) _
          refine XS.ifNo X107.here hx rfl (hb hby at_236) rfl ((if0 _ _).trans (feq (by decide)).1) ?_
          show Steps _ _ _ (T107.setTop (mkF m 239 l108 [])) _
          refine XS.aload X107.here hx rfl (hb hby at_239) rfl rfl ?_
          show Steps _ _ _ (T107.setTop (mkF m 241 l108 [(.ref b75)])) _
          refine XS.lload X107.here hx rfl (hb hby at_241) rfl ?_
          show Steps _ _ _ (T107.setTop (mkF m 243 l108 [(.long b), (.ref b75)])) _
          exact hq)
        obtain ⟨_, T110, L110, X110, ⟨rfl, Nq110, eq110⟩, k110a⟩ := callV' X107 hx hZ (y := (⟨"com/example/huntaway/huntaway/Precedence", "couldCount", "(J)Z"⟩ : MethodName)) (z := (⟨"com/example/huntaway/huntaway/Precedence", "couldCount", "(J)Z"⟩ : MethodName)) hown (hw _ (List.mem_of_getElem? (i := 39) rfl)) (hw _ (List.mem_of_getElem? (i := 40) rfl)) (notFace_of_selects (args := #[]) (mvT hZ (hw _ (List.mem_of_getElem? (i := 42) rfl)))) (hw _ (List.mem_of_getElem? (i := 42) rfl)) (hw _ (List.mem_of_getElem? (i := 41) rfl)) (by decide) A88 (backC (W := 0) (rm_could l Z a0 hw b75 b b (1 : Int32) h88 n0 (by omega) Fh88 (fun z => (Int64.lt_irrefl z).elim) (fun _ => rfl)) hZ (hw _ (List.mem_of_getElem? (i := 43) rfl)) (hw _ (List.mem_of_getElem? (i := 31) rfl)) (by decide) (by decide)) e107 (argsL := [(.long b)]) (rest := []) rfl rfl pd_14 rfl (by rw [hml]; rfl) (hb hby at_243) (Nat.le_of_eq rfl) (by decide) (by decide) k109
        have k110 : To p.tables e below S0 (T110.setTop (mkF m 246 l108 [(.int (1 : Int32))])) := k110a
        have N110 := N107.app Nq110
        have e110 : T110.heap = h88 := eq110
        have k111 : To p.tables e below S0 (T110.setTop (mkF m 262 l108 [(.int (lcmpW b (-9223372036854775808 : Int64)))])) := fun tt hq => k110 tt (by
          show Steps _ _ _ (T110.setTop (mkF m 246 l108 [(.int (1 : Int32))])) _
          refine XS.ifNo X110.here hx rfl (hb hby at_246) rfl ((if0 _ _).trans (feq (by decide)).1) ?_
          show Steps _ _ _ (T110.setTop (mkF m 249 l108 [])) _
          refine XS.iconst X110.here hx rfl (hb hby at_249) ?_
          show Steps _ _ _ (T110.setTop (mkF m 250 l108 [(.int (1 : Int32))])) _
          refine XS.goto X110.here hx rfl (pc0 := 250) (pc' := 254) rfl (hb hby at_250) (by decide) (by decide) ?_
          show Steps _ _ _ (T110.setTop (mkF m 254 l108 [(.int (1 : Int32))])) _
          refine XS.istore X110.here hx rfl (hb hby at_254) rfl (l' := l108) rfl ?_
          show Steps _ _ _ (T110.setTop (mkF m 256 l108 [])) _
          refine XS.lload X110.here hx rfl (hb hby at_256) rfl ?_
          show Steps _ _ _ (T110.setTop (mkF m 258 l108 [(.long b)])) _
          refine X110.ldc2Long hx hown (mvT hZ (hw _ (List.mem_of_getElem? (i := 59) rfl))) (g := (mkF m 258 l108 [(.long b)])) rfl (hb hby at_258) _ ?_
          show Steps _ _ _ (T110.setTop (mkF m 261 l108 [(.long (-9223372036854775808 : Int64)), (.long b)])) _
          refine XS.lcmp X110.here hx rfl (hb hby at_261) rfl ?_
          show Steps _ _ _ (T110.setTop (mkF m 262 l108 [(.int (lcmpW b (-9223372036854775808 : Int64)))])) _
          exact hq)
        by_cases hc262_112 : (lcmpW b (-9223372036854775808 : Int64)) = (0 : Int32)
        · -- pc 262, holds
          have k113 : To p.tables e below S0 (T110.setTop (mkF m 291 l108 [(.int (1 : Int32))])) := fun tt hq => k111 tt (by
            show Steps _ _ _ (T110.setTop (mkF m 262 l108 [(.int (lcmpW b (-9223372036854775808 : Int64)))])) _
            refine XS.ifYes X110.here hx rfl (pc0 := 262) (pc' := 289) rfl (hb hby at_262) rfl ((if0 _ _).trans (teq hc262_112).1) (by decide) (by decide) ?_
            show Steps _ _ _ (T110.setTop (mkF m 289 l108 [])) _
            refine XS.iload X110.here hx rfl (hb hby at_289) rfl ?_
            show Steps _ _ _ (T110.setTop (mkF m 291 l108 [(.int (1 : Int32))])) _
            exact hq)
          have hE := e110
          refine retInt X110 hx hret hlk (by simp) rfl (hb hby at_291) k113 ?_ (by decide) (by decide)
          try rw [hE]
          exact ⟨rfl, N110⟩
        · -- pc 262, holds not
          have k114 : To p.tables e below S0 (T110.setTop (mkF m 276 l108 [(.long (b - (1 : Int64))), (.ref b75)])) := fun tt hq => k111 tt (by
            show Steps _ _ _ (T110.setTop (mkF m 262 l108 [(.int (lcmpW b (-9223372036854775808 : Int64)))])) _
            refine XS.ifNo X110.here hx rfl (hb hby at_262) rfl ((if0 _ _).trans (feq hc262_112).1) ?_
            show Steps _ _ _ (T110.setTop (mkF m 265 l108 [])) _
            refine XS.iload X110.here hx rfl (hb hby at_265) rfl ?_
            show Steps _ _ _ (T110.setTop (mkF m 267 l108 [(.int (1 : Int32))])) _
            refine XS.ifNo X110.here hx rfl (hb hby at_267) rfl ((if0 _ _).trans (feq (by decide)).1) ?_
            show Steps _ _ _ (T110.setTop (mkF m 270 l108 [])) _
            refine XS.aload X110.here hx rfl (hb hby at_270) rfl rfl ?_
            show Steps _ _ _ (T110.setTop (mkF m 272 l108 [(.ref b75)])) _
            refine XS.lload X110.here hx rfl (hb hby at_272) rfl ?_
            show Steps _ _ _ (T110.setTop (mkF m 274 l108 [(.long b), (.ref b75)])) _
            refine XS.lconst X110.here hx rfl (hb hby at_274) ?_
            show Steps _ _ _ (T110.setTop (mkF m 275 l108 [(.long (1 : Int64)), (.long b), (.ref b75)])) _
            refine XS.lsub X110.here hx rfl (hb hby at_275) rfl ?_
            show Steps _ _ _ (T110.setTop (mkF m 276 l108 [(.long (b - (1 : Int64))), (.ref b75)])) _
            exact hq)
          obtain ⟨_, T115, L115, X115, ⟨rfl, Nq115, eq115⟩, k115a⟩ := callV' X110 hx hZ (y := (⟨"com/example/huntaway/huntaway/Precedence", "couldCount", "(J)Z"⟩ : MethodName)) (z := (⟨"com/example/huntaway/huntaway/Precedence", "couldCount", "(J)Z"⟩ : MethodName)) hown (hw _ (List.mem_of_getElem? (i := 39) rfl)) (hw _ (List.mem_of_getElem? (i := 40) rfl)) (notFace_of_selects (args := #[]) (mvT hZ (hw _ (List.mem_of_getElem? (i := 42) rfl)))) (hw _ (List.mem_of_getElem? (i := 42) rfl)) (hw _ (List.mem_of_getElem? (i := 41) rfl)) (by decide) A88 (backC (W := 0) (rm_could l Z a0 hw b75 b (b - (1 : Int64)) (0 : Int32) h88 n0 (by omega) Fh88 (fun _ => rfl) (fun z => absurd (own_pred hc262_112) z)) hZ (hw _ (List.mem_of_getElem? (i := 43) rfl)) (hw _ (List.mem_of_getElem? (i := 31) rfl)) (by decide) (by decide)) e110 (argsL := [(.long (b - (1 : Int64)))]) (rest := []) rfl rfl pd_14 rfl (by rw [hml]; rfl) (hb hby at_276) (Nat.le_of_eq rfl) (by decide) (by decide) k114
          have k115 : To p.tables e below S0 (T115.setTop (mkF m 279 l108 [(.int (0 : Int32))])) := k115a
          have N115 := N110.app Nq115
          have e115 : T115.heap = h88 := eq115
          have k116 : To p.tables e below S0 (T115.setTop (mkF m 291 l108 [(.int (1 : Int32))])) := fun tt hq => k115 tt (by
            show Steps _ _ _ (T115.setTop (mkF m 279 l108 [(.int (0 : Int32))])) _
            refine XS.ifNo X115.here hx rfl (hb hby at_279) rfl ((if0 _ _).trans (teq (by decide)).2) ?_
            show Steps _ _ _ (T115.setTop (mkF m 282 l108 [])) _
            refine XS.iconst X115.here hx rfl (hb hby at_282) ?_
            show Steps _ _ _ (T115.setTop (mkF m 283 l108 [(.int (1 : Int32))])) _
            refine XS.goto X115.here hx rfl (pc0 := 283) (pc' := 287) rfl (hb hby at_283) (by decide) (by decide) ?_
            show Steps _ _ _ (T115.setTop (mkF m 287 l108 [(.int (1 : Int32))])) _
            refine XS.istore X115.here hx rfl (hb hby at_287) rfl (l' := l108) rfl ?_
            show Steps _ _ _ (T115.setTop (mkF m 289 l108 [])) _
            refine XS.iload X115.here hx rfl (hb hby at_289) rfl ?_
            show Steps _ _ _ (T115.setTop (mkF m 291 l108 [(.int (1 : Int32))])) _
            exact hq)
          have hE := e115
          refine retInt X115 hx hret hlk (by simp) rfl (hb hby at_291) k116 ?_ (by decide) (by decide)
          try rw [hE]
          exact ⟨rfl, N115⟩
  · -- pc 4, holds not
    let l117 : Array Slot := #[.val (.long a), .second, .val (.long b), .second, .val (.long q), .second, .val (.int f), .val (.int (1 : Int32)), .unset, .unset, .unset, .unset, .unset, .unset, .unset, .unset, .unset, .unset, .unset, .unset]
    have k118 : To p.tables e below S0 (s₁.setTop (mkF m 18 l117 [(.int (f &&& (2 : Int32)))])) := fun tt hq => k2 tt (by
      show Steps _ _ _ (s₁.setTop (mkF m 4 l1 [(.int (f &&& (1 : Int32)))])) _
      refine XS.ifNo X0.here hx rfl (hb hby at_4) rfl ((if0 _ _).trans (feq hc4_3).1) ?_
      show Steps _ _ _ (s₁.setTop (mkF m 7 l1 [])) _
      refine XS.iconst X0.here hx rfl (hb hby at_7) ?_
      show Steps _ _ _ (s₁.setTop (mkF m 8 l1 [(.int (1 : Int32))])) _
      refine XS.goto X0.here hx rfl (pc0 := 8) (pc' := 12) rfl (hb hby at_8) (by decide) (by decide) ?_
      show Steps _ _ _ (s₁.setTop (mkF m 12 l1 [(.int (1 : Int32))])) _
      refine XS.istore X0.here hx rfl (hb hby at_12) rfl (l' := l117) rfl ?_
      show Steps _ _ _ (s₁.setTop (mkF m 14 l117 [])) _
      refine XS.iload X0.here hx rfl (hb hby at_14) rfl ?_
      show Steps _ _ _ (s₁.setTop (mkF m 16 l117 [(.int f)])) _
      refine XS.iconst X0.here hx rfl (hb hby at_16) ?_
      show Steps _ _ _ (s₁.setTop (mkF m 17 l117 [(.int (2 : Int32)), (.int f)])) _
      refine XS.iand X0.here hx rfl (hb hby at_17) rfl ?_
      show Steps _ _ _ (s₁.setTop (mkF m 18 l117 [(.int (f &&& (2 : Int32)))])) _
      exact hq)
    by_cases hc18_119 : (f &&& (2 : Int32)) = (0 : Int32)
    · -- pc 18, holds
      let l120 : Array Slot := #[.val (.long a), .second, .val (.long b), .second, .val (.long q), .second, .val (.int f), .val (.int (1 : Int32)), .val (.int (0 : Int32)), .unset, .unset, .unset, .unset, .unset, .unset, .unset, .unset, .unset, .unset, .unset]
      have k121 : To p.tables e below S0 (s₁.setTop (mkF m 32 l120 [(.int (f &&& (4 : Int32)))])) := fun tt hq => k118 tt (by
        show Steps _ _ _ (s₁.setTop (mkF m 18 l117 [(.int (f &&& (2 : Int32)))])) _
        refine XS.ifYes X0.here hx rfl (pc0 := 18) (pc' := 25) rfl (hb hby at_18) rfl ((if0 _ _).trans (teq hc18_119).1) (by decide) (by decide) ?_
        show Steps _ _ _ (s₁.setTop (mkF m 25 l117 [])) _
        refine XS.iconst X0.here hx rfl (hb hby at_25) ?_
        show Steps _ _ _ (s₁.setTop (mkF m 26 l117 [(.int (0 : Int32))])) _
        refine XS.istore X0.here hx rfl (hb hby at_26) rfl (l' := l120) rfl ?_
        show Steps _ _ _ (s₁.setTop (mkF m 28 l120 [])) _
        refine XS.iload X0.here hx rfl (hb hby at_28) rfl ?_
        show Steps _ _ _ (s₁.setTop (mkF m 30 l120 [(.int f)])) _
        refine XS.iconst X0.here hx rfl (hb hby at_30) ?_
        show Steps _ _ _ (s₁.setTop (mkF m 31 l120 [(.int (4 : Int32)), (.int f)])) _
        refine XS.iand X0.here hx rfl (hb hby at_31) rfl ?_
        show Steps _ _ _ (s₁.setTop (mkF m 32 l120 [(.int (f &&& (4 : Int32)))])) _
        exact hq)
      refine joinT (S0 := S0) X0 e0 (mkF m 44 l120 [(.ref (if (f &&& (4 : Int32)) = (0 : Int32) then qP else qF))]) (fun kont => ?_) (fun T122 X122 e122 k122 => ?_)
      · -- the roads to pc 44
        by_cases hc32_123 : (f &&& (4 : Int32)) = (0 : Int32)
        · -- pc 32, holds
          have k124 : To p.tables e below S0 (s₁.setTop (mkF m 41 l120 [])) := fun tt hq => k121 tt (by
            show Steps _ _ _ (s₁.setTop (mkF m 32 l120 [(.int (f &&& (4 : Int32)))])) _
            refine XS.ifYes X0.here hx rfl (pc0 := 32) (pc' := 41) rfl (hb hby at_32) rfl ((if0 _ _).trans (teq hc32_123).1) (by decide) (by decide) ?_
            show Steps _ _ _ (s₁.setTop (mkF m 41 l120 [])) _
            exact hq)
          obtain ⟨T125, X125, e125, st125⟩ := getS2 X0 hx hZ hown (host := "") (Or.inl (hw _ (List.mem_of_getElem? (i := 0) rfl))) Via.refl e0 (staOld S_P O0) (g := (mkF m 41 l120 [])) rfl (hb hby at_41)
          have k125 : To p.tables e below S0 (T125.setTop (mkF m 44 l120 [(.ref qP)])) := fun tt hq => k124 tt (st125 tt hq)
          exact kont T125 X125 e125 (fun tt hq => k125 tt (by simpa only [if_pos hc32_123] using hq))
        · -- pc 32, holds not
          have k126 : To p.tables e below S0 (s₁.setTop (mkF m 35 l120 [])) := fun tt hq => k121 tt (by
            show Steps _ _ _ (s₁.setTop (mkF m 32 l120 [(.int (f &&& (4 : Int32)))])) _
            refine XS.ifNo X0.here hx rfl (hb hby at_32) rfl ((if0 _ _).trans (feq hc32_123).1) ?_
            show Steps _ _ _ (s₁.setTop (mkF m 35 l120 [])) _
            exact hq)
          obtain ⟨T127, X127, e127, st127⟩ := getS2 X0 hx hZ hown (host := "") (Or.inl (hw _ (List.mem_of_getElem? (i := 60) rfl))) Via.refl e0 (staOld S_F O0) (g := (mkF m 35 l120 [])) rfl (hb hby at_35)
          have k127 : To p.tables e below S0 (T127.setTop (mkF m 38 l120 [(.ref qF)])) := fun tt hq => k126 tt (st127 tt hq)
          have k128 : To p.tables e below S0 (T127.setTop (mkF m 44 l120 [(.ref qF)])) := fun tt hq => k127 tt (by
            show Steps _ _ _ (T127.setTop (mkF m 38 l120 [(.ref qF)])) _
            refine XS.goto X127.here hx rfl (pc0 := 38) (pc' := 44) rfl (hb hby at_38) (by decide) (by decide) ?_
            show Steps _ _ _ (T127.setTop (mkF m 44 l120 [(.ref qF)])) _
            exact hq)
          exact kont T127 X127 e127 (fun tt hq => k128 tt (by simpa only [if_neg hc32_123] using hq))
      let l129 : Array Slot := #[.val (.long a), .second, .val (.long b), .second, .val (.long q), .second, .val (.int f), .val (.int (1 : Int32)), .val (.int (0 : Int32)), .val (.ref (if (f &&& (4 : Int32)) = (0 : Int32) then qP else qF)), .unset, .unset, .unset, .unset, .unset, .unset, .unset, .unset, .unset, .unset]
      have k130 : To p.tables e below S0 (T122.setTop (mkF m 51 l129 [(.int (f &&& (8 : Int32)))])) := fun tt hq => k122 tt (by
        show Steps _ _ _ (T122.setTop (mkF m 44 l120 [(.ref (if (f &&& (4 : Int32)) = (0 : Int32) then qP else qF))])) _
        refine XS.astore X122.here hx rfl (hb hby at_44) rfl rfl (l' := l129) rfl ?_
        show Steps _ _ _ (T122.setTop (mkF m 46 l129 [])) _
        refine XS.iload X122.here hx rfl (hb hby at_46) rfl ?_
        show Steps _ _ _ (T122.setTop (mkF m 48 l129 [(.int f)])) _
        refine XS.bipush X122.here hx rfl (hb hby at_48) ?_
        show Steps _ _ _ (T122.setTop (mkF m 50 l129 [(.int (8 : Int32)), (.int f)])) _
        refine XS.iand X122.here hx rfl (hb hby at_50) rfl ?_
        show Steps _ _ _ (T122.setTop (mkF m 51 l129 [(.int (f &&& (8 : Int32)))])) _
        exact hq)
      refine joinT (S0 := S0) X122 e122 (mkF m 63 l129 [(.ref (if (f &&& (8 : Int32)) = (0 : Int32) then qP else qF))]) (fun kont => ?_) (fun T131 X131 e131 k131 => ?_)
      · -- the roads to pc 63
        by_cases hc51_132 : (f &&& (8 : Int32)) = (0 : Int32)
        · -- pc 51, holds
          have k133 : To p.tables e below S0 (T122.setTop (mkF m 60 l129 [])) := fun tt hq => k130 tt (by
            show Steps _ _ _ (T122.setTop (mkF m 51 l129 [(.int (f &&& (8 : Int32)))])) _
            refine XS.ifYes X122.here hx rfl (pc0 := 51) (pc' := 60) rfl (hb hby at_51) rfl ((if0 _ _).trans (teq hc51_132).1) (by decide) (by decide) ?_
            show Steps _ _ _ (T122.setTop (mkF m 60 l129 [])) _
            exact hq)
          obtain ⟨T134, X134, e134, st134⟩ := getS2 X122 hx hZ hown (host := "") (Or.inl (hw _ (List.mem_of_getElem? (i := 0) rfl))) Via.refl e122 (staOld S_P O0) (g := (mkF m 60 l129 [])) rfl (hb hby at_60)
          have k134 : To p.tables e below S0 (T134.setTop (mkF m 63 l129 [(.ref qP)])) := fun tt hq => k133 tt (st134 tt hq)
          exact kont T134 X134 e134 (fun tt hq => k134 tt (by simpa only [if_pos hc51_132] using hq))
        · -- pc 51, holds not
          have k135 : To p.tables e below S0 (T122.setTop (mkF m 54 l129 [])) := fun tt hq => k130 tt (by
            show Steps _ _ _ (T122.setTop (mkF m 51 l129 [(.int (f &&& (8 : Int32)))])) _
            refine XS.ifNo X122.here hx rfl (hb hby at_51) rfl ((if0 _ _).trans (feq hc51_132).1) ?_
            show Steps _ _ _ (T122.setTop (mkF m 54 l129 [])) _
            exact hq)
          obtain ⟨T136, X136, e136, st136⟩ := getS2 X122 hx hZ hown (host := "") (Or.inl (hw _ (List.mem_of_getElem? (i := 60) rfl))) Via.refl e122 (staOld S_F O0) (g := (mkF m 54 l129 [])) rfl (hb hby at_54)
          have k136 : To p.tables e below S0 (T136.setTop (mkF m 57 l129 [(.ref qF)])) := fun tt hq => k135 tt (st136 tt hq)
          have k137 : To p.tables e below S0 (T136.setTop (mkF m 63 l129 [(.ref qF)])) := fun tt hq => k136 tt (by
            show Steps _ _ _ (T136.setTop (mkF m 57 l129 [(.ref qF)])) _
            refine XS.goto X136.here hx rfl (pc0 := 57) (pc' := 63) rfl (hb hby at_57) (by decide) (by decide) ?_
            show Steps _ _ _ (T136.setTop (mkF m 63 l129 [(.ref qF)])) _
            exact hq)
          exact kont T136 X136 e136 (fun tt hq => k137 tt (by simpa only [if_neg hc51_132] using hq))
      let l138 : Array Slot := #[.val (.long a), .second, .val (.long b), .second, .val (.long q), .second, .val (.int f), .val (.int (1 : Int32)), .val (.int (0 : Int32)), .val (.ref (if (f &&& (4 : Int32)) = (0 : Int32) then qP else qF)), .val (.ref (if (f &&& (8 : Int32)) = (0 : Int32) then qP else qF)), .unset, .unset, .unset, .unset, .unset, .unset, .unset, .unset, .unset]
      have k139 : To p.tables e below S0 (T131.setTop (mkF m 75 l138 [(.int ((((f.toUInt32 >>> ((8 : Int32) &&& 31).toUInt32).toInt32) &&& (255 : Int32)).toUInt32.toUInt16.toUInt32.toInt32))])) := fun tt hq => k131 tt (by
        show Steps _ _ _ (T131.setTop (mkF m 63 l129 [(.ref (if (f &&& (8 : Int32)) = (0 : Int32) then qP else qF))])) _
        refine XS.astore X131.here hx rfl (hb hby at_63) rfl rfl (l' := l138) rfl ?_
        show Steps _ _ _ (T131.setTop (mkF m 65 l138 [])) _
        refine XS.iload X131.here hx rfl (hb hby at_65) rfl ?_
        show Steps _ _ _ (T131.setTop (mkF m 67 l138 [(.int f)])) _
        refine XS.bipush X131.here hx rfl (hb hby at_67) ?_
        show Steps _ _ _ (T131.setTop (mkF m 69 l138 [(.int (8 : Int32)), (.int f)])) _
        refine XS.iushr X131.here hx rfl (hb hby at_69) rfl ?_
        show Steps _ _ _ (T131.setTop (mkF m 70 l138 [(.int ((f.toUInt32 >>> ((8 : Int32) &&& 31).toUInt32).toInt32))])) _
        refine XS.sipush X131.here hx rfl (hb hby at_70) ?_
        show Steps _ _ _ (T131.setTop (mkF m 73 l138 [(.int (255 : Int32)), (.int ((f.toUInt32 >>> ((8 : Int32) &&& 31).toUInt32).toInt32))])) _
        refine XS.iand X131.here hx rfl (hb hby at_73) rfl ?_
        show Steps _ _ _ (T131.setTop (mkF m 74 l138 [(.int (((f.toUInt32 >>> ((8 : Int32) &&& 31).toUInt32).toInt32) &&& (255 : Int32)))])) _
        refine XS.i2c X131.here hx rfl (hb hby at_74) rfl ?_
        show Steps _ _ _ (T131.setTop (mkF m 75 l138 [(.int ((((f.toUInt32 >>> ((8 : Int32) &&& 31).toUInt32).toInt32) &&& (255 : Int32)).toUInt32.toUInt16.toUInt32.toInt32))])) _
        exact hq)
      obtain ⟨_, T140, L140, X140, ⟨a140, t140, k140x, rfl, Nq140, ga140, gt140, Kq140, P1400, P1401, P1402, P1403⟩, k140a⟩ := callS' X131 hx hZ (y := (⟨"java/lang/String", "valueOf", "(C)Ljava/lang/String;"⟩ : MethodName)) hown (hw _ (List.mem_of_getElem? (i := 3) rfl)) (hw _ (List.mem_of_getElem? (i := 4) rfl)) (hw _ (List.mem_of_getElem? (i := 5) rfl)) (hw _ (List.mem_of_getElem? (i := 6) rfl)) (by decide) (backC (W := 0) (rm_vof l Z a0 hw zc ((((f.toUInt32 >>> ((8 : Int32) &&& 31).toUInt32).toInt32) &&& (255 : Int32)).toUInt32.toUInt16.toUInt32.toInt32) h0 n0 (by omega) S_c hzc O0 (own_le255 _)) hZ (hw _ (List.mem_of_getElem? (i := 6) rfl)) (hw _ (List.mem_of_getElem? (i := 5) rfl)) (by decide) (by decide)) e131 (argsL := [(.int ((((f.toUInt32 >>> ((8 : Int32) &&& 31).toUInt32).toInt32) &&& (255 : Int32)).toUInt32.toUInt16.toUInt32.toInt32))]) (rest := []) rfl rfl pd_12 rfl (by rw [hml]; rfl) (hb hby at_75) (Nat.le_of_eq rfl) (by decide) (by decide) k139
      have k140 : To p.tables e below S0 (T140.setTop (mkF m 78 l138 [(.ref a140)])) := k140a
      have N140 := N0.app Nq140
      obtain ⟨h140, e140⟩ : ∃ z, T140.heap = z := ⟨_, rfl⟩
      rw [e140] at Kq140 P1400 P1401 P1402 P1403
      have z140 : h0.size ≤ h140.size := Kq140.1
      have ya140 : @LT.lt Nat instLTNat a140 h140.size := P1400.lt
      have yt140 : @LT.lt Nat instLTNat t140 h140.size := P1403.lt
      let l141 : Array Slot := #[.val (.long a), .second, .val (.long b), .second, .val (.long q), .second, .val (.int f), .val (.int (1 : Int32)), .val (.int (0 : Int32)), .val (.ref (if (f &&& (4 : Int32)) = (0 : Int32) then qP else qF)), .val (.ref (if (f &&& (8 : Int32)) = (0 : Int32) then qP else qF)), .val (.ref a140), .unset, .unset, .unset, .unset, .unset, .unset, .unset, .unset]
      have k142 : To p.tables e below S0 (T140.setTop (mkF m 90 l141 [(.int ((((f.toUInt32 >>> ((16 : Int32) &&& 31).toUInt32).toInt32) &&& (255 : Int32)).toUInt32.toUInt16.toUInt32.toInt32))])) := fun tt hq => k140 tt (by
        show Steps _ _ _ (T140.setTop (mkF m 78 l138 [(.ref a140)])) _
        refine XS.astore X140.here hx rfl (hb hby at_78) rfl rfl (l' := l141) rfl ?_
        show Steps _ _ _ (T140.setTop (mkF m 80 l141 [])) _
        refine XS.iload X140.here hx rfl (hb hby at_80) rfl ?_
        show Steps _ _ _ (T140.setTop (mkF m 82 l141 [(.int f)])) _
        refine XS.bipush X140.here hx rfl (hb hby at_82) ?_
        show Steps _ _ _ (T140.setTop (mkF m 84 l141 [(.int (16 : Int32)), (.int f)])) _
        refine XS.iushr X140.here hx rfl (hb hby at_84) rfl ?_
        show Steps _ _ _ (T140.setTop (mkF m 85 l141 [(.int ((f.toUInt32 >>> ((16 : Int32) &&& 31).toUInt32).toInt32))])) _
        refine XS.sipush X140.here hx rfl (hb hby at_85) ?_
        show Steps _ _ _ (T140.setTop (mkF m 88 l141 [(.int (255 : Int32)), (.int ((f.toUInt32 >>> ((16 : Int32) &&& 31).toUInt32).toInt32))])) _
        refine XS.iand X140.here hx rfl (hb hby at_88) rfl ?_
        show Steps _ _ _ (T140.setTop (mkF m 89 l141 [(.int (((f.toUInt32 >>> ((16 : Int32) &&& 31).toUInt32).toInt32) &&& (255 : Int32)))])) _
        refine XS.i2c X140.here hx rfl (hb hby at_89) rfl ?_
        show Steps _ _ _ (T140.setTop (mkF m 90 l141 [(.int ((((f.toUInt32 >>> ((16 : Int32) &&& 31).toUInt32).toInt32) &&& (255 : Int32)).toUInt32.toUInt16.toUInt32.toInt32))])) _
        exact hq)
      have f143 : Old Z n0 h140 := (O0.keep Kq140 all0)
      obtain ⟨_, T144, L144, X144, ⟨a144, t144, k144x, rfl, Nq144, ga144, gt144, Kq144, P1440, P1441, P1442, P1443⟩, k144a⟩ := callS' X140 hx hZ (y := (⟨"java/lang/String", "valueOf", "(C)Ljava/lang/String;"⟩ : MethodName)) hown (hw _ (List.mem_of_getElem? (i := 3) rfl)) (hw _ (List.mem_of_getElem? (i := 4) rfl)) (hw _ (List.mem_of_getElem? (i := 5) rfl)) (hw _ (List.mem_of_getElem? (i := 6) rfl)) (by decide) (backC (W := 0) (rm_vof l Z a0 hw zc ((((f.toUInt32 >>> ((16 : Int32) &&& 31).toUInt32).toInt32) &&& (255 : Int32)).toUInt32.toUInt16.toUInt32.toInt32) h140 n0 (by omega) S_c hzc f143 (own_le255 _)) hZ (hw _ (List.mem_of_getElem? (i := 6) rfl)) (hw _ (List.mem_of_getElem? (i := 5) rfl)) (by decide) (by decide)) e140 (argsL := [(.int ((((f.toUInt32 >>> ((16 : Int32) &&& 31).toUInt32).toInt32) &&& (255 : Int32)).toUInt32.toUInt16.toUInt32.toInt32))]) (rest := []) rfl rfl pd_12 rfl (by rw [hml]; rfl) (hb hby at_90) (Nat.le_of_eq rfl) (by decide) (by decide) k142
      have k144 : To p.tables e below S0 (T144.setTop (mkF m 93 l141 [(.ref a144)])) := k144a
      have N144 := N140.app Nq144
      obtain ⟨h144, e144⟩ : ∃ z, T144.heap = z := ⟨_, rfl⟩
      rw [e144] at Kq144 P1440 P1441 P1442 P1443
      have z144 : h140.size ≤ h144.size := Kq144.1
      have ya144 : @LT.lt Nat instLTNat a144 h144.size := P1440.lt
      have yt144 : @LT.lt Nat instLTNat t144 h144.size := P1443.lt
      let l145 : Array Slot := #[.val (.long a), .second, .val (.long b), .second, .val (.long q), .second, .val (.int f), .val (.int (1 : Int32)), .val (.int (0 : Int32)), .val (.ref (if (f &&& (4 : Int32)) = (0 : Int32) then qP else qF)), .val (.ref (if (f &&& (8 : Int32)) = (0 : Int32) then qP else qF)), .val (.ref a140), .val (.ref a144), .unset, .unset, .unset, .unset, .unset, .unset, .unset]
      have k146 : To p.tables e below S0 (T144.setTop (mkF m 95 l145 [])) := fun tt hq => k144 tt (by
        show Steps _ _ _ (T144.setTop (mkF m 93 l141 [(.ref a144)])) _
        refine XS.astore X144.here hx rfl (hb hby at_93) rfl rfl (l' := l145) rfl ?_
        show Steps _ _ _ (T144.setTop (mkF m 95 l145 [])) _
        exact hq)
      obtain ⟨T147, h147, X147, e147, E147, A147, D147, -, st147⟩ := newO X144 hx hZ hown (hw _ (List.mem_of_getElem? (i := 29) rfl)) (hw _ (List.mem_of_getElem? (i := 30) rfl)) (hw _ (List.mem_of_getElem? (i := 31) rfl)) e144 (g := (mkF m 95 l145 [])) rfl (hb hby at_95) (by decide) (by decide)
      obtain ⟨b147, g147⟩ : ∃ z, z = h144.size := ⟨_, rfl⟩
      rw [← g147] at A147 D147 st147
      have k147 : To p.tables e below S0 (T147.setTop (mkF m 98 l145 [(.ref b147)])) := fun tt hq => k146 tt (st147 tt hq)
      have z147 : h144.size ≤ h147.size := E147.1
      have y147 : @LT.lt Nat instLTNat b147 h147.size := A147.lt
      have F147_highest : Fld Z h147 b147 "com/example/huntaway/huntaway/Precedence" "highest" "J" (.long (0 : Int64)) := D147 (Or.inl (hw _ (List.mem_of_getElem? (i := 38) rfl))) (ty := .long) (by decide)
      have F147_permitting : Fld Z h147 b147 "com/example/huntaway/huntaway/Precedence" "permitting" "Ljava/lang/String;" .null := D147 (Or.inl (hw _ (List.mem_of_getElem? (i := 50) rfl))) (ty := (.object "java/lang/String")) (by decide)
      have F147_forbidding : Fld Z h147 b147 "com/example/huntaway/huntaway/Precedence" "forbidding" "Ljava/lang/String;" .null := D147 (Or.inl (hw _ (List.mem_of_getElem? (i := 52) rfl))) (ty := (.object "java/lang/String")) (by decide)
      have k148 : To p.tables e below S0 (T147.setTop (mkF m 99 l145 [(.ref b147), (.ref b147)])) := fun tt hq => k147 tt (by
        show Steps _ _ _ (T147.setTop (mkF m 98 l145 [(.ref b147)])) _
        refine XS.dup X147.here hx rfl (hb hby at_98) rfl rfl ?_
        show Steps _ _ _ (T147.setTop (mkF m 99 l145 [(.ref b147), (.ref b147)])) _
        exact hq)
      obtain ⟨_, T149, L149, X149, ⟨rfl, Nq149, Kq149, P1490, P1491, P1492, P1493⟩, k149a⟩ := callC' X147 hx hZ (y := (⟨"com/example/huntaway/huntaway/Precedence", "<init>", "()V"⟩ : MethodName)) rfl hown (hw _ (List.mem_of_getElem? (i := 32) rfl)) (hw _ (List.mem_of_getElem? (i := 33) rfl)) (hw _ (List.mem_of_getElem? (i := 34) rfl)) (by decide) (backC (W := 1) (rm_pinit l Z a0 hw b147 h147 n0 (by omega) A147 F147_highest F147_permitting F147_forbidding (by omega)) hZ (hw _ (List.mem_of_getElem? (i := 34) rfl)) (hw _ (List.mem_of_getElem? (i := 31) rfl)) (by decide) (by decide)) e147 (argsL := []) (rest := [(.ref b147)]) rfl rfl pd_13 rfl (by rw [hml]; rfl) (hb hby at_99) (Nat.le_of_eq rfl) (by decide) (by decide) k148
      have k149 : To p.tables e below S0 (T149.setTop (mkF m 102 l145 [(.ref b147)])) := k149a
      have N149 := N144.app Nq149
      obtain ⟨h149, e149⟩ : ∃ z, T149.heap = z := ⟨_, rfl⟩
      rw [e149] at Kq149 P1490 P1491 P1492 P1493
      have z149 : h147.size ≤ h149.size := Kq149.1
      let l150 : Array Slot := #[.val (.long a), .second, .val (.long b), .second, .val (.long q), .second, .val (.int f), .val (.int (1 : Int32)), .val (.int (0 : Int32)), .val (.ref (if (f &&& (4 : Int32)) = (0 : Int32) then qP else qF)), .val (.ref (if (f &&& (8 : Int32)) = (0 : Int32) then qP else qF)), .val (.ref a140), .val (.ref a144), .val (.ref b147), .unset, .unset, .unset, .unset, .unset, .unset]
      have k151 : To p.tables e below S0 (T149.setTop (mkF m 108 l150 [(.long q), (.ref b147)])) := fun tt hq => k149 tt (by
        show Steps _ _ _ (T149.setTop (mkF m 102 l145 [(.ref b147)])) _
        refine XS.astore X149.here hx rfl (hb hby at_102) rfl rfl (l' := l150) rfl ?_
        show Steps _ _ _ (T149.setTop (mkF m 104 l150 [])) _
        refine XS.aload X149.here hx rfl (hb hby at_104) rfl rfl ?_
        show Steps _ _ _ (T149.setTop (mkF m 106 l150 [(.ref b147)])) _
        refine XS.lload X149.here hx rfl (hb hby at_106) rfl ?_
        show Steps _ _ _ (T149.setTop (mkF m 108 l150 [(.long q), (.ref b147)])) _
        exact hq)
      obtain ⟨_, T152, L152, X152, ⟨rfl, Nq152, eq152⟩, k152a⟩ := callV' X149 hx hZ (y := (⟨"com/example/huntaway/huntaway/Precedence", "couldCount", "(J)Z"⟩ : MethodName)) (z := (⟨"com/example/huntaway/huntaway/Precedence", "couldCount", "(J)Z"⟩ : MethodName)) hown (hw _ (List.mem_of_getElem? (i := 39) rfl)) (hw _ (List.mem_of_getElem? (i := 40) rfl)) (notFace_of_selects (args := #[]) (mvT hZ (hw _ (List.mem_of_getElem? (i := 42) rfl)))) (hw _ (List.mem_of_getElem? (i := 42) rfl)) (hw _ (List.mem_of_getElem? (i := 41) rfl)) (by decide) P1490 (backC (W := 0) (rm_could l Z a0 hw b147 (-9223372036854775808 : Int64) q (1 : Int32) h149 n0 (by omega) P1491 (fun z => absurd z (own_min64 _)) (fun _ => rfl)) hZ (hw _ (List.mem_of_getElem? (i := 43) rfl)) (hw _ (List.mem_of_getElem? (i := 31) rfl)) (by decide) (by decide)) e149 (argsL := [(.long q)]) (rest := []) rfl rfl pd_14 rfl (by rw [hml]; rfl) (hb hby at_108) (Nat.le_of_eq rfl) (by decide) (by decide) k151
      have k152 : To p.tables e below S0 (T152.setTop (mkF m 111 l150 [(.int (1 : Int32))])) := k152a
      have N152 := N149.app Nq152
      have e152 : T152.heap = h149 := eq152
      let l153 : Array Slot := #[.val (.long a), .second, .val (.long b), .second, .val (.long q), .second, .val (.int f), .val (.int (1 : Int32)), .val (.int (0 : Int32)), .val (.ref (if (f &&& (4 : Int32)) = (0 : Int32) then qP else qF)), .val (.ref (if (f &&& (8 : Int32)) = (0 : Int32) then qP else qF)), .val (.ref a140), .val (.ref a144), .val (.ref b147), .val (.int (1 : Int32)), .unset, .unset, .unset, .unset, .unset]
      have k154 : To p.tables e below S0 (T152.setTop (mkF m 125 l153 [(.ref a140), (.long a), (.ref (if (f &&& (4 : Int32)) = (0 : Int32) then qP else qF)), (.ref b147)])) := fun tt hq => k152 tt (by
        show Steps _ _ _ (T152.setTop (mkF m 111 l150 [(.int (1 : Int32))])) _
        refine XS.istore X152.here hx rfl (hb hby at_111) rfl (l' := l153) rfl ?_
        show Steps _ _ _ (T152.setTop (mkF m 113 l153 [])) _
        refine XS.iload X152.here hx rfl (hb hby at_113) rfl ?_
        show Steps _ _ _ (T152.setTop (mkF m 115 l153 [(.int (1 : Int32))])) _
        refine XS.ifNo X152.here hx rfl (hb hby at_115) rfl ((if0 _ _).trans (feq (by decide)).1) ?_
        show Steps _ _ _ (T152.setTop (mkF m 118 l153 [])) _
        refine XS.aload X152.here hx rfl (hb hby at_118) rfl rfl ?_
        show Steps _ _ _ (T152.setTop (mkF m 120 l153 [(.ref b147)])) _
        refine XS.aload X152.here hx rfl (hb hby at_120) rfl rfl ?_
        show Steps _ _ _ (T152.setTop (mkF m 122 l153 [(.ref (if (f &&& (4 : Int32)) = (0 : Int32) then qP else qF)), (.ref b147)])) _
        refine XS.lloadN X152.here hx rfl (hb hby at_122) rfl ?_
        show Steps _ _ _ (T152.setTop (mkF m 123 l153 [(.long a), (.ref (if (f &&& (4 : Int32)) = (0 : Int32) then qP else qF)), (.ref b147)])) _
        refine XS.aload X152.here hx rfl (hb hby at_123) rfl rfl ?_
        show Steps _ _ _ (T152.setTop (mkF m 125 l153 [(.ref a140), (.long a), (.ref (if (f &&& (4 : Int32)) = (0 : Int32) then qP else qF)), (.ref b147)])) _
        exact hq)
      have f155 : Exa Z h149 a140 "java/lang/String" := (((P1400.keep Kq144).ext E147).keep Kq149)
      have f156 : Fld Z h149 a140 "java/lang/String" "value" "[B" (.ref t140) := (((P1401.keep Kq144 nin0).ext E147).keep Kq149 (ninS (adr_ne (by omega)) nin0))
      have f157 : Fld Z h149 a140 "java/lang/String" "coder" "B" (.int (0 : Int32)) := (((P1402.keep Kq144 nin0).ext E147).keep Kq149 (ninS (adr_ne (by omega)) nin0))
      have f158 : Arv Z h149 t140 k140x .byte (1 : Int32) [(.int (nar .byte (((((f.toUInt32 >>> ((8 : Int32) &&& 31).toUInt32).toInt32) &&& (255 : Int32)).toUInt32.toUInt16.toUInt32.toInt32).toInt8.toInt32)))] (.int 0) := (((P1403.keep Kq144 nin0).ext E147).keep Kq149 (ninS (adr_ne (by omega)) nin0))
      have f159 : Old Z n0 h149 := (((f143.keep Kq144 all0).ext E147).keep Kq149 (allS (by omega) all0))
      obtain ⟨_, T160, L160, X160, ⟨rfl, Nq160, Kq160, A160, u160, v160x, Fh160, Fp160, Ff160, hu160, hv160, nn160, cs160⟩, k160a⟩ := callV' X152 hx hZ (y := (⟨"com/example/huntaway/huntaway/Precedence", "offer", "(Lcom/example/huntaway/huntaway/Effect;JLjava/lang/String;)V"⟩ : MethodName)) (z := (⟨"com/example/huntaway/huntaway/Precedence", "offer", "(Lcom/example/huntaway/huntaway/Effect;JLjava/lang/String;)V"⟩ : MethodName)) hown (hw _ (List.mem_of_getElem? (i := 44) rfl)) (hw _ (List.mem_of_getElem? (i := 45) rfl)) (notFace_of_selects (args := #[]) (mvT hZ (hw _ (List.mem_of_getElem? (i := 47) rfl)))) (hw _ (List.mem_of_getElem? (i := 47) rfl)) (hw _ (List.mem_of_getElem? (i := 46) rfl)) (by decide) P1490 (backC (W := 0) (rm_offNN l Z a0 hw zc fm qF qP qI b147 (if (f &&& (4 : Int32)) = (0 : Int32) then qP else qF) a  a140 t140 k140x (nar .byte (((((f.toUInt32 >>> ((8 : Int32) &&& 31).toUInt32).toInt32) &&& (255 : Int32)).toUInt32.toUInt16.toUInt32.toInt32).toInt8.toInt32))  h149 n0 (by omega) S_c hzc S_f hfm S_F S_P S_I A_I f159 P1490 P1491 P1492 P1493 f155 f156 f157 f158  (adr_ne (by omega)) (adr_ne (by omega)) (by omega)) hZ (hw _ (List.mem_of_getElem? (i := 48) rfl)) (hw _ (List.mem_of_getElem? (i := 31) rfl)) (by decide) (by decide)) e152 (argsL := [(.ref (if (f &&& (4 : Int32)) = (0 : Int32) then qP else qF)), (.long a), (.ref a140)]) (rest := []) rfl rfl pd_15 rfl (by rw [hml]; rfl) (hb hby at_125) (Nat.le_of_eq rfl) (by decide) (by decide) k154
      have k160 : To p.tables e below S0 (T160.setTop (mkF m 128 l153 [])) := k160a
      have N160 := N152.app Nq160
      obtain ⟨h160, e160⟩ : ∃ z, T160.heap = z := ⟨_, rfl⟩
      rw [e160] at Kq160 A160 Fh160 Fp160 Ff160
      have z160 : h149.size ≤ h160.size := Kq160.1
      let l161 : Array Slot := #[.val (.long a), .second, .val (.long b), .second, .val (.long q), .second, .val (.int f), .val (.int (1 : Int32)), .val (.int (0 : Int32)), .val (.ref (if (f &&& (4 : Int32)) = (0 : Int32) then qP else qF)), .val (.ref (if (f &&& (8 : Int32)) = (0 : Int32) then qP else qF)), .val (.ref a140), .val (.ref a144), .val (.ref b147), .val (.int (1 : Int32)), .val (.int (1 : Int32)), .unset, .unset, .unset, .unset]
      let l162 : Array Slot := #[.val (.long a), .second, .val (.long b), .second, .val (.long q), .second, .val (.int f), .val (.int (1 : Int32)), .val (.int (0 : Int32)), .val (.ref (if (f &&& (4 : Int32)) = (0 : Int32) then qP else qF)), .val (.ref (if (f &&& (8 : Int32)) = (0 : Int32) then qP else qF)), .val (.ref a140), .val (.ref a144), .val (.ref b147), .val (.int (1 : Int32)), .val (.int (1 : Int32)), .val (.long a), .second, .unset, .unset]
      have k163 : To p.tables e below S0 (T160.setTop (mkF m 195 l162 [(.int (lcmpW q a))])) := fun tt hq => k160 tt (by
        show Steps _ _ _ (T160.setTop (mkF m 128 l153 [])) _
        refine XS.iload X160.here hx rfl (hb hby at_128) rfl ?_
        show Steps _ _ _ (T160.setTop (mkF m 130 l153 [(.int (0 : Int32))])) _
        refine XS.ifYes X160.here hx rfl (pc0 := 130) (pc' := 143) rfl (hb hby at_130) rfl ((if0 _ _).trans (teq (by decide)).1) (by decide) (by decide) ?_
        show Steps _ _ _ (T160.setTop (mkF m 143 l153 [])) _
        refine XS.iload X160.here hx rfl (hb hby at_143) rfl ?_
        show Steps _ _ _ (T160.setTop (mkF m 145 l153 [(.int (1 : Int32))])) _
        refine XS.ifYes X160.here hx rfl (pc0 := 145) (pc' := 153) rfl (hb hby at_145) rfl ((if0 _ _).trans (feq (by decide)).2) (by decide) (by decide) ?_
        show Steps _ _ _ (T160.setTop (mkF m 153 l153 [])) _
        refine XS.iconst X160.here hx rfl (hb hby at_153) ?_
        show Steps _ _ _ (T160.setTop (mkF m 154 l153 [(.int (1 : Int32))])) _
        refine XS.goto X160.here hx rfl (pc0 := 154) (pc' := 158) rfl (hb hby at_154) (by decide) (by decide) ?_
        show Steps _ _ _ (T160.setTop (mkF m 158 l153 [(.int (1 : Int32))])) _
        refine XS.istore X160.here hx rfl (hb hby at_158) rfl (l' := l161) rfl ?_
        show Steps _ _ _ (T160.setTop (mkF m 160 l161 [])) _
        refine XS.iload X160.here hx rfl (hb hby at_160) rfl ?_
        show Steps _ _ _ (T160.setTop (mkF m 162 l161 [(.int (1 : Int32))])) _
        refine XS.ifNo X160.here hx rfl (hb hby at_162) rfl ((if0 _ _).trans (feq (by decide)).1) ?_
        show Steps _ _ _ (T160.setTop (mkF m 165 l161 [])) _
        refine XS.iload X160.here hx rfl (hb hby at_165) rfl ?_
        show Steps _ _ _ (T160.setTop (mkF m 167 l161 [(.int (0 : Int32))])) _
        refine XS.ifYes X160.here hx rfl (pc0 := 167) (pc' := 178) rfl (hb hby at_167) rfl ((if0 _ _).trans (teq (by decide)).1) (by decide) (by decide) ?_
        show Steps _ _ _ (T160.setTop (mkF m 178 l161 [])) _
        refine XS.lloadN X160.here hx rfl (hb hby at_178) rfl ?_
        show Steps _ _ _ (T160.setTop (mkF m 179 l161 [(.long a)])) _
        refine XS.goto X160.here hx rfl (pc0 := 179) (pc' := 183) rfl (hb hby at_179) (by decide) (by decide) ?_
        show Steps _ _ _ (T160.setTop (mkF m 183 l161 [(.long a)])) _
        refine XS.lstore X160.here hx rfl (hb hby at_183) rfl (l' := l162) rfl ?_
        show Steps _ _ _ (T160.setTop (mkF m 185 l162 [])) _
        refine XS.iload X160.here hx rfl (hb hby at_185) rfl ?_
        show Steps _ _ _ (T160.setTop (mkF m 187 l162 [(.int (1 : Int32))])) _
        refine XS.ifNo X160.here hx rfl (hb hby at_187) rfl ((if0 _ _).trans (feq (by decide)).1) ?_
        show Steps _ _ _ (T160.setTop (mkF m 190 l162 [])) _
        refine XS.lload X160.here hx rfl (hb hby at_190) rfl ?_
        show Steps _ _ _ (T160.setTop (mkF m 192 l162 [(.long q)])) _
        refine XS.lload X160.here hx rfl (hb hby at_192) rfl ?_
        show Steps _ _ _ (T160.setTop (mkF m 194 l162 [(.long a), (.long q)])) _
        refine XS.lcmp X160.here hx rfl (hb hby at_194) rfl ?_
        show Steps _ _ _ (T160.setTop (mkF m 195 l162 [(.int (lcmpW q a))])) _
        exact hq)
      by_cases hc195_164 : (lcmpW q a) < (0 : Int32)
      · -- pc 195, holds
        let l165 : Array Slot := #[.val (.long a), .second, .val (.long b), .second, .val (.long q), .second, .val (.int f), .val (.int (1 : Int32)), .val (.int (0 : Int32)), .val (.ref (if (f &&& (4 : Int32)) = (0 : Int32) then qP else qF)), .val (.ref (if (f &&& (8 : Int32)) = (0 : Int32) then qP else qF)), .val (.ref a140), .val (.ref a144), .val (.ref b147), .val (.int (1 : Int32)), .val (.int (1 : Int32)), .val (.long a), .second, .val (.int (0 : Int32)), .unset]
        have k166 : To p.tables e below S0 (T160.setTop (mkF m 214 l165 [(.long q), (.ref b147)])) := fun tt hq => k163 tt (by
          show Steps _ _ _ (T160.setTop (mkF m 195 l162 [(.int (lcmpW q a))])) _
          refine XS.ifYes X160.here hx rfl (pc0 := 195) (pc' := 202) rfl (hb hby at_195) rfl ((if0 _ _).trans (tlt hc195_164).1) (by decide) (by decide) ?_
          show Steps _ _ _ (T160.setTop (mkF m 202 l162 [])) _
          refine XS.iconst X160.here hx rfl (hb hby at_202) ?_
          show Steps _ _ _ (T160.setTop (mkF m 203 l162 [(.int (0 : Int32))])) _
          refine XS.istore X160.here hx rfl (hb hby at_203) rfl (l' := l165) rfl ?_
          show Steps _ _ _ (T160.setTop (mkF m 205 l165 [])) _
          refine XS.iload X160.here hx rfl (hb hby at_205) rfl ?_
          show Steps _ _ _ (T160.setTop (mkF m 207 l165 [(.int (1 : Int32))])) _
          refine XS.ifNo X160.here hx rfl (hb hby at_207) rfl ((if0 _ _).trans (feq (by decide)).1) ?_
          show Steps _ _ _ (T160.setTop (mkF m 210 l165 [])) _
          refine XS.aload X160.here hx rfl (hb hby at_210) rfl rfl ?_
          show Steps _ _ _ (T160.setTop (mkF m 212 l165 [(.ref b147)])) _
          refine XS.lload X160.here hx rfl (hb hby at_212) rfl ?_
          show Steps _ _ _ (T160.setTop (mkF m 214 l165 [(.long q), (.ref b147)])) _
          exact hq)
        obtain ⟨_, T167, L167, X167, ⟨rfl, Nq167, eq167⟩, k167a⟩ := callV' X160 hx hZ (y := (⟨"com/example/huntaway/huntaway/Precedence", "couldCount", "(J)Z"⟩ : MethodName)) (z := (⟨"com/example/huntaway/huntaway/Precedence", "couldCount", "(J)Z"⟩ : MethodName)) hown (hw _ (List.mem_of_getElem? (i := 39) rfl)) (hw _ (List.mem_of_getElem? (i := 40) rfl)) (notFace_of_selects (args := #[]) (mvT hZ (hw _ (List.mem_of_getElem? (i := 42) rfl)))) (hw _ (List.mem_of_getElem? (i := 42) rfl)) (hw _ (List.mem_of_getElem? (i := 41) rfl)) (by decide) A160 (backC (W := 0) (rm_could l Z a0 hw b147 a q (0 : Int32) h160 n0 (by omega) Fh160 (fun _ => rfl) (fun z => absurd ((lc_lt _ _).mp ((lcW _ _) ▸ hc195_164)) z)) hZ (hw _ (List.mem_of_getElem? (i := 43) rfl)) (hw _ (List.mem_of_getElem? (i := 31) rfl)) (by decide) (by decide)) e160 (argsL := [(.long q)]) (rest := []) rfl rfl pd_14 rfl (by rw [hml]; rfl) (hb hby at_214) (Nat.le_of_eq rfl) (by decide) (by decide) k166
        have k167 : To p.tables e below S0 (T167.setTop (mkF m 217 l165 [(.int (0 : Int32))])) := k167a
        have N167 := N160.app Nq167
        have e167 : T167.heap = h160 := eq167
        let l168 : Array Slot := #[.val (.long a), .second, .val (.long b), .second, .val (.long q), .second, .val (.int f), .val (.int (1 : Int32)), .val (.int (0 : Int32)), .val (.ref (if (f &&& (4 : Int32)) = (0 : Int32) then qP else qF)), .val (.ref (if (f &&& (8 : Int32)) = (0 : Int32) then qP else qF)), .val (.ref a140), .val (.ref a144), .val (.ref b147), .val (.int (1 : Int32)), .val (.int (1 : Int32)), .val (.long a), .second, .val (.int (0 : Int32)), .val (.int (1 : Int32))]
        have k169 : To p.tables e below S0 (T167.setTop (mkF m 243 l168 [(.long a), (.ref b147)])) := fun tt hq => k167 tt (by
          show Steps _ _ _ (T167.setTop (mkF m 217 l165 [(.int (0 : Int32))])) _
          refine XS.iload X167.here hx rfl (hb hby at_217) rfl ?_
          show Steps _ _ _ (T167.setTop (mkF m 219 l165 [(.int (0 : Int32)), (.int (0 : Int32))])) _
          refine XS.icmpNo X167.here hx rfl (hb hby at_219) rfl (teq (by decide)).2 ?_
          show Steps _ _ _ (T167.setTop (mkF m 222 l165 [])) _
          refine XS.iconst X167.here hx rfl (hb hby at_222) ?_
          show Steps _ _ _ (T167.setTop (mkF m 223 l165 [(.int (1 : Int32))])) _
          refine XS.goto X167.here hx rfl (pc0 := 223) (pc' := 227) rfl (hb hby at_223) (by decide) (by decide) ?_
          show Steps _ _ _ (T167.setTop (mkF m 227 l165 [(.int (1 : Int32))])) _
          refine XS.istore X167.here hx rfl (hb hby at_227) rfl (l' := l168) rfl ?_
          show Steps _ _ _ (T167.setTop (mkF m 229 l168 [])) _
          refine XS.iload X167.here hx rfl (hb hby at_229) rfl ?_
          show Steps _ _ _ (T167.setTop (mkF m 231 l168 [(.int (1 : Int32))])) _
          refine XS.ifNo X167.here hx rfl (hb hby at_231) rfl ((if0 _ _).trans (feq (by decide)).1) ?_
          show Steps _ _ _ (T167.setTop (mkF m 234 l168 [])) _
          refine XS.iload X167.here hx rfl (hb hby at_234) rfl ?_
          show Steps _ _ _ (T167.setTop (mkF m 236 l168 [(.int (1 : Int32))])) _
          refine XS.ifNo X167.here hx rfl (hb hby at_236) rfl ((if0 _ _).trans (feq (by decide)).1) ?_
          show Steps _ _ _ (T167.setTop (mkF m 239 l168 [])) _
          refine XS.aload X167.here hx rfl (hb hby at_239) rfl rfl ?_
          show Steps _ _ _ (T167.setTop (mkF m 241 l168 [(.ref b147)])) _
          refine XS.lload X167.here hx rfl (hb hby at_241) rfl ?_
          show Steps _ _ _ (T167.setTop (mkF m 243 l168 [(.long a), (.ref b147)])) _
          exact hq)
        obtain ⟨_, T170, L170, X170, ⟨rfl, Nq170, eq170⟩, k170a⟩ := callV' X167 hx hZ (y := (⟨"com/example/huntaway/huntaway/Precedence", "couldCount", "(J)Z"⟩ : MethodName)) (z := (⟨"com/example/huntaway/huntaway/Precedence", "couldCount", "(J)Z"⟩ : MethodName)) hown (hw _ (List.mem_of_getElem? (i := 39) rfl)) (hw _ (List.mem_of_getElem? (i := 40) rfl)) (notFace_of_selects (args := #[]) (mvT hZ (hw _ (List.mem_of_getElem? (i := 42) rfl)))) (hw _ (List.mem_of_getElem? (i := 42) rfl)) (hw _ (List.mem_of_getElem? (i := 41) rfl)) (by decide) A160 (backC (W := 0) (rm_could l Z a0 hw b147 a a (1 : Int32) h160 n0 (by omega) Fh160 (fun z => (Int64.lt_irrefl z).elim) (fun _ => rfl)) hZ (hw _ (List.mem_of_getElem? (i := 43) rfl)) (hw _ (List.mem_of_getElem? (i := 31) rfl)) (by decide) (by decide)) e167 (argsL := [(.long a)]) (rest := []) rfl rfl pd_14 rfl (by rw [hml]; rfl) (hb hby at_243) (Nat.le_of_eq rfl) (by decide) (by decide) k169
        have k170 : To p.tables e below S0 (T170.setTop (mkF m 246 l168 [(.int (1 : Int32))])) := k170a
        have N170 := N167.app Nq170
        have e170 : T170.heap = h160 := eq170
        have k171 : To p.tables e below S0 (T170.setTop (mkF m 262 l168 [(.int (lcmpW a (-9223372036854775808 : Int64)))])) := fun tt hq => k170 tt (by
          show Steps _ _ _ (T170.setTop (mkF m 246 l168 [(.int (1 : Int32))])) _
          refine XS.ifNo X170.here hx rfl (hb hby at_246) rfl ((if0 _ _).trans (feq (by decide)).1) ?_
          show Steps _ _ _ (T170.setTop (mkF m 249 l168 [])) _
          refine XS.iconst X170.here hx rfl (hb hby at_249) ?_
          show Steps _ _ _ (T170.setTop (mkF m 250 l168 [(.int (1 : Int32))])) _
          refine XS.goto X170.here hx rfl (pc0 := 250) (pc' := 254) rfl (hb hby at_250) (by decide) (by decide) ?_
          show Steps _ _ _ (T170.setTop (mkF m 254 l168 [(.int (1 : Int32))])) _
          refine XS.istore X170.here hx rfl (hb hby at_254) rfl (l' := l168) rfl ?_
          show Steps _ _ _ (T170.setTop (mkF m 256 l168 [])) _
          refine XS.lload X170.here hx rfl (hb hby at_256) rfl ?_
          show Steps _ _ _ (T170.setTop (mkF m 258 l168 [(.long a)])) _
          refine X170.ldc2Long hx hown (mvT hZ (hw _ (List.mem_of_getElem? (i := 59) rfl))) (g := (mkF m 258 l168 [(.long a)])) rfl (hb hby at_258) _ ?_
          show Steps _ _ _ (T170.setTop (mkF m 261 l168 [(.long (-9223372036854775808 : Int64)), (.long a)])) _
          refine XS.lcmp X170.here hx rfl (hb hby at_261) rfl ?_
          show Steps _ _ _ (T170.setTop (mkF m 262 l168 [(.int (lcmpW a (-9223372036854775808 : Int64)))])) _
          exact hq)
        by_cases hc262_172 : (lcmpW a (-9223372036854775808 : Int64)) = (0 : Int32)
        · -- pc 262, holds
          have k173 : To p.tables e below S0 (T170.setTop (mkF m 291 l168 [(.int (1 : Int32))])) := fun tt hq => k171 tt (by
            show Steps _ _ _ (T170.setTop (mkF m 262 l168 [(.int (lcmpW a (-9223372036854775808 : Int64)))])) _
            refine XS.ifYes X170.here hx rfl (pc0 := 262) (pc' := 289) rfl (hb hby at_262) rfl ((if0 _ _).trans (teq hc262_172).1) (by decide) (by decide) ?_
            show Steps _ _ _ (T170.setTop (mkF m 289 l168 [])) _
            refine XS.iload X170.here hx rfl (hb hby at_289) rfl ?_
            show Steps _ _ _ (T170.setTop (mkF m 291 l168 [(.int (1 : Int32))])) _
            exact hq)
          have hE := e170
          refine retInt X170 hx hret hlk (by simp) rfl (hb hby at_291) k173 ?_ (by decide) (by decide)
          try rw [hE]
          exact ⟨rfl, N170⟩
        · -- pc 262, holds not
          have k174 : To p.tables e below S0 (T170.setTop (mkF m 276 l168 [(.long (a - (1 : Int64))), (.ref b147)])) := fun tt hq => k171 tt (by
            show Steps _ _ _ (T170.setTop (mkF m 262 l168 [(.int (lcmpW a (-9223372036854775808 : Int64)))])) _
            refine XS.ifNo X170.here hx rfl (hb hby at_262) rfl ((if0 _ _).trans (feq hc262_172).1) ?_
            show Steps _ _ _ (T170.setTop (mkF m 265 l168 [])) _
            refine XS.iload X170.here hx rfl (hb hby at_265) rfl ?_
            show Steps _ _ _ (T170.setTop (mkF m 267 l168 [(.int (1 : Int32))])) _
            refine XS.ifNo X170.here hx rfl (hb hby at_267) rfl ((if0 _ _).trans (feq (by decide)).1) ?_
            show Steps _ _ _ (T170.setTop (mkF m 270 l168 [])) _
            refine XS.aload X170.here hx rfl (hb hby at_270) rfl rfl ?_
            show Steps _ _ _ (T170.setTop (mkF m 272 l168 [(.ref b147)])) _
            refine XS.lload X170.here hx rfl (hb hby at_272) rfl ?_
            show Steps _ _ _ (T170.setTop (mkF m 274 l168 [(.long a), (.ref b147)])) _
            refine XS.lconst X170.here hx rfl (hb hby at_274) ?_
            show Steps _ _ _ (T170.setTop (mkF m 275 l168 [(.long (1 : Int64)), (.long a), (.ref b147)])) _
            refine XS.lsub X170.here hx rfl (hb hby at_275) rfl ?_
            show Steps _ _ _ (T170.setTop (mkF m 276 l168 [(.long (a - (1 : Int64))), (.ref b147)])) _
            exact hq)
          obtain ⟨_, T175, L175, X175, ⟨rfl, Nq175, eq175⟩, k175a⟩ := callV' X170 hx hZ (y := (⟨"com/example/huntaway/huntaway/Precedence", "couldCount", "(J)Z"⟩ : MethodName)) (z := (⟨"com/example/huntaway/huntaway/Precedence", "couldCount", "(J)Z"⟩ : MethodName)) hown (hw _ (List.mem_of_getElem? (i := 39) rfl)) (hw _ (List.mem_of_getElem? (i := 40) rfl)) (notFace_of_selects (args := #[]) (mvT hZ (hw _ (List.mem_of_getElem? (i := 42) rfl)))) (hw _ (List.mem_of_getElem? (i := 42) rfl)) (hw _ (List.mem_of_getElem? (i := 41) rfl)) (by decide) A160 (backC (W := 0) (rm_could l Z a0 hw b147 a (a - (1 : Int64)) (0 : Int32) h160 n0 (by omega) Fh160 (fun _ => rfl) (fun z => absurd (own_pred hc262_172) z)) hZ (hw _ (List.mem_of_getElem? (i := 43) rfl)) (hw _ (List.mem_of_getElem? (i := 31) rfl)) (by decide) (by decide)) e170 (argsL := [(.long (a - (1 : Int64)))]) (rest := []) rfl rfl pd_14 rfl (by rw [hml]; rfl) (hb hby at_276) (Nat.le_of_eq rfl) (by decide) (by decide) k174
          have k175 : To p.tables e below S0 (T175.setTop (mkF m 279 l168 [(.int (0 : Int32))])) := k175a
          have N175 := N170.app Nq175
          have e175 : T175.heap = h160 := eq175
          have k176 : To p.tables e below S0 (T175.setTop (mkF m 291 l168 [(.int (1 : Int32))])) := fun tt hq => k175 tt (by
            show Steps _ _ _ (T175.setTop (mkF m 279 l168 [(.int (0 : Int32))])) _
            refine XS.ifNo X175.here hx rfl (hb hby at_279) rfl ((if0 _ _).trans (teq (by decide)).2) ?_
            show Steps _ _ _ (T175.setTop (mkF m 282 l168 [])) _
            refine XS.iconst X175.here hx rfl (hb hby at_282) ?_
            show Steps _ _ _ (T175.setTop (mkF m 283 l168 [(.int (1 : Int32))])) _
            refine XS.goto X175.here hx rfl (pc0 := 283) (pc' := 287) rfl (hb hby at_283) (by decide) (by decide) ?_
            show Steps _ _ _ (T175.setTop (mkF m 287 l168 [(.int (1 : Int32))])) _
            refine XS.istore X175.here hx rfl (hb hby at_287) rfl (l' := l168) rfl ?_
            show Steps _ _ _ (T175.setTop (mkF m 289 l168 [])) _
            refine XS.iload X175.here hx rfl (hb hby at_289) rfl ?_
            show Steps _ _ _ (T175.setTop (mkF m 291 l168 [(.int (1 : Int32))])) _
            exact hq)
          have hE := e175
          refine retInt X175 hx hret hlk (by simp) rfl (hb hby at_291) k176 ?_ (by decide) (by decide)
          try rw [hE]
          exact ⟨rfl, N175⟩
      · -- pc 195, holds not
        let l177 : Array Slot := #[.val (.long a), .second, .val (.long b), .second, .val (.long q), .second, .val (.int f), .val (.int (1 : Int32)), .val (.int (0 : Int32)), .val (.ref (if (f &&& (4 : Int32)) = (0 : Int32) then qP else qF)), .val (.ref (if (f &&& (8 : Int32)) = (0 : Int32) then qP else qF)), .val (.ref a140), .val (.ref a144), .val (.ref b147), .val (.int (1 : Int32)), .val (.int (1 : Int32)), .val (.long a), .second, .val (.int (1 : Int32)), .unset]
        have k178 : To p.tables e below S0 (T160.setTop (mkF m 214 l177 [(.long q), (.ref b147)])) := fun tt hq => k163 tt (by
          show Steps _ _ _ (T160.setTop (mkF m 195 l162 [(.int (lcmpW q a))])) _
          refine XS.ifNo X160.here hx rfl (hb hby at_195) rfl ((if0 _ _).trans (flt hc195_164).1) ?_
          show Steps _ _ _ (T160.setTop (mkF m 198 l162 [])) _
          refine XS.iconst X160.here hx rfl (hb hby at_198) ?_
          show Steps _ _ _ (T160.setTop (mkF m 199 l162 [(.int (1 : Int32))])) _
          refine XS.goto X160.here hx rfl (pc0 := 199) (pc' := 203) rfl (hb hby at_199) (by decide) (by decide) ?_
          show Steps _ _ _ (T160.setTop (mkF m 203 l162 [(.int (1 : Int32))])) _
          refine XS.istore X160.here hx rfl (hb hby at_203) rfl (l' := l177) rfl ?_
          show Steps _ _ _ (T160.setTop (mkF m 205 l177 [])) _
          refine XS.iload X160.here hx rfl (hb hby at_205) rfl ?_
          show Steps _ _ _ (T160.setTop (mkF m 207 l177 [(.int (1 : Int32))])) _
          refine XS.ifNo X160.here hx rfl (hb hby at_207) rfl ((if0 _ _).trans (feq (by decide)).1) ?_
          show Steps _ _ _ (T160.setTop (mkF m 210 l177 [])) _
          refine XS.aload X160.here hx rfl (hb hby at_210) rfl rfl ?_
          show Steps _ _ _ (T160.setTop (mkF m 212 l177 [(.ref b147)])) _
          refine XS.lload X160.here hx rfl (hb hby at_212) rfl ?_
          show Steps _ _ _ (T160.setTop (mkF m 214 l177 [(.long q), (.ref b147)])) _
          exact hq)
        obtain ⟨_, T179, L179, X179, ⟨rfl, Nq179, eq179⟩, k179a⟩ := callV' X160 hx hZ (y := (⟨"com/example/huntaway/huntaway/Precedence", "couldCount", "(J)Z"⟩ : MethodName)) (z := (⟨"com/example/huntaway/huntaway/Precedence", "couldCount", "(J)Z"⟩ : MethodName)) hown (hw _ (List.mem_of_getElem? (i := 39) rfl)) (hw _ (List.mem_of_getElem? (i := 40) rfl)) (notFace_of_selects (args := #[]) (mvT hZ (hw _ (List.mem_of_getElem? (i := 42) rfl)))) (hw _ (List.mem_of_getElem? (i := 42) rfl)) (hw _ (List.mem_of_getElem? (i := 41) rfl)) (by decide) A160 (backC (W := 0) (rm_could l Z a0 hw b147 a q (1 : Int32) h160 n0 (by omega) Fh160 (fun z => absurd ((lcW _ _) ▸ (lc_lt _ _).mpr z) hc195_164) (fun _ => rfl)) hZ (hw _ (List.mem_of_getElem? (i := 43) rfl)) (hw _ (List.mem_of_getElem? (i := 31) rfl)) (by decide) (by decide)) e160 (argsL := [(.long q)]) (rest := []) rfl rfl pd_14 rfl (by rw [hml]; rfl) (hb hby at_214) (Nat.le_of_eq rfl) (by decide) (by decide) k178
        have k179 : To p.tables e below S0 (T179.setTop (mkF m 217 l177 [(.int (1 : Int32))])) := k179a
        have N179 := N160.app Nq179
        have e179 : T179.heap = h160 := eq179
        let l180 : Array Slot := #[.val (.long a), .second, .val (.long b), .second, .val (.long q), .second, .val (.int f), .val (.int (1 : Int32)), .val (.int (0 : Int32)), .val (.ref (if (f &&& (4 : Int32)) = (0 : Int32) then qP else qF)), .val (.ref (if (f &&& (8 : Int32)) = (0 : Int32) then qP else qF)), .val (.ref a140), .val (.ref a144), .val (.ref b147), .val (.int (1 : Int32)), .val (.int (1 : Int32)), .val (.long a), .second, .val (.int (1 : Int32)), .val (.int (1 : Int32))]
        have k181 : To p.tables e below S0 (T179.setTop (mkF m 243 l180 [(.long a), (.ref b147)])) := fun tt hq => k179 tt (by
          show Steps _ _ _ (T179.setTop (mkF m 217 l177 [(.int (1 : Int32))])) _
          refine XS.iload X179.here hx rfl (hb hby at_217) rfl ?_
          show Steps _ _ _ (T179.setTop (mkF m 219 l177 [(.int (1 : Int32)), (.int (1 : Int32))])) _
          refine XS.icmpNo X179.here hx rfl (hb hby at_219) rfl (teq (by decide)).2 ?_
          show Steps _ _ _ (T179.setTop (mkF m 222 l177 [])) _
          refine XS.iconst X179.here hx rfl (hb hby at_222) ?_
          show Steps _ _ _ (T179.setTop (mkF m 223 l177 [(.int (1 : Int32))])) _
          refine XS.goto X179.here hx rfl (pc0 := 223) (pc' := 227) rfl (hb hby at_223) (by decide) (by decide) ?_
          show Steps _ _ _ (T179.setTop (mkF m 227 l177 [(.int (1 : Int32))])) _
          refine XS.istore X179.here hx rfl (hb hby at_227) rfl (l' := l180) rfl ?_
          show Steps _ _ _ (T179.setTop (mkF m 229 l180 [])) _
          refine XS.iload X179.here hx rfl (hb hby at_229) rfl ?_
          show Steps _ _ _ (T179.setTop (mkF m 231 l180 [(.int (1 : Int32))])) _
          refine XS.ifNo X179.here hx rfl (hb hby at_231) rfl ((if0 _ _).trans (feq (by decide)).1) ?_
          show Steps _ _ _ (T179.setTop (mkF m 234 l180 [])) _
          refine XS.iload X179.here hx rfl (hb hby at_234) rfl ?_
          show Steps _ _ _ (T179.setTop (mkF m 236 l180 [(.int (1 : Int32))])) _
          refine XS.ifNo X179.here hx rfl (hb hby at_236) rfl ((if0 _ _).trans (feq (by decide)).1) ?_
          show Steps _ _ _ (T179.setTop (mkF m 239 l180 [])) _
          refine XS.aload X179.here hx rfl (hb hby at_239) rfl rfl ?_
          show Steps _ _ _ (T179.setTop (mkF m 241 l180 [(.ref b147)])) _
          refine XS.lload X179.here hx rfl (hb hby at_241) rfl ?_
          show Steps _ _ _ (T179.setTop (mkF m 243 l180 [(.long a), (.ref b147)])) _
          exact hq)
        obtain ⟨_, T182, L182, X182, ⟨rfl, Nq182, eq182⟩, k182a⟩ := callV' X179 hx hZ (y := (⟨"com/example/huntaway/huntaway/Precedence", "couldCount", "(J)Z"⟩ : MethodName)) (z := (⟨"com/example/huntaway/huntaway/Precedence", "couldCount", "(J)Z"⟩ : MethodName)) hown (hw _ (List.mem_of_getElem? (i := 39) rfl)) (hw _ (List.mem_of_getElem? (i := 40) rfl)) (notFace_of_selects (args := #[]) (mvT hZ (hw _ (List.mem_of_getElem? (i := 42) rfl)))) (hw _ (List.mem_of_getElem? (i := 42) rfl)) (hw _ (List.mem_of_getElem? (i := 41) rfl)) (by decide) A160 (backC (W := 0) (rm_could l Z a0 hw b147 a a (1 : Int32) h160 n0 (by omega) Fh160 (fun z => (Int64.lt_irrefl z).elim) (fun _ => rfl)) hZ (hw _ (List.mem_of_getElem? (i := 43) rfl)) (hw _ (List.mem_of_getElem? (i := 31) rfl)) (by decide) (by decide)) e179 (argsL := [(.long a)]) (rest := []) rfl rfl pd_14 rfl (by rw [hml]; rfl) (hb hby at_243) (Nat.le_of_eq rfl) (by decide) (by decide) k181
        have k182 : To p.tables e below S0 (T182.setTop (mkF m 246 l180 [(.int (1 : Int32))])) := k182a
        have N182 := N179.app Nq182
        have e182 : T182.heap = h160 := eq182
        have k183 : To p.tables e below S0 (T182.setTop (mkF m 262 l180 [(.int (lcmpW a (-9223372036854775808 : Int64)))])) := fun tt hq => k182 tt (by
          show Steps _ _ _ (T182.setTop (mkF m 246 l180 [(.int (1 : Int32))])) _
          refine XS.ifNo X182.here hx rfl (hb hby at_246) rfl ((if0 _ _).trans (feq (by decide)).1) ?_
          show Steps _ _ _ (T182.setTop (mkF m 249 l180 [])) _
          refine XS.iconst X182.here hx rfl (hb hby at_249) ?_
          show Steps _ _ _ (T182.setTop (mkF m 250 l180 [(.int (1 : Int32))])) _
          refine XS.goto X182.here hx rfl (pc0 := 250) (pc' := 254) rfl (hb hby at_250) (by decide) (by decide) ?_
          show Steps _ _ _ (T182.setTop (mkF m 254 l180 [(.int (1 : Int32))])) _
          refine XS.istore X182.here hx rfl (hb hby at_254) rfl (l' := l180) rfl ?_
          show Steps _ _ _ (T182.setTop (mkF m 256 l180 [])) _
          refine XS.lload X182.here hx rfl (hb hby at_256) rfl ?_
          show Steps _ _ _ (T182.setTop (mkF m 258 l180 [(.long a)])) _
          refine X182.ldc2Long hx hown (mvT hZ (hw _ (List.mem_of_getElem? (i := 59) rfl))) (g := (mkF m 258 l180 [(.long a)])) rfl (hb hby at_258) _ ?_
          show Steps _ _ _ (T182.setTop (mkF m 261 l180 [(.long (-9223372036854775808 : Int64)), (.long a)])) _
          refine XS.lcmp X182.here hx rfl (hb hby at_261) rfl ?_
          show Steps _ _ _ (T182.setTop (mkF m 262 l180 [(.int (lcmpW a (-9223372036854775808 : Int64)))])) _
          exact hq)
        by_cases hc262_184 : (lcmpW a (-9223372036854775808 : Int64)) = (0 : Int32)
        · -- pc 262, holds
          have k185 : To p.tables e below S0 (T182.setTop (mkF m 291 l180 [(.int (1 : Int32))])) := fun tt hq => k183 tt (by
            show Steps _ _ _ (T182.setTop (mkF m 262 l180 [(.int (lcmpW a (-9223372036854775808 : Int64)))])) _
            refine XS.ifYes X182.here hx rfl (pc0 := 262) (pc' := 289) rfl (hb hby at_262) rfl ((if0 _ _).trans (teq hc262_184).1) (by decide) (by decide) ?_
            show Steps _ _ _ (T182.setTop (mkF m 289 l180 [])) _
            refine XS.iload X182.here hx rfl (hb hby at_289) rfl ?_
            show Steps _ _ _ (T182.setTop (mkF m 291 l180 [(.int (1 : Int32))])) _
            exact hq)
          have hE := e182
          refine retInt X182 hx hret hlk (by simp) rfl (hb hby at_291) k185 ?_ (by decide) (by decide)
          try rw [hE]
          exact ⟨rfl, N182⟩
        · -- pc 262, holds not
          have k186 : To p.tables e below S0 (T182.setTop (mkF m 276 l180 [(.long (a - (1 : Int64))), (.ref b147)])) := fun tt hq => k183 tt (by
            show Steps _ _ _ (T182.setTop (mkF m 262 l180 [(.int (lcmpW a (-9223372036854775808 : Int64)))])) _
            refine XS.ifNo X182.here hx rfl (hb hby at_262) rfl ((if0 _ _).trans (feq hc262_184).1) ?_
            show Steps _ _ _ (T182.setTop (mkF m 265 l180 [])) _
            refine XS.iload X182.here hx rfl (hb hby at_265) rfl ?_
            show Steps _ _ _ (T182.setTop (mkF m 267 l180 [(.int (1 : Int32))])) _
            refine XS.ifNo X182.here hx rfl (hb hby at_267) rfl ((if0 _ _).trans (feq (by decide)).1) ?_
            show Steps _ _ _ (T182.setTop (mkF m 270 l180 [])) _
            refine XS.aload X182.here hx rfl (hb hby at_270) rfl rfl ?_
            show Steps _ _ _ (T182.setTop (mkF m 272 l180 [(.ref b147)])) _
            refine XS.lload X182.here hx rfl (hb hby at_272) rfl ?_
            show Steps _ _ _ (T182.setTop (mkF m 274 l180 [(.long a), (.ref b147)])) _
            refine XS.lconst X182.here hx rfl (hb hby at_274) ?_
            show Steps _ _ _ (T182.setTop (mkF m 275 l180 [(.long (1 : Int64)), (.long a), (.ref b147)])) _
            refine XS.lsub X182.here hx rfl (hb hby at_275) rfl ?_
            show Steps _ _ _ (T182.setTop (mkF m 276 l180 [(.long (a - (1 : Int64))), (.ref b147)])) _
            exact hq)
          obtain ⟨_, T187, L187, X187, ⟨rfl, Nq187, eq187⟩, k187a⟩ := callV' X182 hx hZ (y := (⟨"com/example/huntaway/huntaway/Precedence", "couldCount", "(J)Z"⟩ : MethodName)) (z := (⟨"com/example/huntaway/huntaway/Precedence", "couldCount", "(J)Z"⟩ : MethodName)) hown (hw _ (List.mem_of_getElem? (i := 39) rfl)) (hw _ (List.mem_of_getElem? (i := 40) rfl)) (notFace_of_selects (args := #[]) (mvT hZ (hw _ (List.mem_of_getElem? (i := 42) rfl)))) (hw _ (List.mem_of_getElem? (i := 42) rfl)) (hw _ (List.mem_of_getElem? (i := 41) rfl)) (by decide) A160 (backC (W := 0) (rm_could l Z a0 hw b147 a (a - (1 : Int64)) (0 : Int32) h160 n0 (by omega) Fh160 (fun _ => rfl) (fun z => absurd (own_pred hc262_184) z)) hZ (hw _ (List.mem_of_getElem? (i := 43) rfl)) (hw _ (List.mem_of_getElem? (i := 31) rfl)) (by decide) (by decide)) e182 (argsL := [(.long (a - (1 : Int64)))]) (rest := []) rfl rfl pd_14 rfl (by rw [hml]; rfl) (hb hby at_276) (Nat.le_of_eq rfl) (by decide) (by decide) k186
          have k187 : To p.tables e below S0 (T187.setTop (mkF m 279 l180 [(.int (0 : Int32))])) := k187a
          have N187 := N182.app Nq187
          have e187 : T187.heap = h160 := eq187
          have k188 : To p.tables e below S0 (T187.setTop (mkF m 291 l180 [(.int (1 : Int32))])) := fun tt hq => k187 tt (by
            show Steps _ _ _ (T187.setTop (mkF m 279 l180 [(.int (0 : Int32))])) _
            refine XS.ifNo X187.here hx rfl (hb hby at_279) rfl ((if0 _ _).trans (teq (by decide)).2) ?_
            show Steps _ _ _ (T187.setTop (mkF m 282 l180 [])) _
            refine XS.iconst X187.here hx rfl (hb hby at_282) ?_
            show Steps _ _ _ (T187.setTop (mkF m 283 l180 [(.int (1 : Int32))])) _
            refine XS.goto X187.here hx rfl (pc0 := 283) (pc' := 287) rfl (hb hby at_283) (by decide) (by decide) ?_
            show Steps _ _ _ (T187.setTop (mkF m 287 l180 [(.int (1 : Int32))])) _
            refine XS.istore X187.here hx rfl (hb hby at_287) rfl (l' := l180) rfl ?_
            show Steps _ _ _ (T187.setTop (mkF m 289 l180 [])) _
            refine XS.iload X187.here hx rfl (hb hby at_289) rfl ?_
            show Steps _ _ _ (T187.setTop (mkF m 291 l180 [(.int (1 : Int32))])) _
            exact hq)
          have hE := e187
          refine retInt X187 hx hret hlk (by simp) rfl (hb hby at_291) k188 ?_ (by decide) (by decide)
          try rw [hE]
          exact ⟨rfl, N187⟩
    · -- pc 18, holds not
      let l189 : Array Slot := #[.val (.long a), .second, .val (.long b), .second, .val (.long q), .second, .val (.int f), .val (.int (1 : Int32)), .val (.int (1 : Int32)), .unset, .unset, .unset, .unset, .unset, .unset, .unset, .unset, .unset, .unset, .unset]
      have k190 : To p.tables e below S0 (s₁.setTop (mkF m 32 l189 [(.int (f &&& (4 : Int32)))])) := fun tt hq => k118 tt (by
        show Steps _ _ _ (s₁.setTop (mkF m 18 l117 [(.int (f &&& (2 : Int32)))])) _
        refine XS.ifNo X0.here hx rfl (hb hby at_18) rfl ((if0 _ _).trans (feq hc18_119).1) ?_
        show Steps _ _ _ (s₁.setTop (mkF m 21 l117 [])) _
        refine XS.iconst X0.here hx rfl (hb hby at_21) ?_
        show Steps _ _ _ (s₁.setTop (mkF m 22 l117 [(.int (1 : Int32))])) _
        refine XS.goto X0.here hx rfl (pc0 := 22) (pc' := 26) rfl (hb hby at_22) (by decide) (by decide) ?_
        show Steps _ _ _ (s₁.setTop (mkF m 26 l117 [(.int (1 : Int32))])) _
        refine XS.istore X0.here hx rfl (hb hby at_26) rfl (l' := l189) rfl ?_
        show Steps _ _ _ (s₁.setTop (mkF m 28 l189 [])) _
        refine XS.iload X0.here hx rfl (hb hby at_28) rfl ?_
        show Steps _ _ _ (s₁.setTop (mkF m 30 l189 [(.int f)])) _
        refine XS.iconst X0.here hx rfl (hb hby at_30) ?_
        show Steps _ _ _ (s₁.setTop (mkF m 31 l189 [(.int (4 : Int32)), (.int f)])) _
        refine XS.iand X0.here hx rfl (hb hby at_31) rfl ?_
        show Steps _ _ _ (s₁.setTop (mkF m 32 l189 [(.int (f &&& (4 : Int32)))])) _
        exact hq)
      refine joinT (S0 := S0) X0 e0 (mkF m 44 l189 [(.ref (if (f &&& (4 : Int32)) = (0 : Int32) then qP else qF))]) (fun kont => ?_) (fun T191 X191 e191 k191 => ?_)
      · -- the roads to pc 44
        by_cases hc32_192 : (f &&& (4 : Int32)) = (0 : Int32)
        · -- pc 32, holds
          have k193 : To p.tables e below S0 (s₁.setTop (mkF m 41 l189 [])) := fun tt hq => k190 tt (by
            show Steps _ _ _ (s₁.setTop (mkF m 32 l189 [(.int (f &&& (4 : Int32)))])) _
            refine XS.ifYes X0.here hx rfl (pc0 := 32) (pc' := 41) rfl (hb hby at_32) rfl ((if0 _ _).trans (teq hc32_192).1) (by decide) (by decide) ?_
            show Steps _ _ _ (s₁.setTop (mkF m 41 l189 [])) _
            exact hq)
          obtain ⟨T194, X194, e194, st194⟩ := getS2 X0 hx hZ hown (host := "") (Or.inl (hw _ (List.mem_of_getElem? (i := 0) rfl))) Via.refl e0 (staOld S_P O0) (g := (mkF m 41 l189 [])) rfl (hb hby at_41)
          have k194 : To p.tables e below S0 (T194.setTop (mkF m 44 l189 [(.ref qP)])) := fun tt hq => k193 tt (st194 tt hq)
          exact kont T194 X194 e194 (fun tt hq => k194 tt (by simpa only [if_pos hc32_192] using hq))
        · -- pc 32, holds not
          have k195 : To p.tables e below S0 (s₁.setTop (mkF m 35 l189 [])) := fun tt hq => k190 tt (by
            show Steps _ _ _ (s₁.setTop (mkF m 32 l189 [(.int (f &&& (4 : Int32)))])) _
            refine XS.ifNo X0.here hx rfl (hb hby at_32) rfl ((if0 _ _).trans (feq hc32_192).1) ?_
            show Steps _ _ _ (s₁.setTop (mkF m 35 l189 [])) _
            exact hq)
          obtain ⟨T196, X196, e196, st196⟩ := getS2 X0 hx hZ hown (host := "") (Or.inl (hw _ (List.mem_of_getElem? (i := 60) rfl))) Via.refl e0 (staOld S_F O0) (g := (mkF m 35 l189 [])) rfl (hb hby at_35)
          have k196 : To p.tables e below S0 (T196.setTop (mkF m 38 l189 [(.ref qF)])) := fun tt hq => k195 tt (st196 tt hq)
          have k197 : To p.tables e below S0 (T196.setTop (mkF m 44 l189 [(.ref qF)])) := fun tt hq => k196 tt (by
            show Steps _ _ _ (T196.setTop (mkF m 38 l189 [(.ref qF)])) _
            refine XS.goto X196.here hx rfl (pc0 := 38) (pc' := 44) rfl (hb hby at_38) (by decide) (by decide) ?_
            show Steps _ _ _ (T196.setTop (mkF m 44 l189 [(.ref qF)])) _
            exact hq)
          exact kont T196 X196 e196 (fun tt hq => k197 tt (by simpa only [if_neg hc32_192] using hq))
      let l198 : Array Slot := #[.val (.long a), .second, .val (.long b), .second, .val (.long q), .second, .val (.int f), .val (.int (1 : Int32)), .val (.int (1 : Int32)), .val (.ref (if (f &&& (4 : Int32)) = (0 : Int32) then qP else qF)), .unset, .unset, .unset, .unset, .unset, .unset, .unset, .unset, .unset, .unset]
      have k199 : To p.tables e below S0 (T191.setTop (mkF m 51 l198 [(.int (f &&& (8 : Int32)))])) := fun tt hq => k191 tt (by
        show Steps _ _ _ (T191.setTop (mkF m 44 l189 [(.ref (if (f &&& (4 : Int32)) = (0 : Int32) then qP else qF))])) _
        refine XS.astore X191.here hx rfl (hb hby at_44) rfl rfl (l' := l198) rfl ?_
        show Steps _ _ _ (T191.setTop (mkF m 46 l198 [])) _
        refine XS.iload X191.here hx rfl (hb hby at_46) rfl ?_
        show Steps _ _ _ (T191.setTop (mkF m 48 l198 [(.int f)])) _
        refine XS.bipush X191.here hx rfl (hb hby at_48) ?_
        show Steps _ _ _ (T191.setTop (mkF m 50 l198 [(.int (8 : Int32)), (.int f)])) _
        refine XS.iand X191.here hx rfl (hb hby at_50) rfl ?_
        show Steps _ _ _ (T191.setTop (mkF m 51 l198 [(.int (f &&& (8 : Int32)))])) _
        exact hq)
      refine joinT (S0 := S0) X191 e191 (mkF m 63 l198 [(.ref (if (f &&& (8 : Int32)) = (0 : Int32) then qP else qF))]) (fun kont => ?_) (fun T200 X200 e200 k200 => ?_)
      · -- the roads to pc 63
        by_cases hc51_201 : (f &&& (8 : Int32)) = (0 : Int32)
        · -- pc 51, holds
          have k202 : To p.tables e below S0 (T191.setTop (mkF m 60 l198 [])) := fun tt hq => k199 tt (by
            show Steps _ _ _ (T191.setTop (mkF m 51 l198 [(.int (f &&& (8 : Int32)))])) _
            refine XS.ifYes X191.here hx rfl (pc0 := 51) (pc' := 60) rfl (hb hby at_51) rfl ((if0 _ _).trans (teq hc51_201).1) (by decide) (by decide) ?_
            show Steps _ _ _ (T191.setTop (mkF m 60 l198 [])) _
            exact hq)
          obtain ⟨T203, X203, e203, st203⟩ := getS2 X191 hx hZ hown (host := "") (Or.inl (hw _ (List.mem_of_getElem? (i := 0) rfl))) Via.refl e191 (staOld S_P O0) (g := (mkF m 60 l198 [])) rfl (hb hby at_60)
          have k203 : To p.tables e below S0 (T203.setTop (mkF m 63 l198 [(.ref qP)])) := fun tt hq => k202 tt (st203 tt hq)
          exact kont T203 X203 e203 (fun tt hq => k203 tt (by simpa only [if_pos hc51_201] using hq))
        · -- pc 51, holds not
          have k204 : To p.tables e below S0 (T191.setTop (mkF m 54 l198 [])) := fun tt hq => k199 tt (by
            show Steps _ _ _ (T191.setTop (mkF m 51 l198 [(.int (f &&& (8 : Int32)))])) _
            refine XS.ifNo X191.here hx rfl (hb hby at_51) rfl ((if0 _ _).trans (feq hc51_201).1) ?_
            show Steps _ _ _ (T191.setTop (mkF m 54 l198 [])) _
            exact hq)
          obtain ⟨T205, X205, e205, st205⟩ := getS2 X191 hx hZ hown (host := "") (Or.inl (hw _ (List.mem_of_getElem? (i := 60) rfl))) Via.refl e191 (staOld S_F O0) (g := (mkF m 54 l198 [])) rfl (hb hby at_54)
          have k205 : To p.tables e below S0 (T205.setTop (mkF m 57 l198 [(.ref qF)])) := fun tt hq => k204 tt (st205 tt hq)
          have k206 : To p.tables e below S0 (T205.setTop (mkF m 63 l198 [(.ref qF)])) := fun tt hq => k205 tt (by
            show Steps _ _ _ (T205.setTop (mkF m 57 l198 [(.ref qF)])) _
            refine XS.goto X205.here hx rfl (pc0 := 57) (pc' := 63) rfl (hb hby at_57) (by decide) (by decide) ?_
            show Steps _ _ _ (T205.setTop (mkF m 63 l198 [(.ref qF)])) _
            exact hq)
          exact kont T205 X205 e205 (fun tt hq => k206 tt (by simpa only [if_neg hc51_201] using hq))
      let l207 : Array Slot := #[.val (.long a), .second, .val (.long b), .second, .val (.long q), .second, .val (.int f), .val (.int (1 : Int32)), .val (.int (1 : Int32)), .val (.ref (if (f &&& (4 : Int32)) = (0 : Int32) then qP else qF)), .val (.ref (if (f &&& (8 : Int32)) = (0 : Int32) then qP else qF)), .unset, .unset, .unset, .unset, .unset, .unset, .unset, .unset, .unset]
      have k208 : To p.tables e below S0 (T200.setTop (mkF m 75 l207 [(.int ((((f.toUInt32 >>> ((8 : Int32) &&& 31).toUInt32).toInt32) &&& (255 : Int32)).toUInt32.toUInt16.toUInt32.toInt32))])) := fun tt hq => k200 tt (by
        show Steps _ _ _ (T200.setTop (mkF m 63 l198 [(.ref (if (f &&& (8 : Int32)) = (0 : Int32) then qP else qF))])) _
        refine XS.astore X200.here hx rfl (hb hby at_63) rfl rfl (l' := l207) rfl ?_
        show Steps _ _ _ (T200.setTop (mkF m 65 l207 [])) _
        refine XS.iload X200.here hx rfl (hb hby at_65) rfl ?_
        show Steps _ _ _ (T200.setTop (mkF m 67 l207 [(.int f)])) _
        refine XS.bipush X200.here hx rfl (hb hby at_67) ?_
        show Steps _ _ _ (T200.setTop (mkF m 69 l207 [(.int (8 : Int32)), (.int f)])) _
        refine XS.iushr X200.here hx rfl (hb hby at_69) rfl ?_
        show Steps _ _ _ (T200.setTop (mkF m 70 l207 [(.int ((f.toUInt32 >>> ((8 : Int32) &&& 31).toUInt32).toInt32))])) _
        refine XS.sipush X200.here hx rfl (hb hby at_70) ?_
        show Steps _ _ _ (T200.setTop (mkF m 73 l207 [(.int (255 : Int32)), (.int ((f.toUInt32 >>> ((8 : Int32) &&& 31).toUInt32).toInt32))])) _
        refine XS.iand X200.here hx rfl (hb hby at_73) rfl ?_
        show Steps _ _ _ (T200.setTop (mkF m 74 l207 [(.int (((f.toUInt32 >>> ((8 : Int32) &&& 31).toUInt32).toInt32) &&& (255 : Int32)))])) _
        refine XS.i2c X200.here hx rfl (hb hby at_74) rfl ?_
        show Steps _ _ _ (T200.setTop (mkF m 75 l207 [(.int ((((f.toUInt32 >>> ((8 : Int32) &&& 31).toUInt32).toInt32) &&& (255 : Int32)).toUInt32.toUInt16.toUInt32.toInt32))])) _
        exact hq)
      obtain ⟨_, T209, L209, X209, ⟨a209, t209, k209x, rfl, Nq209, ga209, gt209, Kq209, P2090, P2091, P2092, P2093⟩, k209a⟩ := callS' X200 hx hZ (y := (⟨"java/lang/String", "valueOf", "(C)Ljava/lang/String;"⟩ : MethodName)) hown (hw _ (List.mem_of_getElem? (i := 3) rfl)) (hw _ (List.mem_of_getElem? (i := 4) rfl)) (hw _ (List.mem_of_getElem? (i := 5) rfl)) (hw _ (List.mem_of_getElem? (i := 6) rfl)) (by decide) (backC (W := 0) (rm_vof l Z a0 hw zc ((((f.toUInt32 >>> ((8 : Int32) &&& 31).toUInt32).toInt32) &&& (255 : Int32)).toUInt32.toUInt16.toUInt32.toInt32) h0 n0 (by omega) S_c hzc O0 (own_le255 _)) hZ (hw _ (List.mem_of_getElem? (i := 6) rfl)) (hw _ (List.mem_of_getElem? (i := 5) rfl)) (by decide) (by decide)) e200 (argsL := [(.int ((((f.toUInt32 >>> ((8 : Int32) &&& 31).toUInt32).toInt32) &&& (255 : Int32)).toUInt32.toUInt16.toUInt32.toInt32))]) (rest := []) rfl rfl pd_12 rfl (by rw [hml]; rfl) (hb hby at_75) (Nat.le_of_eq rfl) (by decide) (by decide) k208
      have k209 : To p.tables e below S0 (T209.setTop (mkF m 78 l207 [(.ref a209)])) := k209a
      have N209 := N0.app Nq209
      obtain ⟨h209, e209⟩ : ∃ z, T209.heap = z := ⟨_, rfl⟩
      rw [e209] at Kq209 P2090 P2091 P2092 P2093
      have z209 : h0.size ≤ h209.size := Kq209.1
      have ya209 : @LT.lt Nat instLTNat a209 h209.size := P2090.lt
      have yt209 : @LT.lt Nat instLTNat t209 h209.size := P2093.lt
      let l210 : Array Slot := #[.val (.long a), .second, .val (.long b), .second, .val (.long q), .second, .val (.int f), .val (.int (1 : Int32)), .val (.int (1 : Int32)), .val (.ref (if (f &&& (4 : Int32)) = (0 : Int32) then qP else qF)), .val (.ref (if (f &&& (8 : Int32)) = (0 : Int32) then qP else qF)), .val (.ref a209), .unset, .unset, .unset, .unset, .unset, .unset, .unset, .unset]
      have k211 : To p.tables e below S0 (T209.setTop (mkF m 90 l210 [(.int ((((f.toUInt32 >>> ((16 : Int32) &&& 31).toUInt32).toInt32) &&& (255 : Int32)).toUInt32.toUInt16.toUInt32.toInt32))])) := fun tt hq => k209 tt (by
        show Steps _ _ _ (T209.setTop (mkF m 78 l207 [(.ref a209)])) _
        refine XS.astore X209.here hx rfl (hb hby at_78) rfl rfl (l' := l210) rfl ?_
        show Steps _ _ _ (T209.setTop (mkF m 80 l210 [])) _
        refine XS.iload X209.here hx rfl (hb hby at_80) rfl ?_
        show Steps _ _ _ (T209.setTop (mkF m 82 l210 [(.int f)])) _
        refine XS.bipush X209.here hx rfl (hb hby at_82) ?_
        show Steps _ _ _ (T209.setTop (mkF m 84 l210 [(.int (16 : Int32)), (.int f)])) _
        refine XS.iushr X209.here hx rfl (hb hby at_84) rfl ?_
        show Steps _ _ _ (T209.setTop (mkF m 85 l210 [(.int ((f.toUInt32 >>> ((16 : Int32) &&& 31).toUInt32).toInt32))])) _
        refine XS.sipush X209.here hx rfl (hb hby at_85) ?_
        show Steps _ _ _ (T209.setTop (mkF m 88 l210 [(.int (255 : Int32)), (.int ((f.toUInt32 >>> ((16 : Int32) &&& 31).toUInt32).toInt32))])) _
        refine XS.iand X209.here hx rfl (hb hby at_88) rfl ?_
        show Steps _ _ _ (T209.setTop (mkF m 89 l210 [(.int (((f.toUInt32 >>> ((16 : Int32) &&& 31).toUInt32).toInt32) &&& (255 : Int32)))])) _
        refine XS.i2c X209.here hx rfl (hb hby at_89) rfl ?_
        show Steps _ _ _ (T209.setTop (mkF m 90 l210 [(.int ((((f.toUInt32 >>> ((16 : Int32) &&& 31).toUInt32).toInt32) &&& (255 : Int32)).toUInt32.toUInt16.toUInt32.toInt32))])) _
        exact hq)
      have f212 : Old Z n0 h209 := (O0.keep Kq209 all0)
      obtain ⟨_, T213, L213, X213, ⟨a213, t213, k213x, rfl, Nq213, ga213, gt213, Kq213, P2130, P2131, P2132, P2133⟩, k213a⟩ := callS' X209 hx hZ (y := (⟨"java/lang/String", "valueOf", "(C)Ljava/lang/String;"⟩ : MethodName)) hown (hw _ (List.mem_of_getElem? (i := 3) rfl)) (hw _ (List.mem_of_getElem? (i := 4) rfl)) (hw _ (List.mem_of_getElem? (i := 5) rfl)) (hw _ (List.mem_of_getElem? (i := 6) rfl)) (by decide) (backC (W := 0) (rm_vof l Z a0 hw zc ((((f.toUInt32 >>> ((16 : Int32) &&& 31).toUInt32).toInt32) &&& (255 : Int32)).toUInt32.toUInt16.toUInt32.toInt32) h209 n0 (by omega) S_c hzc f212 (own_le255 _)) hZ (hw _ (List.mem_of_getElem? (i := 6) rfl)) (hw _ (List.mem_of_getElem? (i := 5) rfl)) (by decide) (by decide)) e209 (argsL := [(.int ((((f.toUInt32 >>> ((16 : Int32) &&& 31).toUInt32).toInt32) &&& (255 : Int32)).toUInt32.toUInt16.toUInt32.toInt32))]) (rest := []) rfl rfl pd_12 rfl (by rw [hml]; rfl) (hb hby at_90) (Nat.le_of_eq rfl) (by decide) (by decide) k211
      have k213 : To p.tables e below S0 (T213.setTop (mkF m 93 l210 [(.ref a213)])) := k213a
      have N213 := N209.app Nq213
      obtain ⟨h213, e213⟩ : ∃ z, T213.heap = z := ⟨_, rfl⟩
      rw [e213] at Kq213 P2130 P2131 P2132 P2133
      have z213 : h209.size ≤ h213.size := Kq213.1
      have ya213 : @LT.lt Nat instLTNat a213 h213.size := P2130.lt
      have yt213 : @LT.lt Nat instLTNat t213 h213.size := P2133.lt
      let l214 : Array Slot := #[.val (.long a), .second, .val (.long b), .second, .val (.long q), .second, .val (.int f), .val (.int (1 : Int32)), .val (.int (1 : Int32)), .val (.ref (if (f &&& (4 : Int32)) = (0 : Int32) then qP else qF)), .val (.ref (if (f &&& (8 : Int32)) = (0 : Int32) then qP else qF)), .val (.ref a209), .val (.ref a213), .unset, .unset, .unset, .unset, .unset, .unset, .unset]
      have k215 : To p.tables e below S0 (T213.setTop (mkF m 95 l214 [])) := fun tt hq => k213 tt (by
        show Steps _ _ _ (T213.setTop (mkF m 93 l210 [(.ref a213)])) _
        refine XS.astore X213.here hx rfl (hb hby at_93) rfl rfl (l' := l214) rfl ?_
        show Steps _ _ _ (T213.setTop (mkF m 95 l214 [])) _
        exact hq)
      obtain ⟨T216, h216, X216, e216, E216, A216, D216, -, st216⟩ := newO X213 hx hZ hown (hw _ (List.mem_of_getElem? (i := 29) rfl)) (hw _ (List.mem_of_getElem? (i := 30) rfl)) (hw _ (List.mem_of_getElem? (i := 31) rfl)) e213 (g := (mkF m 95 l214 [])) rfl (hb hby at_95) (by decide) (by decide)
      obtain ⟨b216, g216⟩ : ∃ z, z = h213.size := ⟨_, rfl⟩
      rw [← g216] at A216 D216 st216
      have k216 : To p.tables e below S0 (T216.setTop (mkF m 98 l214 [(.ref b216)])) := fun tt hq => k215 tt (st216 tt hq)
      have z216 : h213.size ≤ h216.size := E216.1
      have y216 : @LT.lt Nat instLTNat b216 h216.size := A216.lt
      have F216_highest : Fld Z h216 b216 "com/example/huntaway/huntaway/Precedence" "highest" "J" (.long (0 : Int64)) := D216 (Or.inl (hw _ (List.mem_of_getElem? (i := 38) rfl))) (ty := .long) (by decide)
      have F216_permitting : Fld Z h216 b216 "com/example/huntaway/huntaway/Precedence" "permitting" "Ljava/lang/String;" .null := D216 (Or.inl (hw _ (List.mem_of_getElem? (i := 50) rfl))) (ty := (.object "java/lang/String")) (by decide)
      have F216_forbidding : Fld Z h216 b216 "com/example/huntaway/huntaway/Precedence" "forbidding" "Ljava/lang/String;" .null := D216 (Or.inl (hw _ (List.mem_of_getElem? (i := 52) rfl))) (ty := (.object "java/lang/String")) (by decide)
      have k217 : To p.tables e below S0 (T216.setTop (mkF m 99 l214 [(.ref b216), (.ref b216)])) := fun tt hq => k216 tt (by
        show Steps _ _ _ (T216.setTop (mkF m 98 l214 [(.ref b216)])) _
        refine XS.dup X216.here hx rfl (hb hby at_98) rfl rfl ?_
        show Steps _ _ _ (T216.setTop (mkF m 99 l214 [(.ref b216), (.ref b216)])) _
        exact hq)
      obtain ⟨_, T218, L218, X218, ⟨rfl, Nq218, Kq218, P2180, P2181, P2182, P2183⟩, k218a⟩ := callC' X216 hx hZ (y := (⟨"com/example/huntaway/huntaway/Precedence", "<init>", "()V"⟩ : MethodName)) rfl hown (hw _ (List.mem_of_getElem? (i := 32) rfl)) (hw _ (List.mem_of_getElem? (i := 33) rfl)) (hw _ (List.mem_of_getElem? (i := 34) rfl)) (by decide) (backC (W := 1) (rm_pinit l Z a0 hw b216 h216 n0 (by omega) A216 F216_highest F216_permitting F216_forbidding (by omega)) hZ (hw _ (List.mem_of_getElem? (i := 34) rfl)) (hw _ (List.mem_of_getElem? (i := 31) rfl)) (by decide) (by decide)) e216 (argsL := []) (rest := [(.ref b216)]) rfl rfl pd_13 rfl (by rw [hml]; rfl) (hb hby at_99) (Nat.le_of_eq rfl) (by decide) (by decide) k217
      have k218 : To p.tables e below S0 (T218.setTop (mkF m 102 l214 [(.ref b216)])) := k218a
      have N218 := N213.app Nq218
      obtain ⟨h218, e218⟩ : ∃ z, T218.heap = z := ⟨_, rfl⟩
      rw [e218] at Kq218 P2180 P2181 P2182 P2183
      have z218 : h216.size ≤ h218.size := Kq218.1
      let l219 : Array Slot := #[.val (.long a), .second, .val (.long b), .second, .val (.long q), .second, .val (.int f), .val (.int (1 : Int32)), .val (.int (1 : Int32)), .val (.ref (if (f &&& (4 : Int32)) = (0 : Int32) then qP else qF)), .val (.ref (if (f &&& (8 : Int32)) = (0 : Int32) then qP else qF)), .val (.ref a209), .val (.ref a213), .val (.ref b216), .unset, .unset, .unset, .unset, .unset, .unset]
      have k220 : To p.tables e below S0 (T218.setTop (mkF m 108 l219 [(.long q), (.ref b216)])) := fun tt hq => k218 tt (by
        show Steps _ _ _ (T218.setTop (mkF m 102 l214 [(.ref b216)])) _
        refine XS.astore X218.here hx rfl (hb hby at_102) rfl rfl (l' := l219) rfl ?_
        show Steps _ _ _ (T218.setTop (mkF m 104 l219 [])) _
        refine XS.aload X218.here hx rfl (hb hby at_104) rfl rfl ?_
        show Steps _ _ _ (T218.setTop (mkF m 106 l219 [(.ref b216)])) _
        refine XS.lload X218.here hx rfl (hb hby at_106) rfl ?_
        show Steps _ _ _ (T218.setTop (mkF m 108 l219 [(.long q), (.ref b216)])) _
        exact hq)
      obtain ⟨_, T221, L221, X221, ⟨rfl, Nq221, eq221⟩, k221a⟩ := callV' X218 hx hZ (y := (⟨"com/example/huntaway/huntaway/Precedence", "couldCount", "(J)Z"⟩ : MethodName)) (z := (⟨"com/example/huntaway/huntaway/Precedence", "couldCount", "(J)Z"⟩ : MethodName)) hown (hw _ (List.mem_of_getElem? (i := 39) rfl)) (hw _ (List.mem_of_getElem? (i := 40) rfl)) (notFace_of_selects (args := #[]) (mvT hZ (hw _ (List.mem_of_getElem? (i := 42) rfl)))) (hw _ (List.mem_of_getElem? (i := 42) rfl)) (hw _ (List.mem_of_getElem? (i := 41) rfl)) (by decide) P2180 (backC (W := 0) (rm_could l Z a0 hw b216 (-9223372036854775808 : Int64) q (1 : Int32) h218 n0 (by omega) P2181 (fun z => absurd z (own_min64 _)) (fun _ => rfl)) hZ (hw _ (List.mem_of_getElem? (i := 43) rfl)) (hw _ (List.mem_of_getElem? (i := 31) rfl)) (by decide) (by decide)) e218 (argsL := [(.long q)]) (rest := []) rfl rfl pd_14 rfl (by rw [hml]; rfl) (hb hby at_108) (Nat.le_of_eq rfl) (by decide) (by decide) k220
      have k221 : To p.tables e below S0 (T221.setTop (mkF m 111 l219 [(.int (1 : Int32))])) := k221a
      have N221 := N218.app Nq221
      have e221 : T221.heap = h218 := eq221
      let l222 : Array Slot := #[.val (.long a), .second, .val (.long b), .second, .val (.long q), .second, .val (.int f), .val (.int (1 : Int32)), .val (.int (1 : Int32)), .val (.ref (if (f &&& (4 : Int32)) = (0 : Int32) then qP else qF)), .val (.ref (if (f &&& (8 : Int32)) = (0 : Int32) then qP else qF)), .val (.ref a209), .val (.ref a213), .val (.ref b216), .val (.int (1 : Int32)), .unset, .unset, .unset, .unset, .unset]
      have k223 : To p.tables e below S0 (T221.setTop (mkF m 125 l222 [(.ref a209), (.long a), (.ref (if (f &&& (4 : Int32)) = (0 : Int32) then qP else qF)), (.ref b216)])) := fun tt hq => k221 tt (by
        show Steps _ _ _ (T221.setTop (mkF m 111 l219 [(.int (1 : Int32))])) _
        refine XS.istore X221.here hx rfl (hb hby at_111) rfl (l' := l222) rfl ?_
        show Steps _ _ _ (T221.setTop (mkF m 113 l222 [])) _
        refine XS.iload X221.here hx rfl (hb hby at_113) rfl ?_
        show Steps _ _ _ (T221.setTop (mkF m 115 l222 [(.int (1 : Int32))])) _
        refine XS.ifNo X221.here hx rfl (hb hby at_115) rfl ((if0 _ _).trans (feq (by decide)).1) ?_
        show Steps _ _ _ (T221.setTop (mkF m 118 l222 [])) _
        refine XS.aload X221.here hx rfl (hb hby at_118) rfl rfl ?_
        show Steps _ _ _ (T221.setTop (mkF m 120 l222 [(.ref b216)])) _
        refine XS.aload X221.here hx rfl (hb hby at_120) rfl rfl ?_
        show Steps _ _ _ (T221.setTop (mkF m 122 l222 [(.ref (if (f &&& (4 : Int32)) = (0 : Int32) then qP else qF)), (.ref b216)])) _
        refine XS.lloadN X221.here hx rfl (hb hby at_122) rfl ?_
        show Steps _ _ _ (T221.setTop (mkF m 123 l222 [(.long a), (.ref (if (f &&& (4 : Int32)) = (0 : Int32) then qP else qF)), (.ref b216)])) _
        refine XS.aload X221.here hx rfl (hb hby at_123) rfl rfl ?_
        show Steps _ _ _ (T221.setTop (mkF m 125 l222 [(.ref a209), (.long a), (.ref (if (f &&& (4 : Int32)) = (0 : Int32) then qP else qF)), (.ref b216)])) _
        exact hq)
      have f224 : Exa Z h218 a209 "java/lang/String" := (((P2090.keep Kq213).ext E216).keep Kq218)
      have f225 : Fld Z h218 a209 "java/lang/String" "value" "[B" (.ref t209) := (((P2091.keep Kq213 nin0).ext E216).keep Kq218 (ninS (adr_ne (by omega)) nin0))
      have f226 : Fld Z h218 a209 "java/lang/String" "coder" "B" (.int (0 : Int32)) := (((P2092.keep Kq213 nin0).ext E216).keep Kq218 (ninS (adr_ne (by omega)) nin0))
      have f227 : Arv Z h218 t209 k209x .byte (1 : Int32) [(.int (nar .byte (((((f.toUInt32 >>> ((8 : Int32) &&& 31).toUInt32).toInt32) &&& (255 : Int32)).toUInt32.toUInt16.toUInt32.toInt32).toInt8.toInt32)))] (.int 0) := (((P2093.keep Kq213 nin0).ext E216).keep Kq218 (ninS (adr_ne (by omega)) nin0))
      have f228 : Old Z n0 h218 := (((f212.keep Kq213 all0).ext E216).keep Kq218 (allS (by omega) all0))
      obtain ⟨_, T229, L229, X229, ⟨rfl, Nq229, Kq229, A229, u229, v229x, Fh229, Fp229, Ff229, hu229, hv229, nn229, cs229⟩, k229a⟩ := callV' X221 hx hZ (y := (⟨"com/example/huntaway/huntaway/Precedence", "offer", "(Lcom/example/huntaway/huntaway/Effect;JLjava/lang/String;)V"⟩ : MethodName)) (z := (⟨"com/example/huntaway/huntaway/Precedence", "offer", "(Lcom/example/huntaway/huntaway/Effect;JLjava/lang/String;)V"⟩ : MethodName)) hown (hw _ (List.mem_of_getElem? (i := 44) rfl)) (hw _ (List.mem_of_getElem? (i := 45) rfl)) (notFace_of_selects (args := #[]) (mvT hZ (hw _ (List.mem_of_getElem? (i := 47) rfl)))) (hw _ (List.mem_of_getElem? (i := 47) rfl)) (hw _ (List.mem_of_getElem? (i := 46) rfl)) (by decide) P2180 (backC (W := 0) (rm_offNN l Z a0 hw zc fm qF qP qI b216 (if (f &&& (4 : Int32)) = (0 : Int32) then qP else qF) a  a209 t209 k209x (nar .byte (((((f.toUInt32 >>> ((8 : Int32) &&& 31).toUInt32).toInt32) &&& (255 : Int32)).toUInt32.toUInt16.toUInt32.toInt32).toInt8.toInt32))  h218 n0 (by omega) S_c hzc S_f hfm S_F S_P S_I A_I f228 P2180 P2181 P2182 P2183 f224 f225 f226 f227  (adr_ne (by omega)) (adr_ne (by omega)) (by omega)) hZ (hw _ (List.mem_of_getElem? (i := 48) rfl)) (hw _ (List.mem_of_getElem? (i := 31) rfl)) (by decide) (by decide)) e221 (argsL := [(.ref (if (f &&& (4 : Int32)) = (0 : Int32) then qP else qF)), (.long a), (.ref a209)]) (rest := []) rfl rfl pd_15 rfl (by rw [hml]; rfl) (hb hby at_125) (Nat.le_of_eq rfl) (by decide) (by decide) k223
      have k229 : To p.tables e below S0 (T229.setTop (mkF m 128 l222 [])) := k229a
      have N229 := N221.app Nq229
      obtain ⟨h229, e229⟩ : ∃ z, T229.heap = z := ⟨_, rfl⟩
      rw [e229] at Kq229 A229 Fh229 Fp229 Ff229
      have z229 : h218.size ≤ h229.size := Kq229.1
      have k230 : To p.tables e below S0 (T229.setTop (mkF m 140 l222 [(.ref a213), (.long b), (.ref (if (f &&& (8 : Int32)) = (0 : Int32) then qP else qF)), (.ref b216)])) := fun tt hq => k229 tt (by
        show Steps _ _ _ (T229.setTop (mkF m 128 l222 [])) _
        refine XS.iload X229.here hx rfl (hb hby at_128) rfl ?_
        show Steps _ _ _ (T229.setTop (mkF m 130 l222 [(.int (1 : Int32))])) _
        refine XS.ifNo X229.here hx rfl (hb hby at_130) rfl ((if0 _ _).trans (feq (by decide)).1) ?_
        show Steps _ _ _ (T229.setTop (mkF m 133 l222 [])) _
        refine XS.aload X229.here hx rfl (hb hby at_133) rfl rfl ?_
        show Steps _ _ _ (T229.setTop (mkF m 135 l222 [(.ref b216)])) _
        refine XS.aload X229.here hx rfl (hb hby at_135) rfl rfl ?_
        show Steps _ _ _ (T229.setTop (mkF m 137 l222 [(.ref (if (f &&& (8 : Int32)) = (0 : Int32) then qP else qF)), (.ref b216)])) _
        refine XS.lloadN X229.here hx rfl (hb hby at_137) rfl ?_
        show Steps _ _ _ (T229.setTop (mkF m 138 l222 [(.long b), (.ref (if (f &&& (8 : Int32)) = (0 : Int32) then qP else qF)), (.ref b216)])) _
        refine XS.aload X229.here hx rfl (hb hby at_138) rfl rfl ?_
        show Steps _ _ _ (T229.setTop (mkF m 140 l222 [(.ref a213), (.long b), (.ref (if (f &&& (8 : Int32)) = (0 : Int32) then qP else qF)), (.ref b216)])) _
        exact hq)
      have f231 : Exa Z h229 a213 "java/lang/String" := (((P2130.ext E216).keep Kq218).keep Kq229)
      have f232 : Fld Z h229 a213 "java/lang/String" "value" "[B" (.ref t213) := (((P2131.ext E216).keep Kq218 (ninS (adr_ne (by omega)) nin0)).keep Kq229 (ninS (adr_ne (by omega)) nin0))
      have f233 : Fld Z h229 a213 "java/lang/String" "coder" "B" (.int (0 : Int32)) := (((P2132.ext E216).keep Kq218 (ninS (adr_ne (by omega)) nin0)).keep Kq229 (ninS (adr_ne (by omega)) nin0))
      have f234 : Arv Z h229 t213 k213x .byte (1 : Int32) [(.int (nar .byte (((((f.toUInt32 >>> ((16 : Int32) &&& 31).toUInt32).toInt32) &&& (255 : Int32)).toUInt32.toUInt16.toUInt32.toInt32).toInt8.toInt32)))] (.int 0) := (((P2133.ext E216).keep Kq218 (ninS (adr_ne (by omega)) nin0)).keep Kq229 (ninS (adr_ne (by omega)) nin0))
      have f235 : Exa Z h229 a209 "java/lang/String" := (f224.keep Kq229)
      have f236 : Fld Z h229 a209 "java/lang/String" "value" "[B" (.ref t209) := (f225.keep Kq229 (ninS (adr_ne (by omega)) nin0))
      have f237 : Fld Z h229 a209 "java/lang/String" "coder" "B" (.int (0 : Int32)) := (f226.keep Kq229 (ninS (adr_ne (by omega)) nin0))
      have f238 : Arv Z h229 t209 k209x .byte (1 : Int32) [(.int (nar .byte (((((f.toUInt32 >>> ((8 : Int32) &&& 31).toUInt32).toInt32) &&& (255 : Int32)).toUInt32.toUInt16.toUInt32.toInt32).toInt8.toInt32)))] (.int 0) := (f227.keep Kq229 (ninS (adr_ne (by omega)) nin0))
      have f239 : Old Z n0 h229 := (f228.keep Kq229 (allS (by omega) all0))
      obtain ⟨_, T240, L240, X240, ⟨rfl, Nq240, Kq240, A240, u240, v240x, Fh240, Fp240, Ff240, hu240, hv240, nn240⟩, k240a⟩ := callV' X229 hx hZ (y := (⟨"com/example/huntaway/huntaway/Precedence", "offer", "(Lcom/example/huntaway/huntaway/Effect;JLjava/lang/String;)V"⟩ : MethodName)) (z := (⟨"com/example/huntaway/huntaway/Precedence", "offer", "(Lcom/example/huntaway/huntaway/Effect;JLjava/lang/String;)V"⟩ : MethodName)) hown (hw _ (List.mem_of_getElem? (i := 44) rfl)) (hw _ (List.mem_of_getElem? (i := 45) rfl)) (notFace_of_selects (args := #[]) (mvT hZ (hw _ (List.mem_of_getElem? (i := 47) rfl)))) (hw _ (List.mem_of_getElem? (i := 47) rfl)) (hw _ (List.mem_of_getElem? (i := 46) rfl)) (by decide) A229 (backC (W := 0) (rm_off2 l Z a0 hw zc fm qF qP qI b216 (if (f &&& (8 : Int32)) = (0 : Int32) then qP else qF) b a a213 t213 k213x (nar .byte (((((f.toUInt32 >>> ((16 : Int32) &&& 31).toUInt32).toInt32) &&& (255 : Int32)).toUInt32.toUInt16.toUInt32.toInt32).toInt8.toInt32)) a209 t209 k209x (nar .byte (((((f.toUInt32 >>> ((8 : Int32) &&& 31).toUInt32).toInt32) &&& (255 : Int32)).toUInt32.toUInt16.toUInt32.toInt32).toInt8.toInt32)) u229 v229x h229 n0 (by omega) S_c hzc S_f hfm S_F S_P S_I A_I f239 A229 Fh229 Fp229 Ff229 f231 f232 f233 f234 f235 f236 f237 f238 (adr_ne (by omega)) (adr_ne (by omega)) (adr_ne (by omega)) (adr_ne (by omega)) (by omega) (cs229.imp (fun z => z.2) (fun z => z.2))) hZ (hw _ (List.mem_of_getElem? (i := 48) rfl)) (hw _ (List.mem_of_getElem? (i := 31) rfl)) (by decide) (by decide)) e229 (argsL := [(.ref (if (f &&& (8 : Int32)) = (0 : Int32) then qP else qF)), (.long b), (.ref a213)]) (rest := []) rfl rfl pd_15 rfl (by rw [hml]; rfl) (hb hby at_140) (Nat.le_of_eq rfl) (by decide) (by decide) k230
      have k240 : To p.tables e below S0 (T240.setTop (mkF m 143 l222 [])) := k240a
      have N240 := N229.app Nq240
      obtain ⟨h240, e240⟩ : ∃ z, T240.heap = z := ⟨_, rfl⟩
      rw [e240] at Kq240 A240 Fh240 Fp240 Ff240
      have z240 : h229.size ≤ h240.size := Kq240.1
      let l241 : Array Slot := #[.val (.long a), .second, .val (.long b), .second, .val (.long q), .second, .val (.int f), .val (.int (1 : Int32)), .val (.int (1 : Int32)), .val (.ref (if (f &&& (4 : Int32)) = (0 : Int32) then qP else qF)), .val (.ref (if (f &&& (8 : Int32)) = (0 : Int32) then qP else qF)), .val (.ref a209), .val (.ref a213), .val (.ref b216), .val (.int (1 : Int32)), .val (.int (1 : Int32)), .unset, .unset, .unset, .unset]
      have k242 : To p.tables e below S0 (T240.setTop (mkF m 172 l241 [(.long b), (.long a)])) := fun tt hq => k240 tt (by
        show Steps _ _ _ (T240.setTop (mkF m 143 l222 [])) _
        refine XS.iload X240.here hx rfl (hb hby at_143) rfl ?_
        show Steps _ _ _ (T240.setTop (mkF m 145 l222 [(.int (1 : Int32))])) _
        refine XS.ifYes X240.here hx rfl (pc0 := 145) (pc' := 153) rfl (hb hby at_145) rfl ((if0 _ _).trans (feq (by decide)).2) (by decide) (by decide) ?_
        show Steps _ _ _ (T240.setTop (mkF m 153 l222 [])) _
        refine XS.iconst X240.here hx rfl (hb hby at_153) ?_
        show Steps _ _ _ (T240.setTop (mkF m 154 l222 [(.int (1 : Int32))])) _
        refine XS.goto X240.here hx rfl (pc0 := 154) (pc' := 158) rfl (hb hby at_154) (by decide) (by decide) ?_
        show Steps _ _ _ (T240.setTop (mkF m 158 l222 [(.int (1 : Int32))])) _
        refine XS.istore X240.here hx rfl (hb hby at_158) rfl (l' := l241) rfl ?_
        show Steps _ _ _ (T240.setTop (mkF m 160 l241 [])) _
        refine XS.iload X240.here hx rfl (hb hby at_160) rfl ?_
        show Steps _ _ _ (T240.setTop (mkF m 162 l241 [(.int (1 : Int32))])) _
        refine XS.ifNo X240.here hx rfl (hb hby at_162) rfl ((if0 _ _).trans (feq (by decide)).1) ?_
        show Steps _ _ _ (T240.setTop (mkF m 165 l241 [])) _
        refine XS.iload X240.here hx rfl (hb hby at_165) rfl ?_
        show Steps _ _ _ (T240.setTop (mkF m 167 l241 [(.int (1 : Int32))])) _
        refine XS.ifNo X240.here hx rfl (hb hby at_167) rfl ((if0 _ _).trans (feq (by decide)).1) ?_
        show Steps _ _ _ (T240.setTop (mkF m 170 l241 [])) _
        refine XS.lloadN X240.here hx rfl (hb hby at_170) rfl ?_
        show Steps _ _ _ (T240.setTop (mkF m 171 l241 [(.long a)])) _
        refine XS.lloadN X240.here hx rfl (hb hby at_171) rfl ?_
        show Steps _ _ _ (T240.setTop (mkF m 172 l241 [(.long b), (.long a)])) _
        exact hq)
      obtain ⟨_, T243, L243, X243, ⟨rfl, Nq243, eq243⟩, k243a⟩ := callS' X240 hx hZ (y := (⟨"java/lang/Math", "max", "(JJ)J"⟩ : MethodName)) hown (hw _ (List.mem_of_getElem? (i := 61) rfl)) (hw _ (List.mem_of_getElem? (i := 62) rfl)) (hw _ (List.mem_of_getElem? (i := 63) rfl)) (hw _ (List.mem_of_getElem? (i := 64) rfl)) (by decide) (backC (W := 0) (rm_max l Z a0 hw a b h240 n0 (by omega)) hZ (hw _ (List.mem_of_getElem? (i := 64) rfl)) (hw _ (List.mem_of_getElem? (i := 63) rfl)) (by decide) (by decide)) e240 (argsL := [(.long a), (.long b)]) (rest := []) rfl rfl pd_16 rfl (by rw [hml]; rfl) (hb hby at_172) (Nat.le_of_eq rfl) (by decide) (by decide) k242
      have k243 : To p.tables e below S0 (T243.setTop (mkF m 175 l241 [(.long (if b < a then a else b))])) := k243a
      have N243 := N240.app Nq243
      have e243 : T243.heap = h240 := eq243
      let l244 : Array Slot := #[.val (.long a), .second, .val (.long b), .second, .val (.long q), .second, .val (.int f), .val (.int (1 : Int32)), .val (.int (1 : Int32)), .val (.ref (if (f &&& (4 : Int32)) = (0 : Int32) then qP else qF)), .val (.ref (if (f &&& (8 : Int32)) = (0 : Int32) then qP else qF)), .val (.ref a209), .val (.ref a213), .val (.ref b216), .val (.int (1 : Int32)), .val (.int (1 : Int32)), .val (.long (if b < a then a else b)), .second, .unset, .unset]
      have k245 : To p.tables e below S0 (T243.setTop (mkF m 195 l244 [(.int (lcmpW q (if b < a then a else b)))])) := fun tt hq => k243 tt (by
        show Steps _ _ _ (T243.setTop (mkF m 175 l241 [(.long (if b < a then a else b))])) _
        refine XS.goto X243.here hx rfl (pc0 := 175) (pc' := 183) rfl (hb hby at_175) (by decide) (by decide) ?_
        show Steps _ _ _ (T243.setTop (mkF m 183 l241 [(.long (if b < a then a else b))])) _
        refine XS.lstore X243.here hx rfl (hb hby at_183) rfl (l' := l244) rfl ?_
        show Steps _ _ _ (T243.setTop (mkF m 185 l244 [])) _
        refine XS.iload X243.here hx rfl (hb hby at_185) rfl ?_
        show Steps _ _ _ (T243.setTop (mkF m 187 l244 [(.int (1 : Int32))])) _
        refine XS.ifNo X243.here hx rfl (hb hby at_187) rfl ((if0 _ _).trans (feq (by decide)).1) ?_
        show Steps _ _ _ (T243.setTop (mkF m 190 l244 [])) _
        refine XS.lload X243.here hx rfl (hb hby at_190) rfl ?_
        show Steps _ _ _ (T243.setTop (mkF m 192 l244 [(.long q)])) _
        refine XS.lload X243.here hx rfl (hb hby at_192) rfl ?_
        show Steps _ _ _ (T243.setTop (mkF m 194 l244 [(.long (if b < a then a else b)), (.long q)])) _
        refine XS.lcmp X243.here hx rfl (hb hby at_194) rfl ?_
        show Steps _ _ _ (T243.setTop (mkF m 195 l244 [(.int (lcmpW q (if b < a then a else b)))])) _
        exact hq)
      by_cases hc195_246 : (lcmpW q (if b < a then a else b)) < (0 : Int32)
      · -- pc 195, holds
        let l247 : Array Slot := #[.val (.long a), .second, .val (.long b), .second, .val (.long q), .second, .val (.int f), .val (.int (1 : Int32)), .val (.int (1 : Int32)), .val (.ref (if (f &&& (4 : Int32)) = (0 : Int32) then qP else qF)), .val (.ref (if (f &&& (8 : Int32)) = (0 : Int32) then qP else qF)), .val (.ref a209), .val (.ref a213), .val (.ref b216), .val (.int (1 : Int32)), .val (.int (1 : Int32)), .val (.long (if b < a then a else b)), .second, .val (.int (0 : Int32)), .unset]
        have k248 : To p.tables e below S0 (T243.setTop (mkF m 214 l247 [(.long q), (.ref b216)])) := fun tt hq => k245 tt (by
          show Steps _ _ _ (T243.setTop (mkF m 195 l244 [(.int (lcmpW q (if b < a then a else b)))])) _
          refine XS.ifYes X243.here hx rfl (pc0 := 195) (pc' := 202) rfl (hb hby at_195) rfl ((if0 _ _).trans (tlt hc195_246).1) (by decide) (by decide) ?_
          show Steps _ _ _ (T243.setTop (mkF m 202 l244 [])) _
          refine XS.iconst X243.here hx rfl (hb hby at_202) ?_
          show Steps _ _ _ (T243.setTop (mkF m 203 l244 [(.int (0 : Int32))])) _
          refine XS.istore X243.here hx rfl (hb hby at_203) rfl (l' := l247) rfl ?_
          show Steps _ _ _ (T243.setTop (mkF m 205 l247 [])) _
          refine XS.iload X243.here hx rfl (hb hby at_205) rfl ?_
          show Steps _ _ _ (T243.setTop (mkF m 207 l247 [(.int (1 : Int32))])) _
          refine XS.ifNo X243.here hx rfl (hb hby at_207) rfl ((if0 _ _).trans (feq (by decide)).1) ?_
          show Steps _ _ _ (T243.setTop (mkF m 210 l247 [])) _
          refine XS.aload X243.here hx rfl (hb hby at_210) rfl rfl ?_
          show Steps _ _ _ (T243.setTop (mkF m 212 l247 [(.ref b216)])) _
          refine XS.lload X243.here hx rfl (hb hby at_212) rfl ?_
          show Steps _ _ _ (T243.setTop (mkF m 214 l247 [(.long q), (.ref b216)])) _
          exact hq)
        obtain ⟨_, T249, L249, X249, ⟨rfl, Nq249, eq249⟩, k249a⟩ := callV' X243 hx hZ (y := (⟨"com/example/huntaway/huntaway/Precedence", "couldCount", "(J)Z"⟩ : MethodName)) (z := (⟨"com/example/huntaway/huntaway/Precedence", "couldCount", "(J)Z"⟩ : MethodName)) hown (hw _ (List.mem_of_getElem? (i := 39) rfl)) (hw _ (List.mem_of_getElem? (i := 40) rfl)) (notFace_of_selects (args := #[]) (mvT hZ (hw _ (List.mem_of_getElem? (i := 42) rfl)))) (hw _ (List.mem_of_getElem? (i := 42) rfl)) (hw _ (List.mem_of_getElem? (i := 41) rfl)) (by decide) A240 (backC (W := 0) (rm_could l Z a0 hw b216 (if b < a then a else b) q (0 : Int32) h240 n0 (by omega) Fh240 (fun _ => rfl) (fun z => absurd ((lc_lt _ _).mp ((lcW _ _) ▸ hc195_246)) z)) hZ (hw _ (List.mem_of_getElem? (i := 43) rfl)) (hw _ (List.mem_of_getElem? (i := 31) rfl)) (by decide) (by decide)) e243 (argsL := [(.long q)]) (rest := []) rfl rfl pd_14 rfl (by rw [hml]; rfl) (hb hby at_214) (Nat.le_of_eq rfl) (by decide) (by decide) k248
        have k249 : To p.tables e below S0 (T249.setTop (mkF m 217 l247 [(.int (0 : Int32))])) := k249a
        have N249 := N243.app Nq249
        have e249 : T249.heap = h240 := eq249
        let l250 : Array Slot := #[.val (.long a), .second, .val (.long b), .second, .val (.long q), .second, .val (.int f), .val (.int (1 : Int32)), .val (.int (1 : Int32)), .val (.ref (if (f &&& (4 : Int32)) = (0 : Int32) then qP else qF)), .val (.ref (if (f &&& (8 : Int32)) = (0 : Int32) then qP else qF)), .val (.ref a209), .val (.ref a213), .val (.ref b216), .val (.int (1 : Int32)), .val (.int (1 : Int32)), .val (.long (if b < a then a else b)), .second, .val (.int (0 : Int32)), .val (.int (1 : Int32))]
        have k251 : To p.tables e below S0 (T249.setTop (mkF m 243 l250 [(.long (if b < a then a else b)), (.ref b216)])) := fun tt hq => k249 tt (by
          show Steps _ _ _ (T249.setTop (mkF m 217 l247 [(.int (0 : Int32))])) _
          refine XS.iload X249.here hx rfl (hb hby at_217) rfl ?_
          show Steps _ _ _ (T249.setTop (mkF m 219 l247 [(.int (0 : Int32)), (.int (0 : Int32))])) _
          refine XS.icmpNo X249.here hx rfl (hb hby at_219) rfl (teq (by decide)).2 ?_
          show Steps _ _ _ (T249.setTop (mkF m 222 l247 [])) _
          refine XS.iconst X249.here hx rfl (hb hby at_222) ?_
          show Steps _ _ _ (T249.setTop (mkF m 223 l247 [(.int (1 : Int32))])) _
          refine XS.goto X249.here hx rfl (pc0 := 223) (pc' := 227) rfl (hb hby at_223) (by decide) (by decide) ?_
          show Steps _ _ _ (T249.setTop (mkF m 227 l247 [(.int (1 : Int32))])) _
          refine XS.istore X249.here hx rfl (hb hby at_227) rfl (l' := l250) rfl ?_
          show Steps _ _ _ (T249.setTop (mkF m 229 l250 [])) _
          refine XS.iload X249.here hx rfl (hb hby at_229) rfl ?_
          show Steps _ _ _ (T249.setTop (mkF m 231 l250 [(.int (1 : Int32))])) _
          refine XS.ifNo X249.here hx rfl (hb hby at_231) rfl ((if0 _ _).trans (feq (by decide)).1) ?_
          show Steps _ _ _ (T249.setTop (mkF m 234 l250 [])) _
          refine XS.iload X249.here hx rfl (hb hby at_234) rfl ?_
          show Steps _ _ _ (T249.setTop (mkF m 236 l250 [(.int (1 : Int32))])) _
          refine XS.ifNo X249.here hx rfl (hb hby at_236) rfl ((if0 _ _).trans (feq (by decide)).1) ?_
          show Steps _ _ _ (T249.setTop (mkF m 239 l250 [])) _
          refine XS.aload X249.here hx rfl (hb hby at_239) rfl rfl ?_
          show Steps _ _ _ (T249.setTop (mkF m 241 l250 [(.ref b216)])) _
          refine XS.lload X249.here hx rfl (hb hby at_241) rfl ?_
          show Steps _ _ _ (T249.setTop (mkF m 243 l250 [(.long (if b < a then a else b)), (.ref b216)])) _
          exact hq)
        obtain ⟨_, T252, L252, X252, ⟨rfl, Nq252, eq252⟩, k252a⟩ := callV' X249 hx hZ (y := (⟨"com/example/huntaway/huntaway/Precedence", "couldCount", "(J)Z"⟩ : MethodName)) (z := (⟨"com/example/huntaway/huntaway/Precedence", "couldCount", "(J)Z"⟩ : MethodName)) hown (hw _ (List.mem_of_getElem? (i := 39) rfl)) (hw _ (List.mem_of_getElem? (i := 40) rfl)) (notFace_of_selects (args := #[]) (mvT hZ (hw _ (List.mem_of_getElem? (i := 42) rfl)))) (hw _ (List.mem_of_getElem? (i := 42) rfl)) (hw _ (List.mem_of_getElem? (i := 41) rfl)) (by decide) A240 (backC (W := 0) (rm_could l Z a0 hw b216 (if b < a then a else b) (if b < a then a else b) (1 : Int32) h240 n0 (by omega) Fh240 (fun z => (Int64.lt_irrefl z).elim) (fun _ => rfl)) hZ (hw _ (List.mem_of_getElem? (i := 43) rfl)) (hw _ (List.mem_of_getElem? (i := 31) rfl)) (by decide) (by decide)) e249 (argsL := [(.long (if b < a then a else b))]) (rest := []) rfl rfl pd_14 rfl (by rw [hml]; rfl) (hb hby at_243) (Nat.le_of_eq rfl) (by decide) (by decide) k251
        have k252 : To p.tables e below S0 (T252.setTop (mkF m 246 l250 [(.int (1 : Int32))])) := k252a
        have N252 := N249.app Nq252
        have e252 : T252.heap = h240 := eq252
        have k253 : To p.tables e below S0 (T252.setTop (mkF m 262 l250 [(.int (lcmpW (if b < a then a else b) (-9223372036854775808 : Int64)))])) := fun tt hq => k252 tt (by
          show Steps _ _ _ (T252.setTop (mkF m 246 l250 [(.int (1 : Int32))])) _
          refine XS.ifNo X252.here hx rfl (hb hby at_246) rfl ((if0 _ _).trans (feq (by decide)).1) ?_
          show Steps _ _ _ (T252.setTop (mkF m 249 l250 [])) _
          refine XS.iconst X252.here hx rfl (hb hby at_249) ?_
          show Steps _ _ _ (T252.setTop (mkF m 250 l250 [(.int (1 : Int32))])) _
          refine XS.goto X252.here hx rfl (pc0 := 250) (pc' := 254) rfl (hb hby at_250) (by decide) (by decide) ?_
          show Steps _ _ _ (T252.setTop (mkF m 254 l250 [(.int (1 : Int32))])) _
          refine XS.istore X252.here hx rfl (hb hby at_254) rfl (l' := l250) rfl ?_
          show Steps _ _ _ (T252.setTop (mkF m 256 l250 [])) _
          refine XS.lload X252.here hx rfl (hb hby at_256) rfl ?_
          show Steps _ _ _ (T252.setTop (mkF m 258 l250 [(.long (if b < a then a else b))])) _
          refine X252.ldc2Long hx hown (mvT hZ (hw _ (List.mem_of_getElem? (i := 59) rfl))) (g := (mkF m 258 l250 [(.long (if b < a then a else b))])) rfl (hb hby at_258) _ ?_
          show Steps _ _ _ (T252.setTop (mkF m 261 l250 [(.long (-9223372036854775808 : Int64)), (.long (if b < a then a else b))])) _
          refine XS.lcmp X252.here hx rfl (hb hby at_261) rfl ?_
          show Steps _ _ _ (T252.setTop (mkF m 262 l250 [(.int (lcmpW (if b < a then a else b) (-9223372036854775808 : Int64)))])) _
          exact hq)
        by_cases hc262_254 : (lcmpW (if b < a then a else b) (-9223372036854775808 : Int64)) = (0 : Int32)
        · -- pc 262, holds
          have k255 : To p.tables e below S0 (T252.setTop (mkF m 291 l250 [(.int (1 : Int32))])) := fun tt hq => k253 tt (by
            show Steps _ _ _ (T252.setTop (mkF m 262 l250 [(.int (lcmpW (if b < a then a else b) (-9223372036854775808 : Int64)))])) _
            refine XS.ifYes X252.here hx rfl (pc0 := 262) (pc' := 289) rfl (hb hby at_262) rfl ((if0 _ _).trans (teq hc262_254).1) (by decide) (by decide) ?_
            show Steps _ _ _ (T252.setTop (mkF m 289 l250 [])) _
            refine XS.iload X252.here hx rfl (hb hby at_289) rfl ?_
            show Steps _ _ _ (T252.setTop (mkF m 291 l250 [(.int (1 : Int32))])) _
            exact hq)
          have hE := e252
          refine retInt X252 hx hret hlk (by simp) rfl (hb hby at_291) k255 ?_ (by decide) (by decide)
          try rw [hE]
          exact ⟨rfl, N252⟩
        · -- pc 262, holds not
          have k256 : To p.tables e below S0 (T252.setTop (mkF m 276 l250 [(.long ((if b < a then a else b) - (1 : Int64))), (.ref b216)])) := fun tt hq => k253 tt (by
            show Steps _ _ _ (T252.setTop (mkF m 262 l250 [(.int (lcmpW (if b < a then a else b) (-9223372036854775808 : Int64)))])) _
            refine XS.ifNo X252.here hx rfl (hb hby at_262) rfl ((if0 _ _).trans (feq hc262_254).1) ?_
            show Steps _ _ _ (T252.setTop (mkF m 265 l250 [])) _
            refine XS.iload X252.here hx rfl (hb hby at_265) rfl ?_
            show Steps _ _ _ (T252.setTop (mkF m 267 l250 [(.int (1 : Int32))])) _
            refine XS.ifNo X252.here hx rfl (hb hby at_267) rfl ((if0 _ _).trans (feq (by decide)).1) ?_
            show Steps _ _ _ (T252.setTop (mkF m 270 l250 [])) _
            refine XS.aload X252.here hx rfl (hb hby at_270) rfl rfl ?_
            show Steps _ _ _ (T252.setTop (mkF m 272 l250 [(.ref b216)])) _
            refine XS.lload X252.here hx rfl (hb hby at_272) rfl ?_
            show Steps _ _ _ (T252.setTop (mkF m 274 l250 [(.long (if b < a then a else b)), (.ref b216)])) _
            refine XS.lconst X252.here hx rfl (hb hby at_274) ?_
            show Steps _ _ _ (T252.setTop (mkF m 275 l250 [(.long (1 : Int64)), (.long (if b < a then a else b)), (.ref b216)])) _
            refine XS.lsub X252.here hx rfl (hb hby at_275) rfl ?_
            show Steps _ _ _ (T252.setTop (mkF m 276 l250 [(.long ((if b < a then a else b) - (1 : Int64))), (.ref b216)])) _
            exact hq)
          obtain ⟨_, T257, L257, X257, ⟨rfl, Nq257, eq257⟩, k257a⟩ := callV' X252 hx hZ (y := (⟨"com/example/huntaway/huntaway/Precedence", "couldCount", "(J)Z"⟩ : MethodName)) (z := (⟨"com/example/huntaway/huntaway/Precedence", "couldCount", "(J)Z"⟩ : MethodName)) hown (hw _ (List.mem_of_getElem? (i := 39) rfl)) (hw _ (List.mem_of_getElem? (i := 40) rfl)) (notFace_of_selects (args := #[]) (mvT hZ (hw _ (List.mem_of_getElem? (i := 42) rfl)))) (hw _ (List.mem_of_getElem? (i := 42) rfl)) (hw _ (List.mem_of_getElem? (i := 41) rfl)) (by decide) A240 (backC (W := 0) (rm_could l Z a0 hw b216 (if b < a then a else b) ((if b < a then a else b) - (1 : Int64)) (0 : Int32) h240 n0 (by omega) Fh240 (fun _ => rfl) (fun z => absurd (own_pred hc262_254) z)) hZ (hw _ (List.mem_of_getElem? (i := 43) rfl)) (hw _ (List.mem_of_getElem? (i := 31) rfl)) (by decide) (by decide)) e252 (argsL := [(.long ((if b < a then a else b) - (1 : Int64)))]) (rest := []) rfl rfl pd_14 rfl (by rw [hml]; rfl) (hb hby at_276) (Nat.le_of_eq rfl) (by decide) (by decide) k256
          have k257 : To p.tables e below S0 (T257.setTop (mkF m 279 l250 [(.int (0 : Int32))])) := k257a
          have N257 := N252.app Nq257
          have e257 : T257.heap = h240 := eq257
          have k258 : To p.tables e below S0 (T257.setTop (mkF m 291 l250 [(.int (1 : Int32))])) := fun tt hq => k257 tt (by
            show Steps _ _ _ (T257.setTop (mkF m 279 l250 [(.int (0 : Int32))])) _
            refine XS.ifNo X257.here hx rfl (hb hby at_279) rfl ((if0 _ _).trans (teq (by decide)).2) ?_
            show Steps _ _ _ (T257.setTop (mkF m 282 l250 [])) _
            refine XS.iconst X257.here hx rfl (hb hby at_282) ?_
            show Steps _ _ _ (T257.setTop (mkF m 283 l250 [(.int (1 : Int32))])) _
            refine XS.goto X257.here hx rfl (pc0 := 283) (pc' := 287) rfl (hb hby at_283) (by decide) (by decide) ?_
            show Steps _ _ _ (T257.setTop (mkF m 287 l250 [(.int (1 : Int32))])) _
            refine XS.istore X257.here hx rfl (hb hby at_287) rfl (l' := l250) rfl ?_
            show Steps _ _ _ (T257.setTop (mkF m 289 l250 [])) _
            refine XS.iload X257.here hx rfl (hb hby at_289) rfl ?_
            show Steps _ _ _ (T257.setTop (mkF m 291 l250 [(.int (1 : Int32))])) _
            exact hq)
          have hE := e257
          refine retInt X257 hx hret hlk (by simp) rfl (hb hby at_291) k258 ?_ (by decide) (by decide)
          try rw [hE]
          exact ⟨rfl, N257⟩
      · -- pc 195, holds not
        let l259 : Array Slot := #[.val (.long a), .second, .val (.long b), .second, .val (.long q), .second, .val (.int f), .val (.int (1 : Int32)), .val (.int (1 : Int32)), .val (.ref (if (f &&& (4 : Int32)) = (0 : Int32) then qP else qF)), .val (.ref (if (f &&& (8 : Int32)) = (0 : Int32) then qP else qF)), .val (.ref a209), .val (.ref a213), .val (.ref b216), .val (.int (1 : Int32)), .val (.int (1 : Int32)), .val (.long (if b < a then a else b)), .second, .val (.int (1 : Int32)), .unset]
        have k260 : To p.tables e below S0 (T243.setTop (mkF m 214 l259 [(.long q), (.ref b216)])) := fun tt hq => k245 tt (by
          show Steps _ _ _ (T243.setTop (mkF m 195 l244 [(.int (lcmpW q (if b < a then a else b)))])) _
          refine XS.ifNo X243.here hx rfl (hb hby at_195) rfl ((if0 _ _).trans (flt hc195_246).1) ?_
          show Steps _ _ _ (T243.setTop (mkF m 198 l244 [])) _
          refine XS.iconst X243.here hx rfl (hb hby at_198) ?_
          show Steps _ _ _ (T243.setTop (mkF m 199 l244 [(.int (1 : Int32))])) _
          refine XS.goto X243.here hx rfl (pc0 := 199) (pc' := 203) rfl (hb hby at_199) (by decide) (by decide) ?_
          show Steps _ _ _ (T243.setTop (mkF m 203 l244 [(.int (1 : Int32))])) _
          refine XS.istore X243.here hx rfl (hb hby at_203) rfl (l' := l259) rfl ?_
          show Steps _ _ _ (T243.setTop (mkF m 205 l259 [])) _
          refine XS.iload X243.here hx rfl (hb hby at_205) rfl ?_
          show Steps _ _ _ (T243.setTop (mkF m 207 l259 [(.int (1 : Int32))])) _
          refine XS.ifNo X243.here hx rfl (hb hby at_207) rfl ((if0 _ _).trans (feq (by decide)).1) ?_
          show Steps _ _ _ (T243.setTop (mkF m 210 l259 [])) _
          refine XS.aload X243.here hx rfl (hb hby at_210) rfl rfl ?_
          show Steps _ _ _ (T243.setTop (mkF m 212 l259 [(.ref b216)])) _
          refine XS.lload X243.here hx rfl (hb hby at_212) rfl ?_
          show Steps _ _ _ (T243.setTop (mkF m 214 l259 [(.long q), (.ref b216)])) _
          exact hq)
        obtain ⟨_, T261, L261, X261, ⟨rfl, Nq261, eq261⟩, k261a⟩ := callV' X243 hx hZ (y := (⟨"com/example/huntaway/huntaway/Precedence", "couldCount", "(J)Z"⟩ : MethodName)) (z := (⟨"com/example/huntaway/huntaway/Precedence", "couldCount", "(J)Z"⟩ : MethodName)) hown (hw _ (List.mem_of_getElem? (i := 39) rfl)) (hw _ (List.mem_of_getElem? (i := 40) rfl)) (notFace_of_selects (args := #[]) (mvT hZ (hw _ (List.mem_of_getElem? (i := 42) rfl)))) (hw _ (List.mem_of_getElem? (i := 42) rfl)) (hw _ (List.mem_of_getElem? (i := 41) rfl)) (by decide) A240 (backC (W := 0) (rm_could l Z a0 hw b216 (if b < a then a else b) q (1 : Int32) h240 n0 (by omega) Fh240 (fun z => absurd ((lcW _ _) ▸ (lc_lt _ _).mpr z) hc195_246) (fun _ => rfl)) hZ (hw _ (List.mem_of_getElem? (i := 43) rfl)) (hw _ (List.mem_of_getElem? (i := 31) rfl)) (by decide) (by decide)) e243 (argsL := [(.long q)]) (rest := []) rfl rfl pd_14 rfl (by rw [hml]; rfl) (hb hby at_214) (Nat.le_of_eq rfl) (by decide) (by decide) k260
        have k261 : To p.tables e below S0 (T261.setTop (mkF m 217 l259 [(.int (1 : Int32))])) := k261a
        have N261 := N243.app Nq261
        have e261 : T261.heap = h240 := eq261
        let l262 : Array Slot := #[.val (.long a), .second, .val (.long b), .second, .val (.long q), .second, .val (.int f), .val (.int (1 : Int32)), .val (.int (1 : Int32)), .val (.ref (if (f &&& (4 : Int32)) = (0 : Int32) then qP else qF)), .val (.ref (if (f &&& (8 : Int32)) = (0 : Int32) then qP else qF)), .val (.ref a209), .val (.ref a213), .val (.ref b216), .val (.int (1 : Int32)), .val (.int (1 : Int32)), .val (.long (if b < a then a else b)), .second, .val (.int (1 : Int32)), .val (.int (1 : Int32))]
        have k263 : To p.tables e below S0 (T261.setTop (mkF m 243 l262 [(.long (if b < a then a else b)), (.ref b216)])) := fun tt hq => k261 tt (by
          show Steps _ _ _ (T261.setTop (mkF m 217 l259 [(.int (1 : Int32))])) _
          refine XS.iload X261.here hx rfl (hb hby at_217) rfl ?_
          show Steps _ _ _ (T261.setTop (mkF m 219 l259 [(.int (1 : Int32)), (.int (1 : Int32))])) _
          refine XS.icmpNo X261.here hx rfl (hb hby at_219) rfl (teq (by decide)).2 ?_
          show Steps _ _ _ (T261.setTop (mkF m 222 l259 [])) _
          refine XS.iconst X261.here hx rfl (hb hby at_222) ?_
          show Steps _ _ _ (T261.setTop (mkF m 223 l259 [(.int (1 : Int32))])) _
          refine XS.goto X261.here hx rfl (pc0 := 223) (pc' := 227) rfl (hb hby at_223) (by decide) (by decide) ?_
          show Steps _ _ _ (T261.setTop (mkF m 227 l259 [(.int (1 : Int32))])) _
          refine XS.istore X261.here hx rfl (hb hby at_227) rfl (l' := l262) rfl ?_
          show Steps _ _ _ (T261.setTop (mkF m 229 l262 [])) _
          refine XS.iload X261.here hx rfl (hb hby at_229) rfl ?_
          show Steps _ _ _ (T261.setTop (mkF m 231 l262 [(.int (1 : Int32))])) _
          refine XS.ifNo X261.here hx rfl (hb hby at_231) rfl ((if0 _ _).trans (feq (by decide)).1) ?_
          show Steps _ _ _ (T261.setTop (mkF m 234 l262 [])) _
          refine XS.iload X261.here hx rfl (hb hby at_234) rfl ?_
          show Steps _ _ _ (T261.setTop (mkF m 236 l262 [(.int (1 : Int32))])) _
          refine XS.ifNo X261.here hx rfl (hb hby at_236) rfl ((if0 _ _).trans (feq (by decide)).1) ?_
          show Steps _ _ _ (T261.setTop (mkF m 239 l262 [])) _
          refine XS.aload X261.here hx rfl (hb hby at_239) rfl rfl ?_
          show Steps _ _ _ (T261.setTop (mkF m 241 l262 [(.ref b216)])) _
          refine XS.lload X261.here hx rfl (hb hby at_241) rfl ?_
          show Steps _ _ _ (T261.setTop (mkF m 243 l262 [(.long (if b < a then a else b)), (.ref b216)])) _
          exact hq)
        obtain ⟨_, T264, L264, X264, ⟨rfl, Nq264, eq264⟩, k264a⟩ := callV' X261 hx hZ (y := (⟨"com/example/huntaway/huntaway/Precedence", "couldCount", "(J)Z"⟩ : MethodName)) (z := (⟨"com/example/huntaway/huntaway/Precedence", "couldCount", "(J)Z"⟩ : MethodName)) hown (hw _ (List.mem_of_getElem? (i := 39) rfl)) (hw _ (List.mem_of_getElem? (i := 40) rfl)) (notFace_of_selects (args := #[]) (mvT hZ (hw _ (List.mem_of_getElem? (i := 42) rfl)))) (hw _ (List.mem_of_getElem? (i := 42) rfl)) (hw _ (List.mem_of_getElem? (i := 41) rfl)) (by decide) A240 (backC (W := 0) (rm_could l Z a0 hw b216 (if b < a then a else b) (if b < a then a else b) (1 : Int32) h240 n0 (by omega) Fh240 (fun z => (Int64.lt_irrefl z).elim) (fun _ => rfl)) hZ (hw _ (List.mem_of_getElem? (i := 43) rfl)) (hw _ (List.mem_of_getElem? (i := 31) rfl)) (by decide) (by decide)) e261 (argsL := [(.long (if b < a then a else b))]) (rest := []) rfl rfl pd_14 rfl (by rw [hml]; rfl) (hb hby at_243) (Nat.le_of_eq rfl) (by decide) (by decide) k263
        have k264 : To p.tables e below S0 (T264.setTop (mkF m 246 l262 [(.int (1 : Int32))])) := k264a
        have N264 := N261.app Nq264
        have e264 : T264.heap = h240 := eq264
        have k265 : To p.tables e below S0 (T264.setTop (mkF m 262 l262 [(.int (lcmpW (if b < a then a else b) (-9223372036854775808 : Int64)))])) := fun tt hq => k264 tt (by
          show Steps _ _ _ (T264.setTop (mkF m 246 l262 [(.int (1 : Int32))])) _
          refine XS.ifNo X264.here hx rfl (hb hby at_246) rfl ((if0 _ _).trans (feq (by decide)).1) ?_
          show Steps _ _ _ (T264.setTop (mkF m 249 l262 [])) _
          refine XS.iconst X264.here hx rfl (hb hby at_249) ?_
          show Steps _ _ _ (T264.setTop (mkF m 250 l262 [(.int (1 : Int32))])) _
          refine XS.goto X264.here hx rfl (pc0 := 250) (pc' := 254) rfl (hb hby at_250) (by decide) (by decide) ?_
          show Steps _ _ _ (T264.setTop (mkF m 254 l262 [(.int (1 : Int32))])) _
          refine XS.istore X264.here hx rfl (hb hby at_254) rfl (l' := l262) rfl ?_
          show Steps _ _ _ (T264.setTop (mkF m 256 l262 [])) _
          refine XS.lload X264.here hx rfl (hb hby at_256) rfl ?_
          show Steps _ _ _ (T264.setTop (mkF m 258 l262 [(.long (if b < a then a else b))])) _
          refine X264.ldc2Long hx hown (mvT hZ (hw _ (List.mem_of_getElem? (i := 59) rfl))) (g := (mkF m 258 l262 [(.long (if b < a then a else b))])) rfl (hb hby at_258) _ ?_
          show Steps _ _ _ (T264.setTop (mkF m 261 l262 [(.long (-9223372036854775808 : Int64)), (.long (if b < a then a else b))])) _
          refine XS.lcmp X264.here hx rfl (hb hby at_261) rfl ?_
          show Steps _ _ _ (T264.setTop (mkF m 262 l262 [(.int (lcmpW (if b < a then a else b) (-9223372036854775808 : Int64)))])) _
          exact hq)
        by_cases hc262_266 : (lcmpW (if b < a then a else b) (-9223372036854775808 : Int64)) = (0 : Int32)
        · -- pc 262, holds
          have k267 : To p.tables e below S0 (T264.setTop (mkF m 291 l262 [(.int (1 : Int32))])) := fun tt hq => k265 tt (by
            show Steps _ _ _ (T264.setTop (mkF m 262 l262 [(.int (lcmpW (if b < a then a else b) (-9223372036854775808 : Int64)))])) _
            refine XS.ifYes X264.here hx rfl (pc0 := 262) (pc' := 289) rfl (hb hby at_262) rfl ((if0 _ _).trans (teq hc262_266).1) (by decide) (by decide) ?_
            show Steps _ _ _ (T264.setTop (mkF m 289 l262 [])) _
            refine XS.iload X264.here hx rfl (hb hby at_289) rfl ?_
            show Steps _ _ _ (T264.setTop (mkF m 291 l262 [(.int (1 : Int32))])) _
            exact hq)
          have hE := e264
          refine retInt X264 hx hret hlk (by simp) rfl (hb hby at_291) k267 ?_ (by decide) (by decide)
          try rw [hE]
          exact ⟨rfl, N264⟩
        · -- pc 262, holds not
          have k268 : To p.tables e below S0 (T264.setTop (mkF m 276 l262 [(.long ((if b < a then a else b) - (1 : Int64))), (.ref b216)])) := fun tt hq => k265 tt (by
            show Steps _ _ _ (T264.setTop (mkF m 262 l262 [(.int (lcmpW (if b < a then a else b) (-9223372036854775808 : Int64)))])) _
            refine XS.ifNo X264.here hx rfl (hb hby at_262) rfl ((if0 _ _).trans (feq hc262_266).1) ?_
            show Steps _ _ _ (T264.setTop (mkF m 265 l262 [])) _
            refine XS.iload X264.here hx rfl (hb hby at_265) rfl ?_
            show Steps _ _ _ (T264.setTop (mkF m 267 l262 [(.int (1 : Int32))])) _
            refine XS.ifNo X264.here hx rfl (hb hby at_267) rfl ((if0 _ _).trans (feq (by decide)).1) ?_
            show Steps _ _ _ (T264.setTop (mkF m 270 l262 [])) _
            refine XS.aload X264.here hx rfl (hb hby at_270) rfl rfl ?_
            show Steps _ _ _ (T264.setTop (mkF m 272 l262 [(.ref b216)])) _
            refine XS.lload X264.here hx rfl (hb hby at_272) rfl ?_
            show Steps _ _ _ (T264.setTop (mkF m 274 l262 [(.long (if b < a then a else b)), (.ref b216)])) _
            refine XS.lconst X264.here hx rfl (hb hby at_274) ?_
            show Steps _ _ _ (T264.setTop (mkF m 275 l262 [(.long (1 : Int64)), (.long (if b < a then a else b)), (.ref b216)])) _
            refine XS.lsub X264.here hx rfl (hb hby at_275) rfl ?_
            show Steps _ _ _ (T264.setTop (mkF m 276 l262 [(.long ((if b < a then a else b) - (1 : Int64))), (.ref b216)])) _
            exact hq)
          obtain ⟨_, T269, L269, X269, ⟨rfl, Nq269, eq269⟩, k269a⟩ := callV' X264 hx hZ (y := (⟨"com/example/huntaway/huntaway/Precedence", "couldCount", "(J)Z"⟩ : MethodName)) (z := (⟨"com/example/huntaway/huntaway/Precedence", "couldCount", "(J)Z"⟩ : MethodName)) hown (hw _ (List.mem_of_getElem? (i := 39) rfl)) (hw _ (List.mem_of_getElem? (i := 40) rfl)) (notFace_of_selects (args := #[]) (mvT hZ (hw _ (List.mem_of_getElem? (i := 42) rfl)))) (hw _ (List.mem_of_getElem? (i := 42) rfl)) (hw _ (List.mem_of_getElem? (i := 41) rfl)) (by decide) A240 (backC (W := 0) (rm_could l Z a0 hw b216 (if b < a then a else b) ((if b < a then a else b) - (1 : Int64)) (0 : Int32) h240 n0 (by omega) Fh240 (fun _ => rfl) (fun z => absurd (own_pred hc262_266) z)) hZ (hw _ (List.mem_of_getElem? (i := 43) rfl)) (hw _ (List.mem_of_getElem? (i := 31) rfl)) (by decide) (by decide)) e264 (argsL := [(.long ((if b < a then a else b) - (1 : Int64)))]) (rest := []) rfl rfl pd_14 rfl (by rw [hml]; rfl) (hb hby at_276) (Nat.le_of_eq rfl) (by decide) (by decide) k268
          have k269 : To p.tables e below S0 (T269.setTop (mkF m 279 l262 [(.int (0 : Int32))])) := k269a
          have N269 := N264.app Nq269
          have e269 : T269.heap = h240 := eq269
          have k270 : To p.tables e below S0 (T269.setTop (mkF m 291 l262 [(.int (1 : Int32))])) := fun tt hq => k269 tt (by
            show Steps _ _ _ (T269.setTop (mkF m 279 l262 [(.int (0 : Int32))])) _
            refine XS.ifNo X269.here hx rfl (hb hby at_279) rfl ((if0 _ _).trans (teq (by decide)).2) ?_
            show Steps _ _ _ (T269.setTop (mkF m 282 l262 [])) _
            refine XS.iconst X269.here hx rfl (hb hby at_282) ?_
            show Steps _ _ _ (T269.setTop (mkF m 283 l262 [(.int (1 : Int32))])) _
            refine XS.goto X269.here hx rfl (pc0 := 283) (pc' := 287) rfl (hb hby at_283) (by decide) (by decide) ?_
            show Steps _ _ _ (T269.setTop (mkF m 287 l262 [(.int (1 : Int32))])) _
            refine XS.istore X269.here hx rfl (hb hby at_287) rfl (l' := l262) rfl ?_
            show Steps _ _ _ (T269.setTop (mkF m 289 l262 [])) _
            refine XS.iload X269.here hx rfl (hb hby at_289) rfl ?_
            show Steps _ _ _ (T269.setTop (mkF m 291 l262 [(.int (1 : Int32))])) _
            exact hq)
          have hE := e269
          refine retInt X269 hx hret hlk (by simp) rfl (hb hby at_291) k270 ?_ (by decide) (by decide)
          try rw [hE]
          exact ⟨rfl, N269⟩
set_option maxRecDepth 65536 in
set_option maxHeartbeats 40000000 in
theorem comes_1 {Post : Tables → Env → Array Value → State → Outcome → State → Prop} (hpost : ∀ tb e args s v u, (limb_1_1.after args s (.returned v) u = true ∧ limb_1_2.after args s (.returned v) u = true ∧ True) → FrameEnd s (.returned v) u (Jvm.fieldLocs frame_1_writes args s ++ Jvm.arrayLocs frame_1_arrays args s ++ Jvm.staticLocs frame_1_statics s) 24 128 → Post tb e args s (.returned v) u) :
    ArmFor flags0 classFile x code maxLocals ret World_1 tables_1 room_1 Calls_1 rest_1 Pre_1 Post := by
  intro l hfl _ _ p e ha hc hk s m args below hf hA hF happ hP
  obtain ⟨hcalls, hrest, hpre⟩ := hP
  obtain ⟨-, -, -, hnamed, -, -, -, hat⟩ := (Spec.applies_iff hf).mp happ
  obtain ⟨hg, hn⟩ := and_e (Cond.before_iff.mp (show (Jvm.Cond.and given_1 narrow_1).before args s = true from hpre))
  obtain ⟨u1, u2⟩ := and_e hg
  obtain ⟨u3, u4⟩ := and_e u2
  obtain ⟨u5, u6⟩ := and_e u4
  obtain ⟨u7, u8⟩ := and_e u6
  obtain ⟨u9, u10⟩ := and_e hn
  obtain ⟨u11, u12⟩ := and_e u10
  obtain ⟨u13, u14⟩ := and_e u12
  obtain ⟨u15, u16⟩ := and_e u14
  obtain ⟨w0, w1, w2, w3, rfl⟩ : ∃ w0 w1 w2 w3 : Value, args = #[w0, w1, w2, w3] := by
    have hs : args.size = 4 := by simpa [Cond.value, given_1] using u1
    obtain ⟨L⟩ := args
    match L, hs with
    | [w0, w1, w2, w3], _ => exact ⟨w0, w1, w2, w3, rfl⟩
  have hw := fun d (hd : d ∈ tables_1) => atoms_spec (ws := Jvm.Cond.code x code maxLocals ret :: tables_1) hat d (List.mem_cons_of_mem _ hd)
  have hfit : Fit s := fun {y c} hc i hi => by
    obtain ⟨ha, rfl⟩ := Array.getElem?_eq_some_iff.mp hc
    have q := List.all_eq_true.mp ((Array.all_eq_true_iff_forall_mem.mp hF) _ (Array.getElem_mem ha)) i (List.mem_range.mpr hi)
    simpa [Array.getElem?_eq_getElem hi] using q
  obtain ⟨hsets, hown0⟩ := atoms_of _ (rest_1_c_eq ▸ (show rest_1_c.before _ s = true from hrest))
  obtain ⟨i0, ei0⟩ := isL_v u3
  obtain rfl : w0 = (.long i0) := Option.some.inj ei0
  obtain ⟨i1, ei1⟩ := isL_v u5
  obtain rfl : w1 = (.long i1) := Option.some.inj ei1
  obtain ⟨i2, ei2⟩ := isL_v u7
  obtain rfl : w2 = (.long i2) := Option.some.inj ei2
  obtain ⟨i3, ei3⟩ := is_v u8
  obtain rfl : w3 = (.int i3) := Option.some.inj ei3
  obtain ⟨q_PERMIT, ev_PERMIT⟩ := exa_v u9
  have A_PERMIT := Exa.start ev_PERMIT u9
  have S_PERMIT := Sta.start ev_PERMIT (Or.inr ⟨(hw _ (List.mem_of_getElem? (i := 1) rfl)), (hw _ (List.mem_of_getElem? (i := 2) rfl))⟩)
  obtain ⟨q_FORBID, ev_FORBID⟩ := exa_v u11
  have A_FORBID := Exa.start ev_FORBID u11
  have S_FORBID := Sta.start ev_FORBID (Or.inr ⟨(hw _ (List.mem_of_getElem? (i := 1) rfl)), (hw _ (List.mem_of_getElem? (i := 54) rfl))⟩)
  obtain ⟨q_INSTANCE, ev_INSTANCE⟩ := exa_v u16
  have A_INSTANCE := Exa.start ev_INSTANCE u16
  have S_INSTANCE := Sta.start ev_INSTANCE (Or.inr ⟨(hw _ (List.mem_of_getElem? (i := 57) rfl)), (hw _ (List.mem_of_getElem? (i := 66) rfl))⟩)
  have F_PERMIT : Fld s s.heap q_PERMIT "java/lang/Enum" "ordinal" "I" (.int (0 : Int32)) := Fld.start (by rw [← fld_at (C := "java/lang/Enum") (n := "ordinal") (dd := "I") ev_PERMIT]; exact eqv_i (Term.int_eval _) u13)
  have F_FORBID : Fld s s.heap q_FORBID "java/lang/Enum" "ordinal" "I" (.int (1 : Int32)) := Fld.start (by rw [← fld_at (C := "java/lang/Enum") (n := "ordinal") (dd := "I") ev_FORBID]; exact eqv_i (Term.int_eval _) u15)
  obtain ⟨zc, ezc⟩ := is_v (Cond.before_iff.mp (hsets _ (List.mem_of_getElem? (i := 1) rfl)))
  have S_c := Sta.start ezc (Or.inl (hsets _ (List.mem_of_getElem? (i := 0) rfl)))
  have hzc : ¬ zc = (0 : Int32) := own_nz ezc (Cond.before_iff.mp (hsets _ (List.mem_of_getElem? (i := 2) rfl)))
  obtain ⟨fm, efm, hfm⟩ := isR_v (Cond.before_iff.mp (hsets _ (List.mem_of_getElem? (i := 8) rfl)))
  have S_f := Sta.start efm (Or.inl (hsets _ (List.mem_of_getElem? (i := 7) rfl)))
  obtain ⟨n, o, h1, h2, h3, _, L, rfl, ⟨rfl, N⟩, hq⟩ := rm0 l s _ hw zc fm q_FORBID q_PERMIT q_INSTANCE i0 i1 i2 i3 s.heap s.heap.size (Nat.le_refl _) S_c hzc S_f hfm S_FORBID S_PERMIT S_INSTANCE A_INSTANCE (Old.start s) p e ha hc hk s m _ below hf ((Spec.applies_iff_loose hf).mp happ).1 ⟨rfl, State.Warmed39.refl s, rfl⟩ trivial
  refine ⟨n, _, h1, h2, h3, hpost _ _ _ _ _ _ ⟨Cond.after_iff.mpr rfl, Cond.after_iff.mpr (eq_i res_at (Term.int_eval (1)) rfl), trivial⟩ ⟨hq.1, hq.2.1, (hq.2.2.sift fun y hy => Or.inr (N y hy)).mono (by decide) (by decide)⟩⟩
theorem main_1_1 : Claimed_1_1 := comes_1 fun _ _ _ _ _ _ h hF => ⟨h.1, hF⟩
theorem main_1_2 : Claimed_1_2 := comes_1 fun _ _ _ _ _ _ h hF => ⟨h.2.1, hF⟩
end Jvm.Pilot.@@N@@
namespace Jvm.Pilot.@@N@@
open Jvm Jvm.ClassFile Sem Op Lib Jvm.Free Jvm.Stand Jvm.Pilot.@@N@@.Jvm.D
/-! MADE BY PROGRAM (witnessworld.py) out of the Statement's table words and the real class files: 25 classes; the members and pool entries that the words name. The judged class is class 1, her method 1. -/
namespace start1
open Jvm.ClassFile
def u (s : String) : CpInfo := .utf8 (stringToUtf16 s)
/-- a pool by its gaps: so many unusable entries, then the entry; so many at the end -/
def gap : Nat → List CpInfo → List CpInfo
  | 0, r => r
  | n + 1, r => .unusable :: gap n r
def poolList (es : List (Nat × CpInfo)) (last : Nat) : List CpInfo := es.foldr (fun e r => gap e.1 (e.2 :: r)) (gap last [])
def pool (es : List (Nat × CpInfo)) (last : Nat) : Array CpInfo := ⟨poolList es last⟩
def fileOf (pool : Array CpInfo) (this : Nat) (attrs : Array Attribute := #[]) (ms : Array MethodInfo := #[]) (fl : Nat := 33) (sup : Nat := 0) (ifs : Array Nat := #[]) (fds : Array FieldInfo := #[]) : ClassFile where
  minorVersion := 0
  majorVersion := 65
  constantPool := pool
  accessFlags := fl
  thisClass := this
  superClass := sup
  interfaces := ifs
  fields := fds
  methods := ms
  attributes := attrs
def plain (name : String) (sup : Option ClassId) : Class where
  name := name
  kind := .ordinary
  loader := none
  accessFlags := 33
  super := sup
  interfaces := #[]
  cf := none
  fields := #[]
  methods := #[]
  instanceTypes := #[]
  staticTypes := #[]
  resolved := #[]
  callSites := []
  init := .initialized
  statics := none
  mirror := none

def pool0 : Array CpInfo := pool [(5, u "<init>"), (0, u "()V"), (1, .class_ 10), (1, u "java/lang/Object")] 113

def k0c0 : Code := { maxStack := 0, maxLocals := 1, code := object_method_1_code, exceptionTable := #[], attributes := #[] }
def k0m0 : Method := { name := "<init>", desc := "()V", sig := { parameters := [], returnType := none }, accessFlags := 1, code := some k0c0 }
/-- java/lang/Object -/
def k0 : Class := { plain "java/lang/Object" none with
  accessFlags := 33
  interfaces := #[]
  cf := some (fileOf pool0 8 #[] #[{ accessFlags := 1, nameIndex := 5, descriptorIndex := 6, attributes := #[] }] 33 0 #[] #[])
  fields := #[]
  methods := #[k0m0]
  instanceTypes := #[]
  staticTypes := #[]
  resolved := Array.replicate 124 none
  statics := none }

def pool1 : Array CpInfo := pool [(2, .class_ 4), (0, .nameAndType 5 6), (0, u "java/lang/Object"), (0, u "<init>"), (0, u "()V"), (0, .fieldref 8 9), (0, .class_ 10), (0, .nameAndType 11 12), (0, u "com/example/huntaway/huntaway/Effect"), (0, u "FORBID"), (0, u "Lcom/example/huntaway/huntaway/Effect;"), (0, .fieldref 8 14), (0, .nameAndType 15 12), (0, u "PERMIT"), (0, .methodref 17 18), (0, .class_ 19), (0, .nameAndType 20 21), (0, u "java/lang/String"), (0, u "valueOf"), (0, u "(C)Ljava/lang/String;"), (0, .class_ 23), (0, u "com/example/huntaway/huntaway/Precedence"), (0, .methodref 22 3), (0, .methodref 22 26), (0, .nameAndType 27 28), (0, u "couldCount"), (0, u "(J)Z"), (0, .methodref 22 30), (0, .nameAndType 31 32), (0, u "offer"), (0, u "(Lcom/example/huntaway/huntaway/Effect;JLjava/lang/String;)V"), (0, .methodref 34 35), (0, .class_ 36), (0, .nameAndType 37 38), (0, u "java/lang/Math"), (0, u "max"), (0, u "(JJ)J"), (2, .long 9223372036854775808), (1, .class_ 44), (0, u "com/example/huntaway/huntaway/PrecedenceCouldCountPinLaw"), (2, u "law"), (0, u "(JJJI)Z")] 3

def k1m0 : Method := { name := "<init>", desc := "()V", sig := { parameters := [], returnType := none }, accessFlags := 1, code := none }
def k1c1 : Code := { maxStack := 5, maxLocals := 20, code := code, exceptionTable := #[], attributes := #[] }
def k1m1 : Method := { name := "law", desc := "(JJJI)Z", sig := { parameters := [.long, .long, .long, .int], returnType := some .boolean }, accessFlags := 9, code := some k1c1 }
/-- com/example/huntaway/huntaway/PrecedenceCouldCountPinLaw -/
def k1 : Class := { plain "com/example/huntaway/huntaway/PrecedenceCouldCountPinLaw" (some 0) with
  accessFlags := 49
  interfaces := #[]
  cf := some (fileOf pool1 43 #[] #[{ accessFlags := 1, nameIndex := 5, descriptorIndex := 6, attributes := #[] }, { accessFlags := 9, nameIndex := 47, descriptorIndex := 48, attributes := #[] }] 49 2 #[] #[])
  fields := #[]
  methods := #[k1m0, k1m1]
  instanceTypes := #[]
  staticTypes := #[]
  resolved := Array.replicate 52 none
  statics := none }

def pool2 : Array CpInfo := pool [(1, .class_ 2), (0, u "java/lang/constant/Constable"), (0, .class_ 4), (0, u "java/lang/Object")] 6

/-- java/lang/constant/Constable -/
def k2 : Class := { plain "java/lang/constant/Constable" (some 0) with
  accessFlags := 1537
  interfaces := #[]
  cf := some (fileOf pool2 1 #[] #[] 1537 3 #[] #[])
  fields := #[]
  methods := #[]
  instanceTypes := #[]
  staticTypes := #[]
  resolved := Array.replicate 11 none
  statics := none }

def pool3 : Array CpInfo := pool [(1, .class_ 2), (0, u "java/lang/Comparable"), (0, .class_ 4), (0, u "java/lang/Object")] 7

/-- java/lang/Comparable -/
def k3 : Class := { plain "java/lang/Comparable" (some 0) with
  accessFlags := 1537
  interfaces := #[]
  cf := some (fileOf pool3 1 #[] #[] 1537 3 #[] #[])
  fields := #[]
  methods := #[]
  instanceTypes := #[]
  staticTypes := #[]
  resolved := Array.replicate 12 none
  statics := none }

def pool4 : Array CpInfo := pool [(1, .class_ 2), (0, u "java/io/Serializable"), (0, .class_ 4), (0, u "java/lang/Object")] 2

/-- java/io/Serializable -/
def k4 : Class := { plain "java/io/Serializable" (some 0) with
  accessFlags := 1537
  interfaces := #[]
  cf := some (fileOf pool4 1 #[] #[] 1537 3 #[] #[])
  fields := #[]
  methods := #[]
  instanceTypes := #[]
  staticTypes := #[]
  resolved := Array.replicate 7 none
  statics := none }

def pool5 : Array CpInfo := pool [(2, .class_ 4), (1, u "java/lang/Enum"), (0, u "name"), (0, u "Ljava/lang/String;"), (2, u "ordinal"), (0, u "I"), (1, .class_ 14), (1, u "java/lang/Object"), (4, u "hash"), (86, .class_ 108), (1, u "java/lang/Enum$EnumDesc"), (2, .class_ 112), (0, u "java/lang/constant/Constable"), (0, .class_ 114), (0, u "java/lang/Comparable"), (0, .class_ 116), (0, u "java/io/Serializable")] 87

/-- java/lang/Enum -/
def k5 : Class := { plain "java/lang/Enum" (some 0) with
  accessFlags := 1057
  interfaces := #[2, 3, 4]
  cf := some (fileOf pool5 2 #[.nestMembers #[106]] #[] 1057 12 #[111, 113, 115] #[{ accessFlags := 18, nameIndex := 5, descriptorIndex := 6, attributes := #[] }, { accessFlags := 18, nameIndex := 9, descriptorIndex := 10, attributes := #[] }, { accessFlags := 2, nameIndex := 19, descriptorIndex := 10, attributes := #[] }])
  fields := #[{ name := "name", type := (.object "java/lang/String"), accessFlags := 18, slot := 0, constantValue := 0 }, { name := "ordinal", type := .int, accessFlags := 18, slot := 1, constantValue := 0 }, { name := "hash", type := .int, accessFlags := 2, slot := 2, constantValue := 0 }]
  methods := #[]
  instanceTypes := #[(.object "java/lang/String"), .int, .int]
  staticTypes := #[]
  resolved := Array.replicate 204 none
  statics := none }

def pool6 : Array CpInfo := pool [(1, .class_ 2), (0, u "com/example/huntaway/huntaway/Effect"), (2, u "PERMIT"), (0, u "Lcom/example/huntaway/huntaway/Effect;"), (2, u "FORBID"), (2, u "$VALUES"), (0, u "[Lcom/example/huntaway/huntaway/Effect;"), (6, .class_ 22), (1, u "java/lang/Enum")] 24

/-- com/example/huntaway/huntaway/Effect -/
def k6 : Class := { plain "com/example/huntaway/huntaway/Effect" (some 5) with
  accessFlags := 16433
  interfaces := #[]
  cf := some (fileOf pool6 1 #[] #[] 16433 20 #[] #[{ accessFlags := 16409, nameIndex := 5, descriptorIndex := 6, attributes := #[] }, { accessFlags := 16409, nameIndex := 9, descriptorIndex := 6, attributes := #[] }, { accessFlags := 4122, nameIndex := 12, descriptorIndex := 13, attributes := #[] }])
  fields := #[{ name := "PERMIT", type := (.object "com/example/huntaway/huntaway/Effect"), accessFlags := 16409, slot := 0, constantValue := 0 }, { name := "FORBID", type := (.object "com/example/huntaway/huntaway/Effect"), accessFlags := 16409, slot := 1, constantValue := 0 }, { name := "$VALUES", type := (.array (.object "com/example/huntaway/huntaway/Effect")), accessFlags := 4122, slot := 2, constantValue := 0 }]
  methods := #[]
  instanceTypes := #[(.object "java/lang/String"), .int, .int]
  staticTypes := #[(.object "com/example/huntaway/huntaway/Effect"), (.object "com/example/huntaway/huntaway/Effect"), (.array (.object "com/example/huntaway/huntaway/Effect"))]
  resolved := Array.replicate 47 none
  statics := some 0 }

def pool7 : Array CpInfo := pool [(2, .class_ 4), (1, u "java/lang/CharSequence"), (42, .class_ 48), (0, u "java/lang/CharSequence$1CodePointIterator"), (10, .class_ 60), (0, u "java/lang/CharSequence$1CharIterator"), (5, .class_ 67), (0, u "java/lang/Object")] 63

/-- java/lang/CharSequence -/
def k7 : Class := { plain "java/lang/CharSequence" (some 0) with
  accessFlags := 1537
  interfaces := #[]
  cf := some (fileOf pool7 2 #[.nestMembers #[47, 59]] #[] 1537 66 #[] #[])
  fields := #[]
  methods := #[]
  instanceTypes := #[]
  staticTypes := #[]
  resolved := Array.replicate 131 none
  statics := none }

def pool8 : Array CpInfo := pool [(1, .class_ 2), (0, u "java/lang/constant/ConstantDesc"), (0, .class_ 4), (0, u "java/lang/Object")] 32

/-- java/lang/constant/ConstantDesc -/
def k8 : Class := { plain "java/lang/constant/ConstantDesc" (some 0) with
  accessFlags := 1537
  interfaces := #[]
  cf := some (fileOf pool8 1 #[] #[] 1537 3 #[] #[])
  fields := #[]
  methods := #[]
  instanceTypes := #[]
  staticTypes := #[]
  resolved := Array.replicate 37 none
  statics := none }

def pool9 : Array CpInfo := pool [(1, .methodref 2 3), (0, .class_ 4), (0, .nameAndType 5 6), (0, u "java/lang/Object"), (0, u "<init>"), (0, u "()V"), (2, .fieldref 10 11), (0, .class_ 12), (0, .nameAndType 13 14), (0, u "java/lang/String"), (0, u "value"), (0, u "[B"), (0, .fieldref 10 16), (0, .nameAndType 17 18), (0, u "coder"), (0, u "B"), (2, u "hash"), (0, u "I"), (2, u "hashIsZero"), (0, u "Z"), (11, .fieldref 10 39), (0, .nameAndType 40 26), (0, u "COMPACT_STRINGS"), (12, u "toBytes"), (53, .class_ 109), (1, u "java/lang/StringLatin1"), (32, u "()Z"), (66, .methodref 10 210), (0, .nameAndType 5 211), (0, u "([BB)V"), (122, u "()I"), (0, .methodref 10 336), (0, .nameAndType 17 337), (0, u "()B"), (31, u "(C)Z"), (21, u "(II)V"), (100, .methodref 10 493), (0, .nameAndType 494 142), (0, u "isLatin1"), (4, .methodref 10 500), (0, .nameAndType 501 391), (0, u "checkIndex"), (2, u "codePointAt"), (2, u "length"), (67, .class_ 576), (0, u "java/lang/CharSequence"), (22, u "CASE_INSENSITIVE_ORDER"), (0, u "Ljava/util/Comparator;"), (164, u "(I)I"), (16, u "valueOf"), (0, u "(C)Ljava/lang/String;"), (231, .methodref 107 1016), (0, .nameAndType 1017 369), (0, u "canEncode"), (0, .methodref 107 1019), (0, .nameAndType 53 1020), (0, u "(C)[B"), (32, .fieldref 1054 1055), (0, .class_ 1056), (0, .nameAndType 1057 1058), (0, u "jdk/internal/util/Preconditions"), (0, u "SIOOBE_FORMATTER"), (0, u "Ljava/util/function/BiFunction;"), (0, .methodref 1054 1060), (0, .nameAndType 501 1061), (0, u "(IILjava/util/function/BiFunction;)I"), (39, u "serialPersistentFields"), (0, u "[Ljava/io/ObjectStreamField;"), (0, .class_ 1104), (0, u "java/lang/String$CaseInsensitiveComparator"), (1, .class_ 1107), (0, u "java/io/Serializable"), (0, .class_ 1109), (0, u "java/lang/Comparable"), (0, .class_ 1111), (0, u "java/lang/constant/Constable"), (0, .class_ 1113), (0, u "java/lang/constant/ConstantDesc"), (2, u "serialVersionUID"), (0, u "J"), (3, u "REPL"), (0, u "C"), (2, u "LATIN1"), (1, u "UTF16")] 323

def k9m0 : Method := { name := "<init>", desc := "()V", sig := { parameters := [], returnType := none }, accessFlags := 1, code := none }
def k9c1 : Code := { maxStack := 2, maxLocals := 1, code := jdk_42_method_54_code, exceptionTable := #[], attributes := #[] }
def k9m1 : Method := { name := "length", desc := "()I", sig := { parameters := [], returnType := some .int }, accessFlags := 1, code := some k9c1 }
def k9c2 : Code := { maxStack := 3, maxLocals := 3, code := jdk_42_method_57_code, exceptionTable := #[], attributes := #[] }
def k9m2 : Method := { name := "codePointAt", desc := "(I)I", sig := { parameters := [.int], returnType := some .int }, accessFlags := 1, code := some k9c2 }
def k9c3 : Code := { maxStack := 4, maxLocals := 1, code := jdk_42_method_139_code, exceptionTable := #[], attributes := #[] }
def k9m3 : Method := { name := "valueOf", desc := "(C)Ljava/lang/String;", sig := { parameters := [.char], returnType := some (.object "java/lang/String") }, accessFlags := 9, code := some k9c3 }
def k9c4 : Code := { maxStack := 2, maxLocals := 3, code := jdk_42_method_151_code, exceptionTable := #[], attributes := #[] }
def k9m4 : Method := { name := "<init>", desc := "([BB)V", sig := { parameters := [(.array .byte), .byte], returnType := none }, accessFlags := 0, code := some k9c4 }
def k9c5 : Code := { maxStack := 1, maxLocals := 1, code := jdk_42_method_152_code, exceptionTable := #[], attributes := #[] }
def k9m5 : Method := { name := "coder", desc := "()B", sig := { parameters := [], returnType := some .byte }, accessFlags := 0, code := some k9c5 }
def k9c6 : Code := { maxStack := 1, maxLocals := 1, code := jdk_42_method_154_code, exceptionTable := #[], attributes := #[] }
def k9m6 : Method := { name := "isLatin1", desc := "()Z", sig := { parameters := [], returnType := some .boolean }, accessFlags := 0, code := some k9c6 }
def k9c7 : Code := { maxStack := 3, maxLocals := 2, code := jdk_42_method_155_code, exceptionTable := #[], attributes := #[] }
def k9m7 : Method := { name := "checkIndex", desc := "(II)V", sig := { parameters := [.int, .int], returnType := none }, accessFlags := 8, code := some k9c7 }
/-- java/lang/String -/
def k9 : Class := { plain "java/lang/String" (some 0) with
  accessFlags := 49
  interfaces := #[4, 3, 7, 2, 8]
  cf := some (fileOf pool9 10 #[.nestMembers #[1103]] #[{ accessFlags := 1, nameIndex := 5, descriptorIndex := 6, attributes := #[] }, { accessFlags := 1, nameIndex := 507, descriptorIndex := 334, attributes := #[] }, { accessFlags := 1, nameIndex := 504, descriptorIndex := 765, attributes := #[] }, { accessFlags := 9, nameIndex := 782, descriptorIndex := 783, attributes := #[] }, { accessFlags := 0, nameIndex := 5, descriptorIndex := 211, attributes := #[] }, { accessFlags := 0, nameIndex := 17, descriptorIndex := 337, attributes := #[] }, { accessFlags := 0, nameIndex := 494, descriptorIndex := 142, attributes := #[] }, { accessFlags := 8, nameIndex := 501, descriptorIndex := 391, attributes := #[] }] 49 2 #[1106, 1108, 575, 1110, 1112] #[{ accessFlags := 18, nameIndex := 13, descriptorIndex := 14, attributes := #[] }, { accessFlags := 18, nameIndex := 17, descriptorIndex := 18, attributes := #[] }, { accessFlags := 2, nameIndex := 21, descriptorIndex := 22, attributes := #[] }, { accessFlags := 2, nameIndex := 25, descriptorIndex := 26, attributes := #[] }, { accessFlags := 26, nameIndex := 1116, descriptorIndex := 1117, attributes := #[] }, { accessFlags := 24, nameIndex := 40, descriptorIndex := 26, attributes := #[] }, { accessFlags := 26, nameIndex := 1101, descriptorIndex := 1102, attributes := #[] }, { accessFlags := 26, nameIndex := 1121, descriptorIndex := 1122, attributes := #[] }, { accessFlags := 25, nameIndex := 599, descriptorIndex := 600, attributes := #[] }, { accessFlags := 24, nameIndex := 1125, descriptorIndex := 18, attributes := #[] }, { accessFlags := 24, nameIndex := 1127, descriptorIndex := 18, attributes := #[] }])
  fields := #[{ name := "value", type := (.array .byte), accessFlags := 18, slot := 0, constantValue := 0 }, { name := "coder", type := .byte, accessFlags := 18, slot := 1, constantValue := 0 }, { name := "hash", type := .int, accessFlags := 2, slot := 2, constantValue := 0 }, { name := "hashIsZero", type := .boolean, accessFlags := 2, slot := 3, constantValue := 0 }, { name := "serialVersionUID", type := .long, accessFlags := 26, slot := 0, constantValue := 0 }, { name := "COMPACT_STRINGS", type := .boolean, accessFlags := 24, slot := 1, constantValue := 0 }, { name := "serialPersistentFields", type := (.array (.object "java/io/ObjectStreamField")), accessFlags := 26, slot := 2, constantValue := 0 }, { name := "REPL", type := .char, accessFlags := 26, slot := 3, constantValue := 0 }, { name := "CASE_INSENSITIVE_ORDER", type := (.object "java/util/Comparator"), accessFlags := 25, slot := 4, constantValue := 0 }, { name := "LATIN1", type := .byte, accessFlags := 24, slot := 5, constantValue := 0 }, { name := "UTF16", type := .byte, accessFlags := 24, slot := 6, constantValue := 0 }]
  methods := #[k9m0, k9m1, k9m2, k9m3, k9m4, k9m5, k9m6, k9m7]
  instanceTypes := #[(.array .byte), .byte, .int, .boolean]
  staticTypes := #[.long, .boolean, (.array (.object "java/io/ObjectStreamField")), .char, (.object "java/util/Comparator"), .byte, .byte]
  resolved := Array.replicate 1451 none
  statics := some 1 }

def pool10 : Array CpInfo := pool [(4, .class_ 6), (1, u "java/lang/Object"), (0, u "<init>"), (0, u "()V"), (5, .class_ 16), (1, u "java/lang/StringLatin1"), (73, u "canEncode"), (14, u "(C)Z"), (15, u "$assertionsDisabled"), (0, u "Z"), (98, .class_ 223), (1, u "java/lang/StringLatin1$LinesSpliterator"), (156, u "toBytes"), (1, u "(C)[B"), (7, .class_ 391), (0, u "java/lang/StringLatin1$CharsSpliterator")] 3

def k10m0 : Method := { name := "<init>", desc := "()V", sig := { parameters := [], returnType := none }, accessFlags := 0, code := none }
def k10c1 : Code := { maxStack := 2, maxLocals := 1, code := jdk_43_method_3_code, exceptionTable := #[], attributes := #[] }
def k10m1 : Method := { name := "canEncode", desc := "(C)Z", sig := { parameters := [.char], returnType := some .boolean }, accessFlags := 9, code := some k10c1 }
def k10c2 : Code := { maxStack := 4, maxLocals := 1, code := jdk_43_method_46_code, exceptionTable := #[], attributes := #[] }
def k10m2 : Method := { name := "toBytes", desc := "(C)[B", sig := { parameters := [.char], returnType := some (.array .byte) }, accessFlags := 9, code := some k10c2 }
/-- java/lang/StringLatin1 -/
def k10 : Class := { plain "java/lang/StringLatin1" (some 0) with
  accessFlags := 48
  interfaces := #[]
  cf := some (fileOf pool10 14 #[.nestMembers #[390, 221]] #[{ accessFlags := 0, nameIndex := 7, descriptorIndex := 8, attributes := #[] }, { accessFlags := 9, nameIndex := 90, descriptorIndex := 105, attributes := #[] }, { accessFlags := 9, nameIndex := 380, descriptorIndex := 382, attributes := #[] }] 48 4 #[] #[{ accessFlags := 4120, nameIndex := 121, descriptorIndex := 122, attributes := #[] }])
  fields := #[{ name := "$assertionsDisabled", type := .boolean, accessFlags := 4120, slot := 0, constantValue := 0 }]
  methods := #[k10m0, k10m1, k10m2]
  instanceTypes := #[]
  staticTypes := #[.boolean]
  resolved := Array.replicate 395 none
  statics := none }

def pool11 : Array CpInfo := pool [(1, .methodref 2 3), (0, .class_ 4), (0, .nameAndType 5 6), (0, u "java/lang/Object"), (0, u "<init>"), (0, u "()V"), (2, .long 9223372036854775808), (1, .fieldref 12 13), (0, .class_ 14), (0, .nameAndType 15 16), (0, u "com/example/huntaway/huntaway/Precedence"), (0, u "highest"), (0, u "J"), (0, .fieldref 12 18), (0, .nameAndType 19 20), (0, u "permitting"), (0, u "Ljava/lang/String;"), (0, .fieldref 12 22), (0, .nameAndType 23 20), (0, u "forbidding"), (0, .fieldref 25 26), (0, .class_ 27), (0, .nameAndType 28 29), (0, u "com/example/huntaway/huntaway/Effect"), (0, u "FORBID"), (0, u "Lcom/example/huntaway/huntaway/Effect;"), (0, .methodref 31 32), (0, .class_ 33), (0, .nameAndType 34 35), (0, u "com/example/huntaway/huntaway/CodePointOrder"), (0, u "min"), (0, u "(Ljava/lang/String;Ljava/lang/String;)Ljava/lang/String;"), (17, u "couldCount"), (0, u "(J)Z"), (1, u "offer"), (0, u "(Lcom/example/huntaway/huntaway/Effect;JLjava/lang/String;)V")] 6

def k11c0 : Code := { maxStack := 3, maxLocals := 1, code := prog_9_method_1_code, exceptionTable := #[], attributes := #[] }
def k11m0 : Method := { name := "<init>", desc := "()V", sig := { parameters := [], returnType := none }, accessFlags := 0, code := some k11c0 }
def k11c1 : Code := { maxStack := 4, maxLocals := 3, code := prog_9_method_2_code, exceptionTable := #[], attributes := #[] }
def k11m1 : Method := { name := "couldCount", desc := "(J)Z", sig := { parameters := [.long], returnType := some .boolean }, accessFlags := 0, code := some k11c1 }
def k11c2 : Code := { maxStack := 4, maxLocals := 5, code := prog_9_method_3_code, exceptionTable := #[], attributes := #[] }
def k11m2 : Method := { name := "offer", desc := "(Lcom/example/huntaway/huntaway/Effect;JLjava/lang/String;)V", sig := { parameters := [(.object "com/example/huntaway/huntaway/Effect"), .long, (.object "java/lang/String")], returnType := none }, accessFlags := 0, code := some k11c2 }
/-- com/example/huntaway/huntaway/Precedence -/
def k11 : Class := { plain "com/example/huntaway/huntaway/Precedence" (some 0) with
  accessFlags := 48
  interfaces := #[]
  cf := some (fileOf pool11 12 #[] #[{ accessFlags := 0, nameIndex := 5, descriptorIndex := 6, attributes := #[] }, { accessFlags := 0, nameIndex := 53, descriptorIndex := 54, attributes := #[] }, { accessFlags := 0, nameIndex := 56, descriptorIndex := 57, attributes := #[] }] 48 2 #[] #[{ accessFlags := 2, nameIndex := 15, descriptorIndex := 16, attributes := #[] }, { accessFlags := 2, nameIndex := 19, descriptorIndex := 20, attributes := #[] }, { accessFlags := 2, nameIndex := 23, descriptorIndex := 20, attributes := #[] }])
  fields := #[{ name := "highest", type := .long, accessFlags := 2, slot := 0, constantValue := 0 }, { name := "permitting", type := (.object "java/lang/String"), accessFlags := 2, slot := 1, constantValue := 0 }, { name := "forbidding", type := (.object "java/lang/String"), accessFlags := 2, slot := 2, constantValue := 0 }]
  methods := #[k11m0, k11m1, k11m2]
  instanceTypes := #[.long, (.object "java/lang/String"), (.object "java/lang/String")]
  staticTypes := #[]
  resolved := Array.replicate 64 none
  statics := none }

def pool12 : Array CpInfo := pool [(19, .class_ 20), (0, u "java/util/Comparator"), (84, .class_ 106), (0, u "java/lang/Object")] 181

/-- java/util/Comparator -/
def k12 : Class := { plain "java/util/Comparator" (some 0) with
  accessFlags := 1537
  interfaces := #[]
  cf := some (fileOf pool12 19 #[] #[] 1537 105 #[] #[])
  fields := #[]
  methods := #[]
  instanceTypes := #[]
  staticTypes := #[]
  resolved := Array.replicate 288 none
  statics := none }

def pool13 : Array CpInfo := pool [(2, .class_ 4), (1, u "java/lang/Object"), (0, u "<init>"), (0, u "()V"), (0, .methodref 8 9), (0, .class_ 10), (0, .nameAndType 11 12), (0, u "java/lang/String"), (0, u "length"), (0, u "()I"), (0, .methodref 8 14), (0, .nameAndType 15 16), (0, u "codePointAt"), (0, u "(I)I"), (0, .methodref 18 19), (0, .class_ 20), (0, .nameAndType 21 22), (0, u "java/lang/Integer"), (0, u "compare"), (0, u "(II)I"), (0, .methodref 24 25), (0, .class_ 26), (0, .nameAndType 27 16), (0, u "java/lang/Character"), (0, u "charCount"), (0, .fieldref 29 30), (0, .class_ 31), (0, .nameAndType 32 33), (0, u "com/example/huntaway/huntaway/CodePointOrder"), (0, u "INSTANCE"), (0, u "Lcom/example/huntaway/huntaway/CodePointOrder;"), (0, .methodref 29 35), (0, .nameAndType 21 36), (0, u "(Ljava/lang/String;Ljava/lang/String;)I"), (10, .class_ 48), (0, u "java/util/Comparator"), (3, u "min"), (0, u "(Ljava/lang/String;Ljava/lang/String;)Ljava/lang/String;")] 10

def k13m0 : Method := { name := "<init>", desc := "()V", sig := { parameters := [], returnType := none }, accessFlags := 2, code := none }
def k13c1 : Code := { maxStack := 3, maxLocals := 7, code := prog_1_method_2_code, exceptionTable := #[], attributes := #[] }
def k13m1 : Method := { name := "compare", desc := "(Ljava/lang/String;Ljava/lang/String;)I", sig := { parameters := [(.object "java/lang/String"), (.object "java/lang/String")], returnType := some .int }, accessFlags := 1, code := some k13c1 }
def k13c2 : Code := { maxStack := 3, maxLocals := 2, code := prog_1_method_3_code, exceptionTable := #[], attributes := #[] }
def k13m2 : Method := { name := "min", desc := "(Ljava/lang/String;Ljava/lang/String;)Ljava/lang/String;", sig := { parameters := [(.object "java/lang/String"), (.object "java/lang/String")], returnType := some (.object "java/lang/String") }, accessFlags := 8, code := some k13c2 }
/-- com/example/huntaway/huntaway/CodePointOrder -/
def k13 : Class := { plain "com/example/huntaway/huntaway/CodePointOrder" (some 0) with
  accessFlags := 48
  interfaces := #[12]
  cf := some (fileOf pool13 29 #[] #[{ accessFlags := 2, nameIndex := 5, descriptorIndex := 6, attributes := #[] }, { accessFlags := 1, nameIndex := 21, descriptorIndex := 36, attributes := #[] }, { accessFlags := 8, nameIndex := 52, descriptorIndex := 53, attributes := #[] }] 48 2 #[47] #[{ accessFlags := 24, nameIndex := 32, descriptorIndex := 33, attributes := #[] }])
  fields := #[{ name := "INSTANCE", type := (.object "com/example/huntaway/huntaway/CodePointOrder"), accessFlags := 24, slot := 0, constantValue := 0 }]
  methods := #[k13m0, k13m1, k13m2]
  instanceTypes := #[]
  staticTypes := #[(.object "com/example/huntaway/huntaway/CodePointOrder")]
  resolved := Array.replicate 64 none
  statics := some 2 }

def pool14 : Array CpInfo := pool [(1, .class_ 2), (0, u "java/lang/Math"), (1, .class_ 6), (1, u "java/lang/Object"), (0, u "<init>"), (0, u "()V"), (89, .class_ 100), (1, u "java/lang/Math$RandomNumberGeneratorHolder"), (20, u "(JJ)J"), (50, u "negativeZeroFloatBits"), (0, u "J"), (2, u "negativeZeroDoubleBits"), (21, u "max"), (46, u "$assertionsDisabled"), (0, u "Z"), (91, u "twoToTheDoubleScaleDown"), (0, u "D"), (4, u "twoToTheDoubleScaleUp"), (9, u "E"), (3, u "PI"), (2, u "TAU"), (2, u "DEGREES_TO_RADIANS"), (0, u "RADIANS_TO_DEGREES")] 94

def k14m0 : Method := { name := "<init>", desc := "()V", sig := { parameters := [], returnType := none }, accessFlags := 2, code := none }
def k14c1 : Code := { maxStack := 4, maxLocals := 4, code := jdk_29_method_66_code, exceptionTable := #[], attributes := #[] }
def k14m1 : Method := { name := "max", desc := "(JJ)J", sig := { parameters := [.long, .long], returnType := some .long }, accessFlags := 9, code := some k14c1 }
/-- java/lang/Math -/
def k14 : Class := { plain "java/lang/Math" (some 0) with
  accessFlags := 49
  interfaces := #[]
  cf := some (fileOf pool14 1 #[.nestMembers #[98]] #[{ accessFlags := 2, nameIndex := 7, descriptorIndex := 8, attributes := #[] }, { accessFlags := 9, nameIndex := 198, descriptorIndex := 121, attributes := #[] }] 49 4 #[] #[{ accessFlags := 25, nameIndex := 354, descriptorIndex := 339, attributes := #[] }, { accessFlags := 25, nameIndex := 358, descriptorIndex := 339, attributes := #[] }, { accessFlags := 25, nameIndex := 361, descriptorIndex := 339, attributes := #[] }, { accessFlags := 26, nameIndex := 364, descriptorIndex := 339, attributes := #[] }, { accessFlags := 26, nameIndex := 365, descriptorIndex := 339, attributes := #[] }, { accessFlags := 26, nameIndex := 172, descriptorIndex := 173, attributes := #[] }, { accessFlags := 26, nameIndex := 176, descriptorIndex := 173, attributes := #[] }, { accessFlags := 8, nameIndex := 344, descriptorIndex := 339, attributes := #[] }, { accessFlags := 8, nameIndex := 338, descriptorIndex := 339, attributes := #[] }, { accessFlags := 4120, nameIndex := 245, descriptorIndex := 246, attributes := #[] }])
  fields := #[{ name := "E", type := .double, accessFlags := 25, slot := 0, constantValue := 0 }, { name := "PI", type := .double, accessFlags := 25, slot := 1, constantValue := 0 }, { name := "TAU", type := .double, accessFlags := 25, slot := 2, constantValue := 0 }, { name := "DEGREES_TO_RADIANS", type := .double, accessFlags := 26, slot := 3, constantValue := 0 }, { name := "RADIANS_TO_DEGREES", type := .double, accessFlags := 26, slot := 4, constantValue := 0 }, { name := "negativeZeroFloatBits", type := .long, accessFlags := 26, slot := 5, constantValue := 0 }, { name := "negativeZeroDoubleBits", type := .long, accessFlags := 26, slot := 6, constantValue := 0 }, { name := "twoToTheDoubleScaleUp", type := .double, accessFlags := 8, slot := 7, constantValue := 0 }, { name := "twoToTheDoubleScaleDown", type := .double, accessFlags := 8, slot := 8, constantValue := 0 }, { name := "$assertionsDisabled", type := .boolean, accessFlags := 4120, slot := 9, constantValue := 0 }]
  methods := #[k14m0, k14m1]
  instanceTypes := #[]
  staticTypes := #[.double, .double, .double, .double, .double, .long, .long, .double, .double, .boolean]
  resolved := Array.replicate 460 none
  statics := none }

def pool15 : Array CpInfo := pool [(2, .class_ 4), (1, u "java/lang/Object"), (0, u "<init>"), (0, u "()V"), (17, .class_ 26), (1, u "jdk/internal/util/Preconditions"), (6, u "checkIndex"), (21, .class_ 56), (0, u "jdk/internal/util/Preconditions$4"), (57, .class_ 115), (0, u "jdk/internal/util/Preconditions$1"), (7, u "SIOOBE_FORMATTER"), (0, u "Ljava/util/function/BiFunction;"), (0, .class_ 126), (0, u "jdk/internal/util/Preconditions$2"), (3, u "AIOOBE_FORMATTER"), (0, .class_ 132), (0, u "jdk/internal/util/Preconditions$3"), (3, u "IOOBE_FORMATTER"), (41, u "(IILjava/util/function/BiFunction;)I")] 15

def k15m0 : Method := { name := "<init>", desc := "()V", sig := { parameters := [], returnType := none }, accessFlags := 1, code := none }
def k15c1 : Code := { maxStack := 3, maxLocals := 3, code := jdk_41_method_11_code, exceptionTable := #[], attributes := #[] }
def k15m1 : Method := { name := "checkIndex", desc := "(IILjava/util/function/BiFunction;)I", sig := { parameters := [.int, .int, (.object "java/util/function/BiFunction")], returnType := some .int }, accessFlags := 9, code := some k15c1 }
/-- jdk/internal/util/Preconditions -/
def k15 : Class := { plain "jdk/internal/util/Preconditions" (some 0) with
  accessFlags := 33
  interfaces := #[]
  cf := some (fileOf pool15 24 #[.nestMembers #[55, 131, 125, 114]] #[{ accessFlags := 1, nameIndex := 5, descriptorIndex := 6, attributes := #[] }, { accessFlags := 9, nameIndex := 33, descriptorIndex := 178, attributes := #[] }] 33 2 #[] #[{ accessFlags := 25, nameIndex := 123, descriptorIndex := 124, attributes := #[] }, { accessFlags := 25, nameIndex := 130, descriptorIndex := 124, attributes := #[] }, { accessFlags := 25, nameIndex := 136, descriptorIndex := 124, attributes := #[] }])
  fields := #[{ name := "SIOOBE_FORMATTER", type := (.object "java/util/function/BiFunction"), accessFlags := 25, slot := 0, constantValue := 0 }, { name := "AIOOBE_FORMATTER", type := (.object "java/util/function/BiFunction"), accessFlags := 25, slot := 1, constantValue := 0 }, { name := "IOOBE_FORMATTER", type := (.object "java/util/function/BiFunction"), accessFlags := 25, slot := 2, constantValue := 0 }]
  methods := #[k15m0, k15m1]
  instanceTypes := #[]
  staticTypes := #[(.object "java/util/function/BiFunction"), (.object "java/util/function/BiFunction"), (.object "java/util/function/BiFunction")]
  resolved := Array.replicate 194 none
  statics := some 3 }

def pool16 : Array CpInfo := pool [(1, .class_ 2), (0, u "java/lang/Character"), (18, u "value"), (0, u "C"), (19, .class_ 44), (1, u "java/lang/Object"), (3, .class_ 50), (1, u "java/lang/Character$CharacterCache"), (22, .integer 65536), (100, u "(I)I"), (109, u "$assertionsDisabled"), (0, u "Z"), (21, .class_ 309), (1, u "java/lang/Character$UnicodeBlock"), (73, u "TYPE"), (0, u "Ljava/lang/Class;"), (0, .class_ 386), (0, u "java/io/Serializable"), (0, .class_ 388), (0, u "java/lang/Comparable"), (0, .class_ 390), (0, u "java/lang/constant/Constable"), (0, u "MIN_RADIX"), (0, u "I"), (2, u "MAX_RADIX"), (1, u "MIN_VALUE"), (1, u "MAX_VALUE"), (3, u "UNASSIGNED"), (0, u "B"), (0, u "UPPERCASE_LETTER"), (1, u "LOWERCASE_LETTER"), (0, u "TITLECASE_LETTER"), (1, u "MODIFIER_LETTER"), (1, u "OTHER_LETTER"), (1, u "NON_SPACING_MARK"), (1, u "ENCLOSING_MARK"), (1, u "COMBINING_SPACING_MARK"), (1, u "DECIMAL_DIGIT_NUMBER"), (1, u "LETTER_NUMBER"), (1, u "OTHER_NUMBER"), (1, u "SPACE_SEPARATOR"), (1, u "LINE_SEPARATOR"), (1, u "PARAGRAPH_SEPARATOR"), (1, u "CONTROL"), (1, u "FORMAT"), (1, u "PRIVATE_USE"), (1, u "SURROGATE"), (1, u "DASH_PUNCTUATION"), (1, u "START_PUNCTUATION"), (1, u "END_PUNCTUATION"), (1, u "CONNECTOR_PUNCTUATION"), (1, u "OTHER_PUNCTUATION"), (1, u "MATH_SYMBOL"), (1, u "CURRENCY_SYMBOL"), (1, u "MODIFIER_SYMBOL"), (1, u "OTHER_SYMBOL"), (1, u "INITIAL_QUOTE_PUNCTUATION"), (1, u "FINAL_QUOTE_PUNCTUATION"), (1, u "ERROR"), (1, u "DIRECTIONALITY_UNDEFINED"), (0, u "DIRECTIONALITY_LEFT_TO_RIGHT"), (0, u "DIRECTIONALITY_RIGHT_TO_LEFT"), (0, u "DIRECTIONALITY_RIGHT_TO_LEFT_ARABIC"), (0, u "DIRECTIONALITY_EUROPEAN_NUMBER"), (0, u "DIRECTIONALITY_EUROPEAN_NUMBER_SEPARATOR"), (0, u "DIRECTIONALITY_EUROPEAN_NUMBER_TERMINATOR"), (0, u "DIRECTIONALITY_ARABIC_NUMBER"), (0, u "DIRECTIONALITY_COMMON_NUMBER_SEPARATOR"), (0, u "DIRECTIONALITY_NONSPACING_MARK"), (0, u "DIRECTIONALITY_BOUNDARY_NEUTRAL"), (0, u "DIRECTIONALITY_PARAGRAPH_SEPARATOR"), (0, u "DIRECTIONALITY_SEGMENT_SEPARATOR"), (0, u "DIRECTIONALITY_WHITESPACE"), (0, u "DIRECTIONALITY_OTHER_NEUTRALS"), (0, u "DIRECTIONALITY_LEFT_TO_RIGHT_EMBEDDING"), (0, u "DIRECTIONALITY_LEFT_TO_RIGHT_OVERRIDE"), (0, u "DIRECTIONALITY_RIGHT_TO_LEFT_EMBEDDING"), (0, u "DIRECTIONALITY_RIGHT_TO_LEFT_OVERRIDE"), (1, u "DIRECTIONALITY_POP_DIRECTIONAL_FORMAT"), (0, u "DIRECTIONALITY_LEFT_TO_RIGHT_ISOLATE"), (0, u "DIRECTIONALITY_RIGHT_TO_LEFT_ISOLATE"), (0, u "DIRECTIONALITY_FIRST_STRONG_ISOLATE"), (0, u "DIRECTIONALITY_POP_DIRECTIONAL_ISOLATE"), (0, u "MIN_HIGH_SURROGATE"), (0, u "MAX_HIGH_SURROGATE"), (1, u "MIN_LOW_SURROGATE"), (0, u "MAX_LOW_SURROGATE"), (1, u "MIN_SURROGATE"), (0, u "MAX_SURROGATE"), (0, u "MIN_SUPPLEMENTARY_CODE_POINT"), (0, u "MIN_CODE_POINT"), (0, u "MAX_CODE_POINT"), (1, u "serialVersionUID"), (0, u "J"), (2, u "SIZE"), (0, u "BYTES"), (29, u "charCount"), (58, .class_ 596), (0, u "java/lang/Character$UnicodeScript"), (0, .class_ 598), (0, u "java/lang/Character$Subset")] 5

def k16c0 : Code := { maxStack := 2, maxLocals := 1, code := jdk_89_method_18_code, exceptionTable := #[], attributes := #[] }
def k16m0 : Method := { name := "charCount", desc := "(I)I", sig := { parameters := [.int], returnType := some .int }, accessFlags := 9, code := some k16c0 }
/-- java/lang/Character -/
def k16 : Class := { plain "java/lang/Character" (some 0) with
  accessFlags := 49
  interfaces := #[4, 3, 2]
  cf := some (fileOf pool16 1 #[.nestMembers #[48, 595, 307, 597]] #[{ accessFlags := 9, nameIndex := 536, descriptorIndex := 174, attributes := #[] }] 49 42 #[385, 387, 389] #[{ accessFlags := 25, nameIndex := 391, descriptorIndex := 392, attributes := #[] }, { accessFlags := 25, nameIndex := 395, descriptorIndex := 392, attributes := #[] }, { accessFlags := 25, nameIndex := 397, descriptorIndex := 22, attributes := #[] }, { accessFlags := 25, nameIndex := 399, descriptorIndex := 22, attributes := #[] }, { accessFlags := 25, nameIndex := 383, descriptorIndex := 384, attributes := #[] }, { accessFlags := 25, nameIndex := 403, descriptorIndex := 404, attributes := #[] }, { accessFlags := 25, nameIndex := 405, descriptorIndex := 404, attributes := #[] }, { accessFlags := 25, nameIndex := 407, descriptorIndex := 404, attributes := #[] }, { accessFlags := 25, nameIndex := 408, descriptorIndex := 404, attributes := #[] }, { accessFlags := 25, nameIndex := 410, descriptorIndex := 404, attributes := #[] }, { accessFlags := 25, nameIndex := 412, descriptorIndex := 404, attributes := #[] }, { accessFlags := 25, nameIndex := 414, descriptorIndex := 404, attributes := #[] }, { accessFlags := 25, nameIndex := 416, descriptorIndex := 404, attributes := #[] }, { accessFlags := 25, nameIndex := 418, descriptorIndex := 404, attributes := #[] }, { accessFlags := 25, nameIndex := 420, descriptorIndex := 404, attributes := #[] }, { accessFlags := 25, nameIndex := 422, descriptorIndex := 404, attributes := #[] }, { accessFlags := 25, nameIndex := 424, descriptorIndex := 404, attributes := #[] }, { accessFlags := 25, nameIndex := 426, descriptorIndex := 404, attributes := #[] }, { accessFlags := 25, nameIndex := 428, descriptorIndex := 404, attributes := #[] }, { accessFlags := 25, nameIndex := 430, descriptorIndex := 404, attributes := #[] }, { accessFlags := 25, nameIndex := 432, descriptorIndex := 404, attributes := #[] }, { accessFlags := 25, nameIndex := 434, descriptorIndex := 404, attributes := #[] }, { accessFlags := 25, nameIndex := 436, descriptorIndex := 404, attributes := #[] }, { accessFlags := 25, nameIndex := 438, descriptorIndex := 404, attributes := #[] }, { accessFlags := 25, nameIndex := 440, descriptorIndex := 404, attributes := #[] }, { accessFlags := 25, nameIndex := 442, descriptorIndex := 404, attributes := #[] }, { accessFlags := 25, nameIndex := 444, descriptorIndex := 404, attributes := #[] }, { accessFlags := 25, nameIndex := 446, descriptorIndex := 404, attributes := #[] }, { accessFlags := 25, nameIndex := 448, descriptorIndex := 404, attributes := #[] }, { accessFlags := 25, nameIndex := 450, descriptorIndex := 404, attributes := #[] }, { accessFlags := 25, nameIndex := 452, descriptorIndex := 404, attributes := #[] }, { accessFlags := 25, nameIndex := 454, descriptorIndex := 404, attributes := #[] }, { accessFlags := 25, nameIndex := 456, descriptorIndex := 404, attributes := #[] }, { accessFlags := 25, nameIndex := 458, descriptorIndex := 404, attributes := #[] }, { accessFlags := 25, nameIndex := 460, descriptorIndex := 404, attributes := #[] }, { accessFlags := 24, nameIndex := 462, descriptorIndex := 392, attributes := #[] }, { accessFlags := 25, nameIndex := 464, descriptorIndex := 404, attributes := #[] }, { accessFlags := 25, nameIndex := 465, descriptorIndex := 404, attributes := #[] }, { accessFlags := 25, nameIndex := 466, descriptorIndex := 404, attributes := #[] }, { accessFlags := 25, nameIndex := 467, descriptorIndex := 404, attributes := #[] }, { accessFlags := 25, nameIndex := 468, descriptorIndex := 404, attributes := #[] }, { accessFlags := 25, nameIndex := 469, descriptorIndex := 404, attributes := #[] }, { accessFlags := 25, nameIndex := 470, descriptorIndex := 404, attributes := #[] }, { accessFlags := 25, nameIndex := 471, descriptorIndex := 404, attributes := #[] }, { accessFlags := 25, nameIndex := 472, descriptorIndex := 404, attributes := #[] }, { accessFlags := 25, nameIndex := 473, descriptorIndex := 404, attributes := #[] }, { accessFlags := 25, nameIndex := 474, descriptorIndex := 404, attributes := #[] }, { accessFlags := 25, nameIndex := 475, descriptorIndex := 404, attributes := #[] }, { accessFlags := 25, nameIndex := 476, descriptorIndex := 404, attributes := #[] }, { accessFlags := 25, nameIndex := 477, descriptorIndex := 404, attributes := #[] }, { accessFlags := 25, nameIndex := 478, descriptorIndex := 404, attributes := #[] }, { accessFlags := 25, nameIndex := 479, descriptorIndex := 404, attributes := #[] }, { accessFlags := 25, nameIndex := 480, descriptorIndex := 404, attributes := #[] }, { accessFlags := 25, nameIndex := 481, descriptorIndex := 404, attributes := #[] }, { accessFlags := 25, nameIndex := 482, descriptorIndex := 404, attributes := #[] }, { accessFlags := 25, nameIndex := 484, descriptorIndex := 404, attributes := #[] }, { accessFlags := 25, nameIndex := 485, descriptorIndex := 404, attributes := #[] }, { accessFlags := 25, nameIndex := 486, descriptorIndex := 404, attributes := #[] }, { accessFlags := 25, nameIndex := 487, descriptorIndex := 404, attributes := #[] }, { accessFlags := 25, nameIndex := 488, descriptorIndex := 404, attributes := #[] }, { accessFlags := 25, nameIndex := 489, descriptorIndex := 22, attributes := #[] }, { accessFlags := 25, nameIndex := 490, descriptorIndex := 22, attributes := #[] }, { accessFlags := 25, nameIndex := 492, descriptorIndex := 22, attributes := #[] }, { accessFlags := 25, nameIndex := 493, descriptorIndex := 22, attributes := #[] }, { accessFlags := 25, nameIndex := 495, descriptorIndex := 22, attributes := #[] }, { accessFlags := 25, nameIndex := 496, descriptorIndex := 22, attributes := #[] }, { accessFlags := 25, nameIndex := 497, descriptorIndex := 392, attributes := #[] }, { accessFlags := 25, nameIndex := 498, descriptorIndex := 392, attributes := #[] }, { accessFlags := 25, nameIndex := 499, descriptorIndex := 392, attributes := #[] }, { accessFlags := 18, nameIndex := 21, descriptorIndex := 22, attributes := #[] }, { accessFlags := 26, nameIndex := 501, descriptorIndex := 502, attributes := #[] }, { accessFlags := 25, nameIndex := 505, descriptorIndex := 392, attributes := #[] }, { accessFlags := 25, nameIndex := 506, descriptorIndex := 392, attributes := #[] }, { accessFlags := 4120, nameIndex := 284, descriptorIndex := 285, attributes := #[] }])
  fields := #[{ name := "MIN_RADIX", type := .int, accessFlags := 25, slot := 0, constantValue := 0 }, { name := "MAX_RADIX", type := .int, accessFlags := 25, slot := 1, constantValue := 0 }, { name := "MIN_VALUE", type := .char, accessFlags := 25, slot := 2, constantValue := 0 }, { name := "MAX_VALUE", type := .char, accessFlags := 25, slot := 3, constantValue := 0 }, { name := "TYPE", type := (.object "java/lang/Class"), accessFlags := 25, slot := 4, constantValue := 0 }, { name := "UNASSIGNED", type := .byte, accessFlags := 25, slot := 5, constantValue := 0 }, { name := "UPPERCASE_LETTER", type := .byte, accessFlags := 25, slot := 6, constantValue := 0 }, { name := "LOWERCASE_LETTER", type := .byte, accessFlags := 25, slot := 7, constantValue := 0 }, { name := "TITLECASE_LETTER", type := .byte, accessFlags := 25, slot := 8, constantValue := 0 }, { name := "MODIFIER_LETTER", type := .byte, accessFlags := 25, slot := 9, constantValue := 0 }, { name := "OTHER_LETTER", type := .byte, accessFlags := 25, slot := 10, constantValue := 0 }, { name := "NON_SPACING_MARK", type := .byte, accessFlags := 25, slot := 11, constantValue := 0 }, { name := "ENCLOSING_MARK", type := .byte, accessFlags := 25, slot := 12, constantValue := 0 }, { name := "COMBINING_SPACING_MARK", type := .byte, accessFlags := 25, slot := 13, constantValue := 0 }, { name := "DECIMAL_DIGIT_NUMBER", type := .byte, accessFlags := 25, slot := 14, constantValue := 0 }, { name := "LETTER_NUMBER", type := .byte, accessFlags := 25, slot := 15, constantValue := 0 }, { name := "OTHER_NUMBER", type := .byte, accessFlags := 25, slot := 16, constantValue := 0 }, { name := "SPACE_SEPARATOR", type := .byte, accessFlags := 25, slot := 17, constantValue := 0 }, { name := "LINE_SEPARATOR", type := .byte, accessFlags := 25, slot := 18, constantValue := 0 }, { name := "PARAGRAPH_SEPARATOR", type := .byte, accessFlags := 25, slot := 19, constantValue := 0 }, { name := "CONTROL", type := .byte, accessFlags := 25, slot := 20, constantValue := 0 }, { name := "FORMAT", type := .byte, accessFlags := 25, slot := 21, constantValue := 0 }, { name := "PRIVATE_USE", type := .byte, accessFlags := 25, slot := 22, constantValue := 0 }, { name := "SURROGATE", type := .byte, accessFlags := 25, slot := 23, constantValue := 0 }, { name := "DASH_PUNCTUATION", type := .byte, accessFlags := 25, slot := 24, constantValue := 0 }, { name := "START_PUNCTUATION", type := .byte, accessFlags := 25, slot := 25, constantValue := 0 }, { name := "END_PUNCTUATION", type := .byte, accessFlags := 25, slot := 26, constantValue := 0 }, { name := "CONNECTOR_PUNCTUATION", type := .byte, accessFlags := 25, slot := 27, constantValue := 0 }, { name := "OTHER_PUNCTUATION", type := .byte, accessFlags := 25, slot := 28, constantValue := 0 }, { name := "MATH_SYMBOL", type := .byte, accessFlags := 25, slot := 29, constantValue := 0 }, { name := "CURRENCY_SYMBOL", type := .byte, accessFlags := 25, slot := 30, constantValue := 0 }, { name := "MODIFIER_SYMBOL", type := .byte, accessFlags := 25, slot := 31, constantValue := 0 }, { name := "OTHER_SYMBOL", type := .byte, accessFlags := 25, slot := 32, constantValue := 0 }, { name := "INITIAL_QUOTE_PUNCTUATION", type := .byte, accessFlags := 25, slot := 33, constantValue := 0 }, { name := "FINAL_QUOTE_PUNCTUATION", type := .byte, accessFlags := 25, slot := 34, constantValue := 0 }, { name := "ERROR", type := .int, accessFlags := 24, slot := 35, constantValue := 0 }, { name := "DIRECTIONALITY_UNDEFINED", type := .byte, accessFlags := 25, slot := 36, constantValue := 0 }, { name := "DIRECTIONALITY_LEFT_TO_RIGHT", type := .byte, accessFlags := 25, slot := 37, constantValue := 0 }, { name := "DIRECTIONALITY_RIGHT_TO_LEFT", type := .byte, accessFlags := 25, slot := 38, constantValue := 0 }, { name := "DIRECTIONALITY_RIGHT_TO_LEFT_ARABIC", type := .byte, accessFlags := 25, slot := 39, constantValue := 0 }, { name := "DIRECTIONALITY_EUROPEAN_NUMBER", type := .byte, accessFlags := 25, slot := 40, constantValue := 0 }, { name := "DIRECTIONALITY_EUROPEAN_NUMBER_SEPARATOR", type := .byte, accessFlags := 25, slot := 41, constantValue := 0 }, { name := "DIRECTIONALITY_EUROPEAN_NUMBER_TERMINATOR", type := .byte, accessFlags := 25, slot := 42, constantValue := 0 }, { name := "DIRECTIONALITY_ARABIC_NUMBER", type := .byte, accessFlags := 25, slot := 43, constantValue := 0 }, { name := "DIRECTIONALITY_COMMON_NUMBER_SEPARATOR", type := .byte, accessFlags := 25, slot := 44, constantValue := 0 }, { name := "DIRECTIONALITY_NONSPACING_MARK", type := .byte, accessFlags := 25, slot := 45, constantValue := 0 }, { name := "DIRECTIONALITY_BOUNDARY_NEUTRAL", type := .byte, accessFlags := 25, slot := 46, constantValue := 0 }, { name := "DIRECTIONALITY_PARAGRAPH_SEPARATOR", type := .byte, accessFlags := 25, slot := 47, constantValue := 0 }, { name := "DIRECTIONALITY_SEGMENT_SEPARATOR", type := .byte, accessFlags := 25, slot := 48, constantValue := 0 }, { name := "DIRECTIONALITY_WHITESPACE", type := .byte, accessFlags := 25, slot := 49, constantValue := 0 }, { name := "DIRECTIONALITY_OTHER_NEUTRALS", type := .byte, accessFlags := 25, slot := 50, constantValue := 0 }, { name := "DIRECTIONALITY_LEFT_TO_RIGHT_EMBEDDING", type := .byte, accessFlags := 25, slot := 51, constantValue := 0 }, { name := "DIRECTIONALITY_LEFT_TO_RIGHT_OVERRIDE", type := .byte, accessFlags := 25, slot := 52, constantValue := 0 }, { name := "DIRECTIONALITY_RIGHT_TO_LEFT_EMBEDDING", type := .byte, accessFlags := 25, slot := 53, constantValue := 0 }, { name := "DIRECTIONALITY_RIGHT_TO_LEFT_OVERRIDE", type := .byte, accessFlags := 25, slot := 54, constantValue := 0 }, { name := "DIRECTIONALITY_POP_DIRECTIONAL_FORMAT", type := .byte, accessFlags := 25, slot := 55, constantValue := 0 }, { name := "DIRECTIONALITY_LEFT_TO_RIGHT_ISOLATE", type := .byte, accessFlags := 25, slot := 56, constantValue := 0 }, { name := "DIRECTIONALITY_RIGHT_TO_LEFT_ISOLATE", type := .byte, accessFlags := 25, slot := 57, constantValue := 0 }, { name := "DIRECTIONALITY_FIRST_STRONG_ISOLATE", type := .byte, accessFlags := 25, slot := 58, constantValue := 0 }, { name := "DIRECTIONALITY_POP_DIRECTIONAL_ISOLATE", type := .byte, accessFlags := 25, slot := 59, constantValue := 0 }, { name := "MIN_HIGH_SURROGATE", type := .char, accessFlags := 25, slot := 60, constantValue := 0 }, { name := "MAX_HIGH_SURROGATE", type := .char, accessFlags := 25, slot := 61, constantValue := 0 }, { name := "MIN_LOW_SURROGATE", type := .char, accessFlags := 25, slot := 62, constantValue := 0 }, { name := "MAX_LOW_SURROGATE", type := .char, accessFlags := 25, slot := 63, constantValue := 0 }, { name := "MIN_SURROGATE", type := .char, accessFlags := 25, slot := 64, constantValue := 0 }, { name := "MAX_SURROGATE", type := .char, accessFlags := 25, slot := 65, constantValue := 0 }, { name := "MIN_SUPPLEMENTARY_CODE_POINT", type := .int, accessFlags := 25, slot := 66, constantValue := 0 }, { name := "MIN_CODE_POINT", type := .int, accessFlags := 25, slot := 67, constantValue := 0 }, { name := "MAX_CODE_POINT", type := .int, accessFlags := 25, slot := 68, constantValue := 0 }, { name := "value", type := .char, accessFlags := 18, slot := 0, constantValue := 0 }, { name := "serialVersionUID", type := .long, accessFlags := 26, slot := 69, constantValue := 0 }, { name := "SIZE", type := .int, accessFlags := 25, slot := 70, constantValue := 0 }, { name := "BYTES", type := .int, accessFlags := 25, slot := 71, constantValue := 0 }, { name := "$assertionsDisabled", type := .boolean, accessFlags := 4120, slot := 72, constantValue := 0 }]
  methods := #[k16m0]
  instanceTypes := #[.char]
  staticTypes := #[.int, .int, .char, .char, (.object "java/lang/Class"), .byte, .byte, .byte, .byte, .byte, .byte, .byte, .byte, .byte, .byte, .byte, .byte, .byte, .byte, .byte, .byte, .byte, .byte, .byte, .byte, .byte, .byte, .byte, .byte, .byte, .byte, .byte, .byte, .byte, .byte, .int, .byte, .byte, .byte, .byte, .byte, .byte, .byte, .byte, .byte, .byte, .byte, .byte, .byte, .byte, .byte, .byte, .byte, .byte, .byte, .byte, .byte, .byte, .byte, .byte, .char, .char, .char, .char, .char, .char, .int, .int, .int, .long, .int, .int, .boolean]
  resolved := Array.replicate 604 none
  statics := none }

def pool17 : Array CpInfo := pool [(2, .class_ 4), (1, u "java/lang/Object"), (0, u "<init>"), (0, u "()V"), (1, .class_ 10), (1, u "java/lang/Number"), (2, .class_ 14), (0, u "java/io/Serializable"), (0, u "serialVersionUID"), (0, u "J")] 20

def k17m0 : Method := { name := "<init>", desc := "()V", sig := { parameters := [], returnType := none }, accessFlags := 1, code := none }
/-- java/lang/Number -/
def k17 : Class := { plain "java/lang/Number" (some 0) with
  accessFlags := 1057
  interfaces := #[4]
  cf := some (fileOf pool17 8 #[] #[{ accessFlags := 1, nameIndex := 5, descriptorIndex := 6, attributes := #[] }] 1057 2 #[13] #[{ accessFlags := 26, nameIndex := 15, descriptorIndex := 16, attributes := #[] }])
  fields := #[{ name := "serialVersionUID", type := .long, accessFlags := 26, slot := 0, constantValue := 0 }]
  methods := #[k17m0]
  instanceTypes := #[]
  staticTypes := #[.long]
  resolved := Array.replicate 37 none
  statics := none }

def pool18 : Array CpInfo := pool [(1, .class_ 2), (0, u "java/lang/Integer"), (16, u "digits"), (0, u "[C"), (39, u "(II)I"), (24, u "DigitOnes"), (0, u "[B"), (2, u "DigitTens"), (99, .class_ 190), (0, u "java/lang/Integer$IntegerCache"), (3, u "I"), (8, .class_ 204), (0, u "java/lang/Number"), (2, u "value"), (53, u "compare"), (40, u "TYPE"), (0, u "Ljava/lang/Class;"), (0, .class_ 305), (0, u "java/lang/Comparable"), (0, .class_ 307), (0, u "java/lang/constant/Constable"), (0, .class_ 309), (0, u "java/lang/constant/ConstantDesc"), (0, u "MIN_VALUE"), (1, u "MAX_VALUE"), (3, u "SIZE"), (1, u "BYTES"), (1, u "serialVersionUID"), (0, u "J")] 131

def k18c0 : Code := { maxStack := 2, maxLocals := 2, code := jdk_33_method_40_code, exceptionTable := #[], attributes := #[] }
def k18m0 : Method := { name := "compare", desc := "(II)I", sig := { parameters := [.int, .int], returnType := some .int }, accessFlags := 9, code := some k18c0 }
/-- java/lang/Integer -/
def k18 : Class := { plain "java/lang/Integer" (some 17) with
  accessFlags := 49
  interfaces := #[3, 2, 8]
  cf := some (fileOf pool18 1 #[.nestMembers #[189]] #[{ accessFlags := 9, nameIndex := 261, descriptorIndex := 60, attributes := #[] }] 49 203 #[304, 306, 308] #[{ accessFlags := 25, nameIndex := 310, descriptorIndex := 194, attributes := #[] }, { accessFlags := 25, nameIndex := 312, descriptorIndex := 194, attributes := #[] }, { accessFlags := 25, nameIndex := 302, descriptorIndex := 303, attributes := #[] }, { accessFlags := 24, nameIndex := 19, descriptorIndex := 20, attributes := #[] }, { accessFlags := 24, nameIndex := 89, descriptorIndex := 86, attributes := #[] }, { accessFlags := 24, nameIndex := 85, descriptorIndex := 86, attributes := #[] }, { accessFlags := 18, nameIndex := 207, descriptorIndex := 194, attributes := #[] }, { accessFlags := 25, nameIndex := 316, descriptorIndex := 194, attributes := #[] }, { accessFlags := 25, nameIndex := 318, descriptorIndex := 194, attributes := #[] }, { accessFlags := 26, nameIndex := 320, descriptorIndex := 321, attributes := #[] }])
  fields := #[{ name := "MIN_VALUE", type := .int, accessFlags := 25, slot := 0, constantValue := 0 }, { name := "MAX_VALUE", type := .int, accessFlags := 25, slot := 1, constantValue := 0 }, { name := "TYPE", type := (.object "java/lang/Class"), accessFlags := 25, slot := 2, constantValue := 0 }, { name := "digits", type := (.array .char), accessFlags := 24, slot := 3, constantValue := 0 }, { name := "DigitTens", type := (.array .byte), accessFlags := 24, slot := 4, constantValue := 0 }, { name := "DigitOnes", type := (.array .byte), accessFlags := 24, slot := 5, constantValue := 0 }, { name := "value", type := .int, accessFlags := 18, slot := 0, constantValue := 0 }, { name := "SIZE", type := .int, accessFlags := 25, slot := 6, constantValue := 0 }, { name := "BYTES", type := .int, accessFlags := 25, slot := 7, constantValue := 0 }, { name := "serialVersionUID", type := .long, accessFlags := 26, slot := 8, constantValue := 0 }]
  methods := #[k18m0]
  instanceTypes := #[.int]
  staticTypes := #[.int, .int, (.object "java/lang/Class"), (.array .char), (.array .byte), (.array .byte), .int, .int, .long]
  resolved := Array.replicate 453 none
  statics := none }

def pool19 : Array CpInfo := pool [(9, u "<init>"), (6, .class_ 18), (1, u "java/lang/Object"), (0, u "()V"), (1, .class_ 23), (1, u "jdk/internal/util/ArraysSupport"), (0, u "LOG2_ARRAY_LONG_INDEX_SCALE"), (0, u "I"), (2, u "U"), (0, u "Ljdk/internal/misc/Unsafe;"), (8, u "BIG_ENDIAN"), (0, u "Z"), (8, u "LOG2_BYTE_BIT_SIZE"), (4, u "LOG2_ARRAY_INT_INDEX_SCALE"), (54, u "JLA"), (0, u "Ljdk/internal/access/JavaLangAccess;"), (11, u "LOG2_ARRAY_BOOLEAN_INDEX_SCALE"), (9, u "LOG2_ARRAY_BYTE_INDEX_SCALE"), (5, u "LOG2_ARRAY_CHAR_INDEX_SCALE"), (5, u "LOG2_ARRAY_SHORT_INDEX_SCALE"), (18, u "LOG2_ARRAY_FLOAT_INDEX_SCALE"), (24, u "LOG2_ARRAY_DOUBLE_INDEX_SCALE"), (89, u "T_BOOLEAN"), (2, u "T_CHAR"), (1, u "T_FLOAT"), (1, u "T_DOUBLE"), (1, u "T_BYTE"), (1, u "T_SHORT"), (1, u "T_INT"), (1, u "T_LONG"), (1, u "SOFT_MAX_ARRAY_LENGTH")] 83

def k19m0 : Method := { name := "<init>", desc := "()V", sig := { parameters := [], returnType := none }, accessFlags := 2, code := none }
/-- jdk/internal/util/ArraysSupport -/
def k19 : Class := { plain "jdk/internal/util/ArraysSupport" (some 0) with
  accessFlags := 33
  interfaces := #[]
  cf := some (fileOf pool19 21 #[] #[{ accessFlags := 2, nameIndex := 9, descriptorIndex := 19, attributes := #[] }] 33 16 #[] #[{ accessFlags := 24, nameIndex := 28, descriptorIndex := 29, attributes := #[] }, { accessFlags := 26, nameIndex := 38, descriptorIndex := 39, attributes := #[] }, { accessFlags := 25, nameIndex := 121, descriptorIndex := 25, attributes := #[] }, { accessFlags := 25, nameIndex := 131, descriptorIndex := 25, attributes := #[] }, { accessFlags := 25, nameIndex := 137, descriptorIndex := 25, attributes := #[] }, { accessFlags := 25, nameIndex := 143, descriptorIndex := 25, attributes := #[] }, { accessFlags := 25, nameIndex := 53, descriptorIndex := 25, attributes := #[] }, { accessFlags := 25, nameIndex := 24, descriptorIndex := 25, attributes := #[] }, { accessFlags := 25, nameIndex := 162, descriptorIndex := 25, attributes := #[] }, { accessFlags := 25, nameIndex := 187, descriptorIndex := 25, attributes := #[] }, { accessFlags := 26, nameIndex := 48, descriptorIndex := 25, attributes := #[] }, { accessFlags := 25, nameIndex := 277, descriptorIndex := 25, attributes := #[] }, { accessFlags := 25, nameIndex := 280, descriptorIndex := 25, attributes := #[] }, { accessFlags := 25, nameIndex := 282, descriptorIndex := 25, attributes := #[] }, { accessFlags := 25, nameIndex := 284, descriptorIndex := 25, attributes := #[] }, { accessFlags := 25, nameIndex := 286, descriptorIndex := 25, attributes := #[] }, { accessFlags := 25, nameIndex := 288, descriptorIndex := 25, attributes := #[] }, { accessFlags := 25, nameIndex := 290, descriptorIndex := 25, attributes := #[] }, { accessFlags := 25, nameIndex := 292, descriptorIndex := 25, attributes := #[] }, { accessFlags := 26, nameIndex := 108, descriptorIndex := 109, attributes := #[] }, { accessFlags := 25, nameIndex := 294, descriptorIndex := 25, attributes := #[] }])
  fields := #[{ name := "U", type := (.object "jdk/internal/misc/Unsafe"), accessFlags := 24, slot := 0, constantValue := 0 }, { name := "BIG_ENDIAN", type := .boolean, accessFlags := 26, slot := 1, constantValue := 0 }, { name := "LOG2_ARRAY_BOOLEAN_INDEX_SCALE", type := .int, accessFlags := 25, slot := 2, constantValue := 0 }, { name := "LOG2_ARRAY_BYTE_INDEX_SCALE", type := .int, accessFlags := 25, slot := 3, constantValue := 0 }, { name := "LOG2_ARRAY_CHAR_INDEX_SCALE", type := .int, accessFlags := 25, slot := 4, constantValue := 0 }, { name := "LOG2_ARRAY_SHORT_INDEX_SCALE", type := .int, accessFlags := 25, slot := 5, constantValue := 0 }, { name := "LOG2_ARRAY_INT_INDEX_SCALE", type := .int, accessFlags := 25, slot := 6, constantValue := 0 }, { name := "LOG2_ARRAY_LONG_INDEX_SCALE", type := .int, accessFlags := 25, slot := 7, constantValue := 0 }, { name := "LOG2_ARRAY_FLOAT_INDEX_SCALE", type := .int, accessFlags := 25, slot := 8, constantValue := 0 }, { name := "LOG2_ARRAY_DOUBLE_INDEX_SCALE", type := .int, accessFlags := 25, slot := 9, constantValue := 0 }, { name := "LOG2_BYTE_BIT_SIZE", type := .int, accessFlags := 26, slot := 10, constantValue := 0 }, { name := "T_BOOLEAN", type := .int, accessFlags := 25, slot := 11, constantValue := 0 }, { name := "T_CHAR", type := .int, accessFlags := 25, slot := 12, constantValue := 0 }, { name := "T_FLOAT", type := .int, accessFlags := 25, slot := 13, constantValue := 0 }, { name := "T_DOUBLE", type := .int, accessFlags := 25, slot := 14, constantValue := 0 }, { name := "T_BYTE", type := .int, accessFlags := 25, slot := 15, constantValue := 0 }, { name := "T_SHORT", type := .int, accessFlags := 25, slot := 16, constantValue := 0 }, { name := "T_INT", type := .int, accessFlags := 25, slot := 17, constantValue := 0 }, { name := "T_LONG", type := .int, accessFlags := 25, slot := 18, constantValue := 0 }, { name := "JLA", type := (.object "jdk/internal/access/JavaLangAccess"), accessFlags := 26, slot := 19, constantValue := 0 }, { name := "SOFT_MAX_ARRAY_LENGTH", type := .int, accessFlags := 25, slot := 20, constantValue := 0 }]
  methods := #[k19m0]
  instanceTypes := #[]
  staticTypes := #[(.object "jdk/internal/misc/Unsafe"), .boolean, .int, .int, .int, .int, .int, .int, .int, .int, .int, .int, .int, .int, .int, .int, .int, .int, .int, (.object "jdk/internal/access/JavaLangAccess"), .int]
  resolved := Array.replicate 378 none
  statics := none }

def pool20 : Array CpInfo := pool [(1, u "java/lang/Cloneable"), (0, .class_ 1), (0, u "java/lang/Object"), (0, .class_ 3)] 3

/-- java/lang/Cloneable -/
def k20 : Class := { plain "java/lang/Cloneable" (some 0) with
  accessFlags := 1537
  interfaces := #[]
  cf := some (fileOf pool20 2 #[] #[] 1537 4 #[] #[])
  fields := #[]
  methods := #[]
  instanceTypes := #[]
  staticTypes := #[]
  resolved := Array.replicate 8 none
  statics := none }

/-- the primitive byte -/
def k21 : Class := { plain "byte" none with kind := .primitive 'B', accessFlags := 0x411 }
/-- [B -/
def k22 : Class := { plain "[B" (some 0) with kind := .array 21 .byte, interfaces := #[20, 4], accessFlags := 1041 }

/-- the primitive int -/
def k23 : Class := { plain "int" none with kind := .primitive 'I', accessFlags := 0x411 }
/-- [I -/
def k24 : Class := { plain "[I" (some 0) with kind := .array 23 .int, interfaces := #[20, 4], accessFlags := 1041 }

def heap : Heap := #[{ cls := 6, slots := #[.ref 4, .ref 5, .null], vm := .statics 6 },
  { cls := 9, slots := #[.long 0, .int 1, .null, .int 0, .null, .int 0, .int 0], vm := .statics 9 },
  { cls := 13, slots := #[.ref 6], vm := .statics 13 },
  { cls := 15, slots := #[.null, .null, .null], vm := .statics 15 },
  { cls := 6, slots := #[.null, .int 0, .int 0], vm := .none },
  { cls := 6, slots := #[.null, .int 1, .int 0], vm := .none },
  { cls := 13, slots := #[], vm := .none }]
def classes : Array Class := #[k0, k1, k2, k3, k4, k5, k6, k7, k8, k9, k10, k11, k12, k13, k14, k15, k16, k17, k18, k19, k20, k21, k22, k23, k24]
def interned : List (Array UInt16 × Addr) := []
def slotsUsed : Nat := 20
def theMethod : MethodId := ⟨1, 1⟩
def args0 : Array Value := #[.long 5, .long 6, .long 7, .int 3]
def aboutOver (below : List Frame) : State where
  vm := { classes := classes, interned := interned.toArray }
  heap := heap
  slotsUsed := slotsUsed
  threads := #[{ frames := .invoking theMethod args0 :: below }]
def below0 : List Frame := [.native { method := ⟨0, 0⟩, args := #[] }]
def about1 : State := aboutOver below0
def p0 : Program := .bare "" "" ""
def e0 : Env := launch0.env 0 0 0
theorem w_frames : about1.frames = Frame.invoking theMethod args0 :: below0 := rfl
set_option maxRecDepth 65536 in
theorem w_args : argsFit about1.vm theMethod args0 = true := by decide +kernel
set_option maxRecDepth 65536 in
theorem w_heap : heapFits about1 = true := by decide +kernel
set_option maxRecDepth 65536 in
theorem w_runnable : about1.curStatus? = some .runnable := by decide +kernel
set_option maxRecDepth 65536 in
theorem w_alone : about1.alone = true := by decide +kernel
set_option maxRecDepth 65536 in
theorem w_named : about1.methodNamed? x = some theMethod := by decide +kernel
set_option maxRecDepth 65536 in
theorem w_hears : about1.hears theMethod below0 = true := by decide +kernel
set_option maxRecDepth 65536 in
theorem w_ripe : about1.ripe theMethod args0 below0 = true := by decide +kernel
theorem w_running : about1.status = .running := rfl
set_option maxRecDepth 65536 in
theorem w_room : about1.hasRoom e0.platform room_1 = true :=
  launch0.hasRoom_least _ room_1 (by decide +kernel) (by decide +kernel) (by decide +kernel) (by decide +kernel) (by decide +kernel) (by decide +kernel)
theorem allAtoms_all (ts : List Jvm.Cond) (a : Array Jvm.Value) (st : Jvm.State) : (allAtoms ts).before a st = ts.all (fun c => c.before a st) := by
  induction ts with
  | nil => rfl
  | cons c t ih =>
    show (Jvm.Cond.and c (allAtoms t)).before a st = _
    rw [Jvm.Cond.before_and, ih, List.all_cons]
def words1 : List Jvm.Cond := Jvm.Cond.code x code maxLocals ret :: tables_1
/-- a 'code' word, met by the world's own term for the bytes: nothing is compared byte by byte -/
theorem code_word {y : MethodName} {bytes : ByteArray} {mx : Nat} {rt : Option FieldType} {a : Array Value} {s : State} {m : MethodId} {meth : Method} {c : Code} (h1 : s.methodNamed? y = some m) (h2 : s.vm.method? m = some meth) (h3 : meth.code = some c) (h4 : c.code = bytes)
    (h5 : (c.maxLocals == mx && c.exceptionTable.isEmpty && decide (c.maxStack ≤ mostOperands) && decide (meth.sig.returnType = rt) && !meth.locks && decide (parseMethodDescriptor y.desc = some meth.sig)) = true) : (Jvm.Cond.code y bytes mx rt).before a s = true := by
  simp only [Bool.and_eq_true, beq_iff_eq, Bool.not_eq_true', decide_eq_true_eq] at h5
  obtain ⟨⟨⟨⟨⟨g1, g2⟩, g3⟩, g4⟩, g5⟩, g6⟩ := h5
  simp [Cond.before, Cond.holds, Cond.value, h1, h2, h3, h4, g1, g2, g3, g4, g5, g6]
def isCode : Jvm.Cond → Bool
  | .code _ _ _ _ => true
  | _ => false
theorem all_split {L : List Jvm.Cond} {P : Jvm.Cond → Bool} (h1 : L.all (fun c => isCode c || P c) = true) (h2 : ∀ c ∈ L.filter isCode, P c = true) : L.all P = true := by
  refine List.all_eq_true.mpr fun c hc => ?_
  have h := List.all_eq_true.mp h1 c hc
  rcases Bool.eq_false_or_eq_true (isCode c) with hi | hi
  · exact h2 c (List.mem_filter.mpr ⟨hc, hi⟩)
  · simpa [hi] using h
set_option maxRecDepth 65536 in
theorem w_c0 : (Jvm.Cond.code x code maxLocals ret).before args0 about1 = true := code_word (m := ⟨1, 1⟩) (meth := k1m1) (c := k1c1) (by decide +kernel) rfl rfl rfl (by decide +kernel)
set_option maxRecDepth 65536 in
theorem w_c1 : (Jvm.Cond.code ({ cls := "java/lang/String", name := "valueOf", desc := "(C)Ljava/lang/String;" } : Jvm.MethodName) jdk_42_method_139_code (1 : Nat) (Option.some (Jvm.ClassFile.FieldType.object "java/lang/String"))).before args0 about1 = true := code_word (m := ⟨9, 3⟩) (meth := k9m3) (c := k9c3) (by decide +kernel) rfl rfl rfl (by decide +kernel)
set_option maxRecDepth 65536 in
theorem w_c2 : (Jvm.Cond.code ({ cls := "java/lang/StringLatin1", name := "canEncode", desc := "(C)Z" } : Jvm.MethodName) jdk_43_method_3_code (1 : Nat) (Option.some Jvm.ClassFile.FieldType.boolean)).before args0 about1 = true := code_word (m := ⟨10, 1⟩) (meth := k10m1) (c := k10c1) (by decide +kernel) rfl rfl rfl (by decide +kernel)
set_option maxRecDepth 65536 in
theorem w_c3 : (Jvm.Cond.code ({ cls := "java/lang/StringLatin1", name := "toBytes", desc := "(C)[B" } : Jvm.MethodName) jdk_43_method_46_code (1 : Nat) (Option.some (Jvm.ClassFile.FieldType.array Jvm.ClassFile.FieldType.byte))).before args0 about1 = true := code_word (m := ⟨10, 2⟩) (meth := k10m2) (c := k10c2) (by decide +kernel) rfl rfl rfl (by decide +kernel)
set_option maxRecDepth 65536 in
theorem w_c4 : (Jvm.Cond.code ({ cls := "java/lang/String", name := "<init>", desc := "([BB)V" } : Jvm.MethodName) jdk_42_method_151_code (3 : Nat) (Option.none : Option Jvm.ClassFile.FieldType)).before args0 about1 = true := code_word (m := ⟨9, 4⟩) (meth := k9m4) (c := k9c4) (by decide +kernel) rfl rfl rfl (by decide +kernel)
set_option maxRecDepth 65536 in
theorem w_c5 : (Jvm.Cond.code ({ cls := "java/lang/Object", name := "<init>", desc := "()V" } : Jvm.MethodName) object_method_1_code (1 : Nat) (Option.none : Option Jvm.ClassFile.FieldType)).before args0 about1 = true := code_word (m := ⟨0, 0⟩) (meth := k0m0) (c := k0c0) (by decide +kernel) rfl rfl rfl (by decide +kernel)
set_option maxRecDepth 65536 in
theorem w_c6 : (Jvm.Cond.code ({ cls := "com/example/huntaway/huntaway/Precedence", name := "<init>", desc := "()V" } : Jvm.MethodName) prog_9_method_1_code (1 : Nat) (Option.none : Option Jvm.ClassFile.FieldType)).before args0 about1 = true := code_word (m := ⟨11, 0⟩) (meth := k11m0) (c := k11c0) (by decide +kernel) rfl rfl rfl (by decide +kernel)
set_option maxRecDepth 65536 in
theorem w_c7 : (Jvm.Cond.code ({ cls := "com/example/huntaway/huntaway/Precedence", name := "couldCount", desc := "(J)Z" } : Jvm.MethodName) prog_9_method_2_code (3 : Nat) (Option.some Jvm.ClassFile.FieldType.boolean)).before args0 about1 = true := code_word (m := ⟨11, 1⟩) (meth := k11m1) (c := k11c1) (by decide +kernel) rfl rfl rfl (by decide +kernel)
set_option maxRecDepth 65536 in
theorem w_c8 : (Jvm.Cond.code ({ cls := "com/example/huntaway/huntaway/Precedence", name := "offer", desc := "(Lcom/example/huntaway/huntaway/Effect;JLjava/lang/String;)V" } : Jvm.MethodName) prog_9_method_3_code (5 : Nat) (Option.none : Option Jvm.ClassFile.FieldType)).before args0 about1 = true := code_word (m := ⟨11, 2⟩) (meth := k11m2) (c := k11c2) (by decide +kernel) rfl rfl rfl (by decide +kernel)
set_option maxRecDepth 65536 in
theorem w_c9 : (Jvm.Cond.code ({ cls := "com/example/huntaway/huntaway/CodePointOrder", name := "min", desc := "(Ljava/lang/String;Ljava/lang/String;)Ljava/lang/String;" } : Jvm.MethodName) prog_1_method_3_code (2 : Nat) (Option.some (Jvm.ClassFile.FieldType.object "java/lang/String"))).before args0 about1 = true := code_word (m := ⟨13, 2⟩) (meth := k13m2) (c := k13c2) (by decide +kernel) rfl rfl rfl (by decide +kernel)
set_option maxRecDepth 65536 in
theorem w_c10 : (Jvm.Cond.code ({ cls := "java/lang/Math", name := "max", desc := "(JJ)J" } : Jvm.MethodName) jdk_29_method_66_code (4 : Nat) (Option.some Jvm.ClassFile.FieldType.long)).before args0 about1 = true := code_word (m := ⟨14, 1⟩) (meth := k14m1) (c := k14c1) (by decide +kernel) rfl rfl rfl (by decide +kernel)
set_option maxRecDepth 65536 in
theorem w_c11 : (Jvm.Cond.code ({ cls := "com/example/huntaway/huntaway/CodePointOrder", name := "compare", desc := "(Ljava/lang/String;Ljava/lang/String;)I" } : Jvm.MethodName) prog_1_method_2_code (7 : Nat) (Option.some Jvm.ClassFile.FieldType.int)).before args0 about1 = true := code_word (m := ⟨13, 1⟩) (meth := k13m1) (c := k13c1) (by decide +kernel) rfl rfl rfl (by decide +kernel)
set_option maxRecDepth 65536 in
theorem w_c12 : (Jvm.Cond.code ({ cls := "java/lang/String", name := "length", desc := "()I" } : Jvm.MethodName) jdk_42_method_54_code (1 : Nat) (Option.some Jvm.ClassFile.FieldType.int)).before args0 about1 = true := code_word (m := ⟨9, 1⟩) (meth := k9m1) (c := k9c1) (by decide +kernel) rfl rfl rfl (by decide +kernel)
set_option maxRecDepth 65536 in
theorem w_c13 : (Jvm.Cond.code ({ cls := "java/lang/String", name := "coder", desc := "()B" } : Jvm.MethodName) jdk_42_method_152_code (1 : Nat) (Option.some Jvm.ClassFile.FieldType.byte)).before args0 about1 = true := code_word (m := ⟨9, 5⟩) (meth := k9m5) (c := k9c5) (by decide +kernel) rfl rfl rfl (by decide +kernel)
set_option maxRecDepth 65536 in
theorem w_c14 : (Jvm.Cond.code ({ cls := "java/lang/String", name := "codePointAt", desc := "(I)I" } : Jvm.MethodName) jdk_42_method_57_code (3 : Nat) (Option.some Jvm.ClassFile.FieldType.int)).before args0 about1 = true := code_word (m := ⟨9, 2⟩) (meth := k9m2) (c := k9c2) (by decide +kernel) rfl rfl rfl (by decide +kernel)
set_option maxRecDepth 65536 in
theorem w_c15 : (Jvm.Cond.code ({ cls := "java/lang/String", name := "isLatin1", desc := "()Z" } : Jvm.MethodName) jdk_42_method_154_code (1 : Nat) (Option.some Jvm.ClassFile.FieldType.boolean)).before args0 about1 = true := code_word (m := ⟨9, 6⟩) (meth := k9m6) (c := k9c6) (by decide +kernel) rfl rfl rfl (by decide +kernel)
set_option maxRecDepth 65536 in
theorem w_c16 : (Jvm.Cond.code ({ cls := "java/lang/String", name := "checkIndex", desc := "(II)V" } : Jvm.MethodName) jdk_42_method_155_code (2 : Nat) (Option.none : Option Jvm.ClassFile.FieldType)).before args0 about1 = true := code_word (m := ⟨9, 7⟩) (meth := k9m7) (c := k9c7) (by decide +kernel) rfl rfl rfl (by decide +kernel)
set_option maxRecDepth 65536 in
theorem w_c17 : (Jvm.Cond.code ({ cls := "jdk/internal/util/Preconditions", name := "checkIndex", desc := "(IILjava/util/function/BiFunction;)I" } : Jvm.MethodName) jdk_41_method_11_code (3 : Nat) (Option.some Jvm.ClassFile.FieldType.int)).before args0 about1 = true := code_word (m := ⟨15, 1⟩) (meth := k15m1) (c := k15c1) (by decide +kernel) rfl rfl rfl (by decide +kernel)
set_option maxRecDepth 65536 in
theorem w_c18 : (Jvm.Cond.code ({ cls := "java/lang/Character", name := "charCount", desc := "(I)I" } : Jvm.MethodName) jdk_89_method_18_code (1 : Nat) (Option.some Jvm.ClassFile.FieldType.int)).before args0 about1 = true := code_word (m := ⟨16, 0⟩) (meth := k16m0) (c := k16c0) (by decide +kernel) rfl rfl rfl (by decide +kernel)
set_option maxRecDepth 65536 in
theorem w_c19 : (Jvm.Cond.code ({ cls := "java/lang/Integer", name := "compare", desc := "(II)I" } : Jvm.MethodName) jdk_33_method_40_code (2 : Nat) (Option.some Jvm.ClassFile.FieldType.int)).before args0 about1 = true := code_word (m := ⟨18, 0⟩) (meth := k18m0) (c := k18c0) (by decide +kernel) rfl rfl rfl (by decide +kernel)
def codes1 : List Jvm.Cond := [Jvm.Cond.code x code maxLocals ret, Jvm.Cond.code ({ cls := "java/lang/String", name := "valueOf", desc := "(C)Ljava/lang/String;" } : Jvm.MethodName) jdk_42_method_139_code (1 : Nat) (Option.some (Jvm.ClassFile.FieldType.object "java/lang/String")), Jvm.Cond.code ({ cls := "java/lang/StringLatin1", name := "canEncode", desc := "(C)Z" } : Jvm.MethodName) jdk_43_method_3_code (1 : Nat) (Option.some Jvm.ClassFile.FieldType.boolean), Jvm.Cond.code ({ cls := "java/lang/StringLatin1", name := "toBytes", desc := "(C)[B" } : Jvm.MethodName) jdk_43_method_46_code (1 : Nat) (Option.some (Jvm.ClassFile.FieldType.array Jvm.ClassFile.FieldType.byte)), Jvm.Cond.code ({ cls := "java/lang/String", name := "<init>", desc := "([BB)V" } : Jvm.MethodName) jdk_42_method_151_code (3 : Nat) (Option.none : Option Jvm.ClassFile.FieldType), Jvm.Cond.code ({ cls := "java/lang/Object", name := "<init>", desc := "()V" } : Jvm.MethodName) object_method_1_code (1 : Nat) (Option.none : Option Jvm.ClassFile.FieldType), Jvm.Cond.code ({ cls := "com/example/huntaway/huntaway/Precedence", name := "<init>", desc := "()V" } : Jvm.MethodName) prog_9_method_1_code (1 : Nat) (Option.none : Option Jvm.ClassFile.FieldType), Jvm.Cond.code ({ cls := "com/example/huntaway/huntaway/Precedence", name := "couldCount", desc := "(J)Z" } : Jvm.MethodName) prog_9_method_2_code (3 : Nat) (Option.some Jvm.ClassFile.FieldType.boolean), Jvm.Cond.code ({ cls := "com/example/huntaway/huntaway/Precedence", name := "offer", desc := "(Lcom/example/huntaway/huntaway/Effect;JLjava/lang/String;)V" } : Jvm.MethodName) prog_9_method_3_code (5 : Nat) (Option.none : Option Jvm.ClassFile.FieldType), Jvm.Cond.code ({ cls := "com/example/huntaway/huntaway/CodePointOrder", name := "min", desc := "(Ljava/lang/String;Ljava/lang/String;)Ljava/lang/String;" } : Jvm.MethodName) prog_1_method_3_code (2 : Nat) (Option.some (Jvm.ClassFile.FieldType.object "java/lang/String")), Jvm.Cond.code ({ cls := "java/lang/Math", name := "max", desc := "(JJ)J" } : Jvm.MethodName) jdk_29_method_66_code (4 : Nat) (Option.some Jvm.ClassFile.FieldType.long), Jvm.Cond.code ({ cls := "com/example/huntaway/huntaway/CodePointOrder", name := "compare", desc := "(Ljava/lang/String;Ljava/lang/String;)I" } : Jvm.MethodName) prog_1_method_2_code (7 : Nat) (Option.some Jvm.ClassFile.FieldType.int), Jvm.Cond.code ({ cls := "java/lang/String", name := "length", desc := "()I" } : Jvm.MethodName) jdk_42_method_54_code (1 : Nat) (Option.some Jvm.ClassFile.FieldType.int), Jvm.Cond.code ({ cls := "java/lang/String", name := "coder", desc := "()B" } : Jvm.MethodName) jdk_42_method_152_code (1 : Nat) (Option.some Jvm.ClassFile.FieldType.byte), Jvm.Cond.code ({ cls := "java/lang/String", name := "codePointAt", desc := "(I)I" } : Jvm.MethodName) jdk_42_method_57_code (3 : Nat) (Option.some Jvm.ClassFile.FieldType.int), Jvm.Cond.code ({ cls := "java/lang/String", name := "isLatin1", desc := "()Z" } : Jvm.MethodName) jdk_42_method_154_code (1 : Nat) (Option.some Jvm.ClassFile.FieldType.boolean), Jvm.Cond.code ({ cls := "java/lang/String", name := "checkIndex", desc := "(II)V" } : Jvm.MethodName) jdk_42_method_155_code (2 : Nat) (Option.none : Option Jvm.ClassFile.FieldType), Jvm.Cond.code ({ cls := "jdk/internal/util/Preconditions", name := "checkIndex", desc := "(IILjava/util/function/BiFunction;)I" } : Jvm.MethodName) jdk_41_method_11_code (3 : Nat) (Option.some Jvm.ClassFile.FieldType.int), Jvm.Cond.code ({ cls := "java/lang/Character", name := "charCount", desc := "(I)I" } : Jvm.MethodName) jdk_89_method_18_code (1 : Nat) (Option.some Jvm.ClassFile.FieldType.int), Jvm.Cond.code ({ cls := "java/lang/Integer", name := "compare", desc := "(II)I" } : Jvm.MethodName) jdk_33_method_40_code (2 : Nat) (Option.some Jvm.ClassFile.FieldType.int)]
set_option maxRecDepth 65536 in
theorem codes_eq : words1.filter isCode = codes1 := rfl
theorem w_codes : ∀ c ∈ words1.filter isCode, c.before args0 about1 = true := by
  rw [codes_eq]
  intro c hc
  simp only [codes1, List.mem_cons, List.not_mem_nil, or_false] at hc
  rcases hc with rfl | rfl | rfl | rfl | rfl | rfl | rfl | rfl | rfl | rfl | rfl | rfl | rfl | rfl | rfl | rfl | rfl | rfl | rfl | rfl
  · exact w_c0
  · exact w_c1
  · exact w_c2
  · exact w_c3
  · exact w_c4
  · exact w_c5
  · exact w_c6
  · exact w_c7
  · exact w_c8
  · exact w_c9
  · exact w_c10
  · exact w_c11
  · exact w_c12
  · exact w_c13
  · exact w_c14
  · exact w_c15
  · exact w_c16
  · exact w_c17
  · exact w_c18
  · exact w_c19
set_option maxRecDepth 65536 in
theorem w_t1 : (words1.take 24).all (fun c => isCode c || c.before args0 about1) = true := by decide +kernel
set_option maxRecDepth 65536 in
theorem w_t2 : ((words1.drop 24).take 24).all (fun c => isCode c || c.before args0 about1) = true := by decide +kernel
set_option maxRecDepth 65536 in
theorem w_t3 : (((words1.drop 24).drop 24).take 24).all (fun c => isCode c || c.before args0 about1) = true := by decide +kernel
set_option maxRecDepth 65536 in
theorem w_t4 : ((((words1.drop 24).drop 24).drop 24).take 24).all (fun c => isCode c || c.before args0 about1) = true := by decide +kernel
set_option maxRecDepth 65536 in
theorem w_t5 : ((((words1.drop 24).drop 24).drop 24).drop 24).all (fun c => isCode c || c.before args0 about1) = true := by decide +kernel
theorem w_tables : (allAtoms (Jvm.Cond.code x code maxLocals ret :: tables_1)).before args0 about1 = true := by
  rw [allAtoms_all]
  show words1.all (fun c => c.before args0 about1) = true
  refine all_split ?_ w_codes
  rw [← List.take_append_drop 24 words1, List.all_append, w_t1, ← List.take_append_drop 24 (words1.drop 24), List.all_append, w_t2, ← List.take_append_drop 24 ((words1.drop 24).drop 24), List.all_append, w_t3, ← List.take_append_drop 24 (((words1.drop 24).drop 24).drop 24), List.all_append, w_t4, w_t5]
  rfl
set_option maxRecDepth 65536 in
theorem w_rest : rest_1_c.before args0 about1 = true := by decide +kernel
set_option maxRecDepth 65536 in
theorem w_case : (Jvm.Cond.and given_1 narrow_1).before args0 about1 = true := by decide +kernel
theorem w_applies : (headSpec (Jvm.Cond.code x code maxLocals ret :: tables_1) room_1).applies x e0.platform about1 = true :=
  (Spec.applies_iff w_frames).mpr ⟨w_running, w_runnable, w_alone, w_named, w_hears, w_ripe, w_room, w_tables⟩
theorem atStart : AtStart classFile x code maxLocals ret World_1 tables_1 room_1 Calls_1 rest_1 Pre_1 launch0 p0 e0 about1 theMethod args0 below0 :=
  ⟨lists_1, trivial, launch0.admits_env _ _ _, launch0.least_env, fairChoices_fair.cas, fairChoices_fair.clock, w_frames, w_args, w_heap, w_applies, trivial, w_rest, w_case⟩
end start1
theorem witness_1 : WitnessClaimed_1 := ⟨start1.p0, start1.e0, start1.about1, start1.theMethod, start1.args0, start1.below0, start1.atStart⟩
end Jvm.Pilot.@@N@@
