import JvmDerived
import JvmDerived.Pilot.@@N@@Statement
import JvmDerived.Pilot.@@N@@Code
set_option linter.unusedVariables false
set_option linter.unusedSimpArgs false
namespace Jvm.Pilot.@@N@@
open Jvm Jvm.ClassFile Sem Op Lib Jvm.Free Jvm.Stand Jvm.LawKit Jvm.RoadKit Bundle Jvm.Pilot.@@N@@.Jvm.D
/-- whatever is reached from v is reached from u -/
abbrev To (tb : Tables) (e : Env) (below : List Frame) (u v : State) : Prop := ∀ t, Steps tb e below v t → Steps tb e below u t
/-- a body's contract: called with as' over the heap h0 it returns, and Q holds of what it returns, of the heap and of the places written -/
abbrev Con (l : Launch) (Z : State) (y : MethodName) (bs : ByteArray) (ml : Nat) (rt : Option FieldType) (ws : List Jvm.Cond) (R : Room) (as' : Array Value) (h0 : Heap) (Q : Option Value → Heap → List Loc → Prop) : Prop :=
  MetFree l y (head1 (Jvm.Cond.code y bs ml rt :: ws) R) (fun a U => a = as' ∧ Z.Warmed39 U.vm ∧ U.heap = h0) (fun _ _ _ _ _ => True) (fun _ U o U' => ∃ v L, o = .returned v ∧ Q v U'.heap L ∧ FrameEnd U o U' L R.cells R.slots)
/-- the walk from S0 has ended well -/
def Fin (p : Program) (e : Env) (below : List Frame) (s : State) (R : Room) (S0 : State) (Q : Option Value → Heap → List Loc → Prop) : Prop :=
  ∃ s₂ o, Steps p.tables e below S0 s₂ ∧ s₂.status = .running ∧ Ended s₂ below o ∧ ∃ v L, o = .returned v ∧ Q v s₂.heap L ∧ FrameEnd s o s₂ L R.cells R.slots
def slotsOf : List Value → List Slot
  | [] => []
  | v :: r => if v.category = 2 then .val v :: .second :: slotsOf r else .val v :: slotsOf r
theorem foldl_slots (L : List Value) : ∀ acc : Array Slot, L.foldl (fun acc v => if v.category = 2 then (acc.push (Slot.val v)).push Slot.second else acc.push (Slot.val v)) acc = acc ++ (slotsOf L).toArray := by
  induction L with
  | nil => intro acc; simp [slotsOf]
  | cons v r ih =>
    intro acc
    rw [List.foldl_cons, ih]
    by_cases h : v.category = 2
    · simp [slotsOf, h]
    · simp [slotsOf, h]
theorem entry_eq {m : MethodId} {L : List Value} {ml : Nat} {Ls : List Slot} (h : slotsOf L ++ List.replicate (ml - (slotsOf L).length) Slot.unset = Ls) : entryFrame m L.toArray ml = mkF m 0 Ls.toArray [] := by
  subst h
  have e : argsToLocals L.toArray ml = (slotsOf L ++ List.replicate (ml - (slotsOf L).length) Slot.unset).toArray := by
    show (L.toArray.foldl (init := #[]) fun acc v => if v.category = 2 then (acc.push (Slot.val v)).push Slot.second else acc.push (Slot.val v)) ++ Array.replicate (ml - (L.toArray.foldl (init := #[]) fun acc v => if v.category = 2 then (acc.push (Slot.val v)).push Slot.second else acc.push (Slot.val v)).size) Slot.unset = _
    rw [List.foldl_toArray, foldl_slots]
    simp
  show ({ method := m, pc := 0, locals := argsToLocals L.toArray ml, stack := [], locked := none } : JFrame) = _
  rw [e]
section Own
variable {p : Program} {l : Launch} {e : Env} {R : Room} {s : State} {m : MethodId} {args : Array Value} {below : List Frame} {meth : Method} {c : Code} {T S0 : State} {locs : List Loc} {cells slots : Nat} {Z : State} {a0 : Array Value} {h : Heap} {Q : Option Value → Heap → List Loc → Prop}
theorem enter {y : MethodName} {bs : ByteArray} {ml : Nat} {rt : Option FieldType} {ws : List Jvm.Cond} {as' : Array Value} {h0 : Heap} {Ls : Array Slot} (hpl : plainFor y = true) (hef : ∀ m, entryFrame m as' ml = mkF m 0 Ls [])
    (body : ∀ (p : Program) (e : Env) (s : State) (m : MethodId) (below : List Frame) (meth : Method) (c : Code) (s₁ S0 : State), p.tables.exec = Jvm.exec → c.code = bs → c.maxLocals = ml → meth.sig.returnType = rt → meth.locks = false → meth.name = y.name →
      s.vm.findClass y.cls = some m.cls → Z.Warmed39 s.vm → Stand p l e R s m as' below meth c s₁ [] 0 0 → s₁.heap = h0 → To p.tables e below S0 (s₁.setTop (mkF m 0 Ls [])) → Fin p e below s R S0 Q) : Con l Z y bs ml rt ws R as' h0 Q := by
  refine MetFree.of_bodySF hpl hisR ?_
  intro p e s m args below meth c s₁ Bd hml0 hP hK
  obtain ⟨rfl, hZ, hh⟩ := hP
  exact body p e s m below meth c s₁ _ Bd.exec Bd.bytes hml0 Bd.returns Bd.notSynchronized (name_of_methodNamed Bd.named Bd.method).1 (findClass_of_methodNamed Bd.named) hZ (Stand.of_body Bd) (by rw [← hh, Bd.state]; rfl) (fun t k => castTop (hef m) k)
theorem retV (X : Stand p l e R s m args below meth c T locs cells slots) (hx : p.tables.exec = Jvm.exec) {pc : Nat} {Ls : Array Slot} {w : Value} {t : FieldType} {i : Instr} {rest : List Value} (hret : meth.sig.returnType = some t) (hlk : meth.locks = false) (hn : narrow t w = w)
    (hi : (i = .ireturn ∧ (t = .int ∨ t = .boolean ∨ t = .byte ∨ t = .char ∨ t = .short) ∧ ∃ z, w = .int z) ∨ (i = .lreturn ∧ t = .long ∧ ∃ z, w = .long z) ∨ (i = .dreturn ∧ t = .double ∧ ∃ z, w = .double z) ∨ (i = .freturn ∧ t = .float ∧ ∃ z, w = .float z) ∨ (i = .areturn ∧ t.isReference = true ∧ w.isRef = true))
    (hd : decode c.code pc = .ok (i, 1)) (k : To p.tables e below S0 (T.setTop (mkF m pc Ls (w :: rest)))) (hQ : Q (some w) T.heap locs) (hc : cells ≤ R.cells) (hs : slots ≤ R.slots) : Fin p e below s R S0 Q := by
  obtain ⟨fs, hr, hrun, hended, hW, hsame⟩ := X.leave (v := some w) (fun h => by rw [hret] at h; cases h) hlk
  exact ⟨_, _, k _ (retOut X hx hret hn hi hd hr), hrun, hended, _, _, rfl, hQ, ⟨_, rfl⟩, hW, hsame.mono hc hs⟩
theorem retInt (X : Stand p l e R s m args below meth c T locs cells slots) (hx : p.tables.exec = Jvm.exec) {pc : Nat} {Ls : Array Slot} {z : Int32} {t : FieldType} {rest : List Value} (hret : meth.sig.returnType = some t) (hlk : meth.locks = false) (ht : t = .int ∨ t = .boolean ∨ t = .byte ∨ t = .char ∨ t = .short) (hn : narrow t (.int z) = .int z)
    (hd : decode c.code pc = .ok (.ireturn, 1)) (k : To p.tables e below S0 (T.setTop (mkF m pc Ls (.int z :: rest)))) (hQ : Q (some (.int z)) T.heap locs) (hc : cells ≤ R.cells) (hs : slots ≤ R.slots) : Fin p e below s R S0 Q :=
  retV X hx hret hlk hn (Or.inl ⟨rfl, ht, z, rfl⟩) hd k hQ hc hs
theorem retRef (X : Stand p l e R s m args below meth c T locs cells slots) (hx : p.tables.exec = Jvm.exec) {pc : Nat} {Ls : Array Slot} {w : Value} {t : FieldType} {rest : List Value} (hret : meth.sig.returnType = some t) (hlk : meth.locks = false) (ht : t.isReference = true) (hw : w.isRef = true)
    (hd : decode c.code pc = .ok (.areturn, 1)) (k : To p.tables e below S0 (T.setTop (mkF m pc Ls (w :: rest)))) (hQ : Q (some w) T.heap locs) (hc : cells ≤ R.cells) (hs : slots ≤ R.slots) : Fin p e below s R S0 Q :=
  retV X hx hret hlk (by rcases ref_cases hw with rfl | ⟨z, rfl⟩ <;> cases t <;> first | rfl | (cases ht; done)) (Or.inr (Or.inr (Or.inr (Or.inr ⟨rfl, ht, hw⟩)))) hd k hQ hc hs
theorem retLong (X : Stand p l e R s m args below meth c T locs cells slots) (hx : p.tables.exec = Jvm.exec) {pc : Nat} {Ls : Array Slot} {z : Int64} {rest : List Value} (hret : meth.sig.returnType = some .long) (hlk : meth.locks = false)
    (hd : decode c.code pc = .ok (.lreturn, 1)) (k : To p.tables e below S0 (T.setTop (mkF m pc Ls (.long z :: rest)))) (hQ : Q (some (.long z)) T.heap locs) (hc : cells ≤ R.cells) (hs : slots ≤ R.slots) : Fin p e below s R S0 Q :=
  retV X hx hret hlk rfl (Or.inr (Or.inl ⟨rfl, rfl, z, rfl⟩)) hd k hQ hc hs
theorem retVoid (X : Stand p l e R s m args below meth c T locs cells slots) (hx : p.tables.exec = Jvm.exec) {pc : Nat} {Ls : Array Slot} (hret : meth.sig.returnType = none) (hlk : meth.locks = false)
    (hd : decode c.code pc = .ok (.return_, 1)) (k : To p.tables e below S0 (T.setTop (mkF m pc Ls []))) (hQ : Q none T.heap locs) (hc : cells ≤ R.cells) (hs : slots ≤ R.slots) : Fin p e below s R S0 Q := by
  obtain ⟨fs, hr, hrun, hended, hW, hsame⟩ := X.leave (v := none) (fun _ => rfl) hlk
  exact ⟨_, _, k _ (X.returnOut hx hret hd hr), hrun, hended, _, _, rfl, hQ, ⟨_, rfl⟩, hW, hsame.mono hc hs⟩
theorem backC {y : MethodName} {bs : ByteArray} {ml : Nat} {rt : Option FieldType} {rm : Room} {len W : Nat} {as' : Array Value} (hM : Con l Z y bs ml rt [] rm as' h Q) (hZ : Z.Warmed39 s.vm) (wc : (Cond.code y bs ml rt).before a0 Z = true) (wz : (Cond.initialized y.cls).before a0 Z = true) (hf : rm.frames + 1 ≤ R.frames) (hl : W + (ml + 11) + rm.locals ≤ R.locals) :
    Back l R p e below s args y len W (fun A a => a = as' ∧ A.U.heap = h ∧ A.cells + rm.cells ≤ R.cells ∧ A.slots + rm.slots ≤ R.slots) (fun A _ v B => ∃ L, Q v B.U.heap L ∧ B.locs = A.locs ++ L ∧ B.cells = A.cells + rm.cells ∧ B.slots = A.slots + rm.slots) :=
  backOf (Q := Q) hM hZ wc wz hf hl
/-! calls by a contract -/
theorem callS' (X : Stand p l e R s m args below meth c T locs cells slots) (hx : p.tables.exec = Jvm.exec) (hZ : Z.Warmed39 s.vm) {own : String} {index : Nat} {y : MethodName} {bs : ByteArray} {ml : Nat} {rt : Option FieldType} {cc ss W : Nat} {as' : Array Value} {Q : Option Value → Heap → List Loc → Prop}
    (hown : s.vm.findClass own = some m.cls) (w1 : (Cond.methodLink own index y).before a0 Z = true) (w2 : (Cond.static y).before a0 Z = true) (w3 : (Cond.initialized y.cls).before a0 Z = true) (w4 : (Cond.code y bs ml rt).before a0 Z = true) (hy : y.cls ≠ "java/lang/invoke/MethodHandle" ∧ y.cls ≠ "java/lang/invoke/VarHandle")
    (hK : Back l R p e below s args y 3 W (fun A a => a = as' ∧ A.U.heap = h ∧ A.cells + cc ≤ R.cells ∧ A.slots + ss ≤ R.slots) (fun A _ v B => ∃ L, Q v B.U.heap L ∧ B.locs = A.locs ++ L ∧ B.cells = A.cells + cc ∧ B.slots = A.slots + ss)) (eT : T.heap = h) {pc : Nat} {Ls : Array Slot} {st argsL rest : List Value} (hst : st = argsL.reverse ++ rest) (has : argsL.toArray = as') {ps : List FieldType} {r : Option FieldType} (hpd : parseMethodDescriptor y.desc = some ⟨ps, r⟩) (hlen : argsL.length = ps.length) (hsize : Ls.size = c.maxLocals)
    (hd : decode c.code pc = .ok (.invokestatic index, 3)) (hW : (rest.map fun v => v.category).sum ≤ W) (hc : cells + cc ≤ R.cells) (hs : slots + ss ≤ R.slots) (k : To p.tables e below S0 (T.setTop (mkF m pc Ls st))) :
    ∃ v T' L, Stand p l e R s m args below meth c T' (locs ++ L) (cells + cc) (slots + ss) ∧ Q v T'.heap L ∧ To p.tables e below S0 (T'.setTop (mkF m (pc + 3) Ls (v.toList ++ rest))) := by
  obtain ⟨v, vm₁, ⟨T', L', k', n'⟩, -, X', ⟨L, hQ, q1, q2, q3⟩, stp⟩ := Jvm.LawKit.callS X hx hown (mvT hZ w1) (mvT hZ w2) (mvT hZ w3) (mvT hZ w4) hy hK (g := mkF m pc Ls st) rfl hsize (argsL := argsL) (rest := rest) (lenOf hpd hlen) hst (by show 2 * 0 + _ ≤ _; omega) hd (fun _ _ => ⟨has, eT, hc, hs⟩)
  dsimp only [Pt.U, Pt.locs, Pt.cells, Pt.slots] at X' q1 q2 q3 stp hQ
  subst q1 q2 q3
  exact ⟨v, T', L, X', hQ, fun t q => k t (stp t q)⟩
theorem callC' (X : Stand p l e R s m args below meth c T locs cells slots) (hx : p.tables.exec = Jvm.exec) (hZ : Z.Warmed39 s.vm) {own : String} {index : Nat} {y : MethodName} {bs : ByteArray} {ml : Nat} {cc ss W : Nat} {as' : Array Value} {Q : Option Value → Heap → List Loc → Prop}
    (hy1 : y.name = "<init>") (hown : s.vm.findClass own = some m.cls) (w1 : (Cond.methodLink own index y).before a0 Z = true) (w2 : (Cond.instanceMethod y).before a0 Z = true) (w4 : (Cond.code y bs ml none).before a0 Z = true) (hy : y.cls ≠ "java/lang/invoke/MethodHandle" ∧ y.cls ≠ "java/lang/invoke/VarHandle")
    (hK : Back l R p e below s args y 3 W (fun A a => a = as' ∧ A.U.heap = h ∧ A.cells + cc ≤ R.cells ∧ A.slots + ss ≤ R.slots) (fun A _ v B => ∃ L, Q v B.U.heap L ∧ B.locs = A.locs ++ L ∧ B.cells = A.cells + cc ∧ B.slots = A.slots + ss)) (eT : T.heap = h) {pc : Nat} {Ls : Array Slot} {a : Addr} {st argsL rest : List Value} (hst : st = argsL.reverse ++ .ref a :: rest) (has : (.ref a :: argsL).toArray = as') {ps : List FieldType} {r : Option FieldType} (hpd : parseMethodDescriptor y.desc = some ⟨ps, r⟩) (hlen : argsL.length = ps.length) (hsize : Ls.size = c.maxLocals)
    (hd : decode c.code pc = .ok (.invokespecial index, 3)) (hW : (rest.map fun v => v.category).sum ≤ W) (hc : cells + cc ≤ R.cells) (hs : slots + ss ≤ R.slots) (k : To p.tables e below S0 (T.setTop (mkF m pc Ls st))) :
    ∃ v T' L, Stand p l e R s m args below meth c T' (locs ++ L) (cells + cc) (slots + ss) ∧ Q v T'.heap L ∧ To p.tables e below S0 (T'.setTop (mkF m (pc + 3) Ls (v.toList ++ rest))) := by
  obtain ⟨v, vm₁, ⟨T', L', k', n'⟩, -, X', ⟨L, hQ, q1, q2, q3⟩, stp⟩ := X.specialBack hx hy1 hown (mvT hZ w1) (mvT hZ w2) (mvT hZ w4) hy hK (g := mkF m pc Ls st) rfl hsize (Steps.refl _) (a := a) (argsL := argsL) (rest := rest) (lenOf hpd hlen) hst (by show 2 * 0 + _ ≤ _; omega) hd (fun _ _ => ⟨has, eT, hc, hs⟩)
  dsimp only [Pt.U, Pt.locs, Pt.cells, Pt.slots] at X' q1 q2 q3 stp hQ
  subst q1 q2 q3
  exact ⟨v, T', L, X', hQ, fun t q => k t (stp.trans q)⟩
theorem callV' (X : Stand p l e R s m args below meth c T locs cells slots) (hx : p.tables.exec = Jvm.exec) (hZ : Z.Warmed39 s.vm) {own C : String} {index : Nat} {y z : MethodName} {cc ss W : Nat} {as' : Array Value} {Q : Option Value → Heap → List Loc → Prop}
    (hown : s.vm.findClass own = some m.cls) (w1 : (Cond.methodLink own index y).before a0 Z = true) (w2 : (Cond.declares y).before a0 Z = true) (hnf : NotFace s y) (w5 : (Cond.selects C y z).before a0 Z = true) (w6 : (Cond.instanceMethod z).before a0 Z = true)
    (hy : y.cls ≠ "java/lang/invoke/MethodHandle" ∧ y.cls ≠ "java/lang/invoke/VarHandle") {b : Addr} (E : Exa Z h b C)
    (hK : Back l R p e below s args z 3 W (fun A a => a = as' ∧ A.U.heap = h ∧ A.cells + cc ≤ R.cells ∧ A.slots + ss ≤ R.slots) (fun A _ v B => ∃ L, Q v B.U.heap L ∧ B.locs = A.locs ++ L ∧ B.cells = A.cells + cc ∧ B.slots = A.slots + ss)) (eT : T.heap = h) {pc : Nat} {Ls : Array Slot} {st argsL rest : List Value} (hst : st = argsL.reverse ++ .ref b :: rest) (has : (.ref b :: argsL).toArray = as') {ps : List FieldType} {r : Option FieldType} (hpd : parseMethodDescriptor y.desc = some ⟨ps, r⟩) (hlen : argsL.length = ps.length) (hsize : Ls.size = c.maxLocals)
    (hd : decode c.code pc = .ok (.invokevirtual index, 3)) (hW : (rest.map fun v => v.category).sum ≤ W) (hc : cells + cc ≤ R.cells) (hs : slots + ss ≤ R.slots) (k : To p.tables e below S0 (T.setTop (mkF m pc Ls st))) :
    ∃ v T' L, Stand p l e R s m args below meth c T' (locs ++ L) (cells + cc) (slots + ss) ∧ Q v T'.heap L ∧ To p.tables e below S0 (T'.setTop (mkF m (pc + 3) Ls (v.toList ++ rest))) := by
  obtain ⟨cq, kq, qa, qb, qc⟩ := isOf hZ eT E
  obtain ⟨v, vm₁, ⟨T', L', k', n'⟩, -, X', ⟨L, hQ, q1, q2, q3⟩, stp⟩ := X.virtualBack hx hown (mvT hZ w1) (mvT hZ w2) hnf (mvT hZ w5) (mvT hZ w6) hy hK qa qc (g := mkF m pc Ls st) rfl hsize (Steps.refl _) (argsL := argsL) (rest := rest) (lenOf hpd hlen) hst (by show 2 * 0 + _ ≤ _; omega) hd (fun _ _ => ⟨has, eT, hc, hs⟩)
  dsimp only [Pt.U, Pt.locs, Pt.cells, Pt.slots] at X' q1 q2 q3 stp hQ
  subst q1 q2 q3
  exact ⟨v, T', L, X', hQ, fun t q => k t (stp.trans q)⟩
theorem callU' (X : Stand p l e R s m args below meth c T locs cells slots) (hx : p.tables.exec = Jvm.exec) (hZ : Z.Warmed39 s.vm) {own C owner : String} {index : Nat} {y z : MethodName} {cc ss W : Nat} {as' : Array Value} {Q : Option Value → Heap → List Loc → Prop}
    (hown : s.vm.findClass own = some m.cls) (w1 : (Cond.methodLink own index y).before a0 Z = true) (w7 : (Cond.sameMethod y.cls owner y.name y.desc).before a0 Z = true) (w2 : (Cond.declares ⟨owner, y.name, y.desc⟩).before a0 Z = true) (w5 : (Cond.selects C y z).before a0 Z = true) (w6 : (Cond.instanceMethod z).before a0 Z = true)
    (hy : owner ≠ "java/lang/invoke/MethodHandle" ∧ owner ≠ "java/lang/invoke/VarHandle") {b : Addr} (E : Exa Z h b C)
    (hK : Back l R p e below s args z 3 W (fun A a => a = as' ∧ A.U.heap = h ∧ A.cells + cc ≤ R.cells ∧ A.slots + ss ≤ R.slots) (fun A _ v B => ∃ L, Q v B.U.heap L ∧ B.locs = A.locs ++ L ∧ B.cells = A.cells + cc ∧ B.slots = A.slots + ss)) (eT : T.heap = h) {pc : Nat} {Ls : Array Slot} {st argsL rest : List Value} (hst : st = argsL.reverse ++ .ref b :: rest) (has : (.ref b :: argsL).toArray = as') {ps : List FieldType} {r : Option FieldType} (hpd : parseMethodDescriptor y.desc = some ⟨ps, r⟩) (hlen : argsL.length = ps.length) (hsize : Ls.size = c.maxLocals)
    (hd : decode c.code pc = .ok (.invokevirtual index, 3)) (hW : (rest.map fun v => v.category).sum ≤ W) (hc : cells + cc ≤ R.cells) (hs : slots + ss ≤ R.slots) (k : To p.tables e below S0 (T.setTop (mkF m pc Ls st))) :
    ∃ v T' L, Stand p l e R s m args below meth c T' (locs ++ L) (cells + cc) (slots + ss) ∧ Q v T'.heap L ∧ To p.tables e below S0 (T'.setTop (mkF m (pc + 3) Ls (v.toList ++ rest))) := by
  obtain ⟨cq, kq, qa, qb, qc⟩ := isOf hZ eT E
  obtain ⟨v, vm₁, ⟨T', L', k', n'⟩, -, X', ⟨L, hQ, q1, q2, q3⟩, stp⟩ := X.virtualBackUp hx hown (mvT hZ w1) (mvT hZ w7) (mvT hZ w2) hy (mvT hZ w5) (mvT hZ w6) hK qa qc (g := mkF m pc Ls st) rfl hsize (Steps.refl _) (argsL := argsL) (rest := rest) (lenOf hpd hlen) hst (by show 2 * 0 + _ ≤ _; omega) hd (fun _ _ => ⟨has, eT, hc, hs⟩)
  dsimp only [Pt.U, Pt.locs, Pt.cells, Pt.slots] at X' q1 q2 q3 stp hQ
  subst q1 q2 q3
  exact ⟨v, T', L, X', hQ, fun t q => k t (stp.trans q)⟩
theorem callI' (X : Stand p l e R s m args below meth c T locs cells slots) (hx : p.tables.exec = Jvm.exec) (hZ : Z.Warmed39 s.vm) {own C : String} {index count : Nat} {y z : MethodName} {cc ss W : Nat} {as' : Array Value} {Q : Option Value → Heap → List Loc → Prop}
    (hown : s.vm.findClass own = some m.cls) (w1 : (Cond.methodLink own index y).before a0 Z = true) (w2 : (Cond.declares y).before a0 Z = true) (w7 : (Cond.interfaceMethod y.cls y.cls y.name y.desc).before a0 Z = true) (hd7 : ((Cond.interfaceMethod y.cls y.cls y.name y.desc).onTables && (Cond.interfaceMethod y.cls y.cls y.name y.desc).keepsFace) = true) (w5 : (Cond.selects C y z).before a0 Z = true) (w6 : (Cond.instanceMethod z).before a0 Z = true) (w8 : (Cond.publicMethod z).before a0 Z = true) (w9 : (Cond.unhidden C y.name y.desc).before a0 Z = true) (w10 : (Cond.castable C y.cls).before a0 Z = true)
    (hy : y.cls ≠ "java/lang/invoke/MethodHandle" ∧ y.cls ≠ "java/lang/invoke/VarHandle") {b : Addr} (E : Exa Z h b C)
    (hK : Back l R p e below s args z 5 W (fun A a => a = as' ∧ A.U.heap = h ∧ A.cells + cc ≤ R.cells ∧ A.slots + ss ≤ R.slots) (fun A _ v B => ∃ L, Q v B.U.heap L ∧ B.locs = A.locs ++ L ∧ B.cells = A.cells + cc ∧ B.slots = A.slots + ss)) (eT : T.heap = h) {pc : Nat} {Ls : Array Slot} {st argsL rest : List Value} (hst : st = argsL.reverse ++ .ref b :: rest) (has : (.ref b :: argsL).toArray = as') {ps : List FieldType} {r : Option FieldType} (hpd : parseMethodDescriptor y.desc = some ⟨ps, r⟩) (hlen : argsL.length = ps.length) (hsize : Ls.size = c.maxLocals)
    (hd : decode c.code pc = .ok (.invokeinterface index count, 5)) (hW : (rest.map fun v => v.category).sum ≤ W) (hc : cells + cc ≤ R.cells) (hs : slots + ss ≤ R.slots) (k : To p.tables e below S0 (T.setTop (mkF m pc Ls st))) :
    ∃ v T' L, Stand p l e R s m args below meth c T' (locs ++ L) (cells + cc) (slots + ss) ∧ Q v T'.heap L ∧ To p.tables e below S0 (T'.setTop (mkF m (pc + 5) Ls (v.toList ++ rest))) := by
  obtain ⟨cq, kq, qa, qb, qc⟩ := isOf hZ eT E
  obtain ⟨v, vm₁, ⟨T', L', k', n'⟩, -, X', ⟨L, hQ, q1, q2, q3⟩, stp⟩ := X.interfaceBack hx hown (mvT hZ w1) (mvT hZ w2) (mvT hZ w7 hd7) (mvT hZ w5) (mvT hZ w6) (mvT hZ w8) (mvT hZ w9) (mvT hZ w10) hy hK qa qb qc (g := mkF m pc Ls st) rfl hsize (Steps.refl _) (argsL := argsL) (rest := rest) (lenOf hpd hlen) hst (by show 2 * 0 + _ ≤ _; omega) hd (fun _ _ => ⟨has, eT, hc, hs⟩)
  dsimp only [Pt.U, Pt.locs, Pt.cells, Pt.slots] at X' q1 q2 q3 stp hQ
  subst q1 q2 q3
  exact ⟨v, T', L, X', hQ, fun t q => k t (stp.trans q)⟩
theorem staOld {n0 : Nat} {C n d : String} {v : Value} (F : Sta Z Z.heap C n d v) (O : Old Z n0 h) : Sta Z h C n d v := F.ext O.2
theorem exaOld {n0 : Nat} {C : String} {a : Addr} (F : Exa Z Z.heap a C) (O : Old Z n0 h) : Exa Z h a C := F.ext O.2
theorem fldOld {n0 : Nat} {C n d : String} {a : Addr} {v : Value} (F : Fld Z Z.heap a C n d v) (O : Old Z n0 h) : Fld Z h a C n d v := F.ext O.2
theorem joinT (X : Stand p l e R s m args below meth c T locs cells slots) (eT : T.heap = h) (F : JFrame) {G : Prop} (br : (∀ T', Stand p l e R s m args below meth c T' locs cells slots → T'.heap = h → To p.tables e below S0 (T'.setTop F) → G) → G)
    (rest : ∀ T', Stand p l e R s m args below meth c T' locs cells slots → T'.heap = h → To p.tables e below S0 (T'.setTop F) → G) : G := br rest
theorem own_m255 (c : Int32) : ¬ (c &&& 255) < (0 : Int32) ∧ ¬ (255 : Int32) < (c &&& 255) := by
  have h : (c &&& 255).toBitVec.toNat ≤ 255 := by
    rw [Int32.toBitVec_and, BitVec.toNat_and]; exact Nat.and_le_right
  have h2 : (c &&& 255).toInt = ((c &&& 255).toBitVec.toNat : Int) := by
    show (c &&& 255).toBitVec.toInt = _
    rw [BitVec.toInt_eq_toNat_of_lt (by omega)]
  rw [Int32.lt_iff_toInt_lt, Int32.lt_iff_toInt_lt, h2, show (0 : Int32).toInt = 0 from rfl, show (255 : Int32).toInt = 255 by decide]
  omega
theorem own_and255_of {v : Int32} (h : ¬ v < (0 : Int32) ∧ ¬ (255 : Int32) < v) : v &&& 255 = v := by
  rw [Int32.lt_iff_toInt_lt, Int32.lt_iff_toInt_lt, show (0 : Int32).toInt = 0 from rfl, show (255 : Int32).toInt = 255 by decide] at h
  have e : v.toInt = (v.toBitVec.toNat : Int) := by
    show v.toBitVec.toInt = _
    have h1 : ¬ v.toBitVec.toInt < 0 := h.1
    rw [BitVec.toInt_eq_toNat_cond] at h1 ⊢
    split <;> rename_i q
    · rfl
    · rw [if_neg q] at h1; have := v.toBitVec.isLt; omega
  apply Int32.toBitVec_inj.mp
  apply BitVec.eq_of_toNat_eq
  rw [Int32.toBitVec_and, BitVec.toNat_and, show (255 : Int32).toBitVec.toNat = 2 ^ 8 - 1 from rfl, Nat.and_two_pow_sub_one_eq_mod]
  omega
theorem own_narc {v : Int32} (h : ¬ v < (0 : Int32) ∧ ¬ (255 : Int32) < v) : nar .char v = v := by
  have e := own_and255_of h
  rw [← e]; exact i2c_mask v
theorem own_fitc {v : Int32} (h : ¬ v < (0 : Int32) ∧ ¬ (255 : Int32) < v) : fits .char (.int v) = true := by
  have q := fits_nar_char v; rw [own_narc h] at q; exact q
theorem own_b255 {v : Int32} (h : ¬ v < (0 : Int32) ∧ ¬ (255 : Int32) < v) : (nar .byte (v.toInt8.toInt32)) &&& (255 : Int32) = v := by
  refine Eq.trans ?_ (own_and255_of h)
  have e : (v.toInt8.toInt32).toInt8 = v.toInt8 := by
    apply Int8.toBitVec_inj.mp; rw [Int32.toBitVec_toInt8, Int8.toBitVec_toInt32, BitVec.signExtend_eq_setWidth_of_le _ (by omega)]
    apply BitVec.eq_of_toNat_eq
    rw [BitVec.toNat_setWidth, BitVec.toNat_signExtend]
    have := v.toInt8.toBitVec.isLt
    simp only [BitVec.toNat_setWidth]
    split <;> omega
  show (v.toInt8.toInt32).toInt8.toInt32 &&& 255 = v &&& 255
  rw [e]
  apply Int32.toBitVec_inj.mp
  apply BitVec.eq_of_toNat_eq
  rw [Int32.toBitVec_and, Int32.toBitVec_and, BitVec.toNat_and, BitVec.toNat_and, show (255 : Int32).toBitVec.toNat = 2 ^ 8 - 1 from rfl, Nat.and_two_pow_sub_one_eq_mod, Nat.and_two_pow_sub_one_eq_mod, Int8.toBitVec_toInt32, Int32.toBitVec_toInt8, BitVec.toNat_signExtend]
  have h1 := v.toBitVec.isLt
  simp only [BitVec.toNat_setWidth, BitVec.toNat_signExtend]
  split <;> split <;> omega
theorem own_narrowc (x : Int32) : narrow .char (.int (x &&& 255)) = .int (x &&& 255) := congrArg Value.int (own_narc (own_m255 x))
theorem adr_lt {a b : Nat} (h : @LT.lt Nat instLTNat a b) : a < b := h
theorem adr_ne {a b : Nat} (h : ¬ a = b) : a ≠ b := h
theorem own_nz {s : State} {args : Array Value} {t : Term} {z : Int32} (e : t.eval args s none [] s = some (.int z)) (h : (Jvm.Cond.not (.eq t (.int 0))).value args s none s [] = some true) : ¬ z = (0 : Int32) := fun q => by
  subst q; have h2 := not_v h; simp [Cond.value, e, Term.eval] at h2
theorem fits_isref {C : String} {w : Value} (h : w.isRef = true) : fits (.object C) w = true := by rcases ref_cases h with rfl | ⟨z, rfl⟩ <;> rfl
theorem narrow_ref {t : FieldType} {w : Value} (h : w.isRef = true) : narrow t w = w := by rcases ref_cases h with rfl | ⟨z, rfl⟩ <;> cases t <;> rfl
end Own
/-! the wide family: walks that load String constants -/
section Wide
variable {p : Program} {l : Launch} {e : Env} {R : Room} {s : State} {m : MethodId} {args : Array Value} {below : List Frame} {meth : Method} {c : Code} {T S0 : State} {locs : List Loc} {cells slots : Nat} {Z : State} {a0 : Array Value} {h h0 : Heap} {Q : Option Value → Heap → List Loc → Prop} {EL : List (String × Nat)} {vm vm0 : Vm} {sf : List Addr} {n : Nat}
abbrev ConW (l : Launch) (Z : State) (EL : List (String × Nat)) (y : MethodName) (bs : ByteArray) (ml : Nat) (rt : Option FieldType) (ws : List Jvm.Cond) (R : Room) (as' : Array Value) (h0 : Heap) (sf : List Addr) (Q : Option Value → Heap → List Loc → Prop) : Prop :=
  MetFree l y (head1 (Jvm.Cond.code y bs ml rt :: ws) R) (fun a U => a = as' ∧ Z.Warmed39 U.vm ∧ U.heap = h0 ∧ CHv Z EL U.vm h0 ∧ ∀ x ∈ sf, Safe Z EL U.vm h0 x) (fun _ _ _ _ _ => True)
    (fun _ U o U' => ∃ v L, o = .returned v ∧ Q v U'.heap L ∧ CHr Z EL U.vm U.heap U'.vm U'.heap ∧ ReturnedEndW U o U' L R.cells R.slots)
def FinW (p : Program) (e : Env) (below : List Frame) (s : State) (R : Room) (S0 : State) (Z : State) (EL : List (String × Nat)) (vm0 : Vm) (h0 : Heap) (Q : Option Value → Heap → List Loc → Prop) : Prop :=
  ∃ s₂ o, Steps p.tables e below S0 s₂ ∧ s₂.status = .running ∧ Ended s₂ below o ∧ ∃ v L, o = .returned v ∧ Q v s₂.heap L ∧ CHr Z EL vm0 h0 s₂.vm s₂.heap ∧ ReturnedEndW s o s₂ L R.cells R.slots
theorem enterW {y : MethodName} {bs : ByteArray} {ml : Nat} {rt : Option FieldType} {ws : List Jvm.Cond} {as' : Array Value} {Ls : Array Slot} (hpl : plainFor y = true) (hef : ∀ m, entryFrame m as' ml = mkF m 0 Ls [])
    (body : ∀ (p : Program) (e : Env) (s : State) (m : MethodId) (below : List Frame) (meth : Method) (c : Code) (s₁ S0 : State) (vm0 : Vm), p.tables.exec = Jvm.exec → c.code = bs → c.maxLocals = ml → meth.sig.returnType = rt → meth.locks = false → meth.name = y.name →
      vm0.findClass y.cls = some m.cls → Z.Warmed39 vm0 → Stand p l e R (s.setVm vm0) m as' below meth c s₁ [] 0 0 → s₁.heap = h0 → To p.tables e below S0 (s₁.setTop (mkF m 0 Ls [])) → CHr Z EL vm0 h0 vm0 h0 → (∀ x ∈ sf, Safe Z EL vm0 h0 x) → s.Since vm0 h0.size → FinW p e below s R S0 Z EL vm0 h0 Q) : ConW l Z EL y bs ml rt ws R as' h0 sf Q := by
  refine MetFree.of_bodySF hpl hisR ?_
  intro p e s m args below meth c s₁ Bd hml0 hP hK
  obtain ⟨rfl, hZ, hh, hC, hsf⟩ := hP
  subst hh
  exact body p e s m below meth c s₁ _ s.vm Bd.exec Bd.bytes hml0 Bd.returns Bd.notSynchronized (name_of_methodNamed Bd.named Bd.method).1 (findClass_of_methodNamed Bd.named) hZ (show Stand p l e R s m _ below meth c s₁ [] 0 0 from Stand.of_body Bd) (by rw [Bd.state]; rfl) (fun t k => castTop (hef m) k) (CHr.refl hC) hsf ((State.WarmedH.refl s).since _)
theorem endW_mono {s t : State} {o : Outcome} {L : List Loc} {k n k' n' : Nat} (h : ReturnedEndW s o t L k n) (hk : k ≤ k') (hn : n ≤ n') : ReturnedEndW s o t L k' n' := ⟨h.1, h.2.1, h.2.2.1, h.2.2.2.mono hk hn⟩
theorem retVW (X : Stand p l e R (s.setVm vm) m args below meth c T locs cells slots) (hx : p.tables.exec = Jvm.exec) (hZ : Z.Warmed39 vm) (hEL : EW Z a0 EL) (hS : s.Since vm n) (hn0 : n ≤ h.size) (C : CHr Z EL vm0 h0 vm h) (eT : T.heap = h) {pc : Nat} {Ls : Array Slot} {w : Value} {t : FieldType} {i : Instr} {rest : List Value} (hret : meth.sig.returnType = some t) (hlk : meth.locks = false) (hn : narrow t w = w)
    (hi : (i = .ireturn ∧ (t = .int ∨ t = .boolean ∨ t = .byte ∨ t = .char ∨ t = .short) ∧ ∃ z, w = .int z) ∨ (i = .lreturn ∧ t = .long ∧ ∃ z, w = .long z) ∨ (i = .dreturn ∧ t = .double ∧ ∃ z, w = .double z) ∨ (i = .freturn ∧ t = .float ∧ ∃ z, w = .float z) ∨ (i = .areturn ∧ t.isReference = true ∧ w.isRef = true))
    (hd : decode c.code pc = .ok (i, 1)) (k : To p.tables e below S0 (T.setTop (mkF m pc Ls (w :: rest)))) (hQ : Q (some w) h locs) (hc : cells ≤ R.cells) (hs : slots ≤ R.slots) : FinW p e below s R S0 Z EL vm0 h0 Q := by
  subst eT
  obtain ⟨fs, hr, hrun, hended, hend⟩ := leaveW X hS hn0 (v := some w) (fun h => by rw [hret] at h; cases h) hlk
  have A := C.trans (CHv.at X hZ hEL C.1)
  exact ⟨_, _, k _ (retOut X hx hret hn hi hd hr), hrun, hended, _, _, rfl, hQ, A, endW_mono hend hc hs⟩
theorem retIntW (X : Stand p l e R (s.setVm vm) m args below meth c T locs cells slots) (hx : p.tables.exec = Jvm.exec) (hZ : Z.Warmed39 vm) (hEL : EW Z a0 EL) (hS : s.Since vm n) (hn0 : n ≤ h.size) (C : CHr Z EL vm0 h0 vm h) (eT : T.heap = h) {pc : Nat} {Ls : Array Slot} {z : Int32} {t : FieldType} {rest : List Value} (hret : meth.sig.returnType = some t) (hlk : meth.locks = false) (ht : t = .int ∨ t = .boolean ∨ t = .byte ∨ t = .char ∨ t = .short) (hn : narrow t (.int z) = .int z)
    (hd : decode c.code pc = .ok (.ireturn, 1)) (k : To p.tables e below S0 (T.setTop (mkF m pc Ls (.int z :: rest)))) (hQ : Q (some (.int z)) h locs) (hc : cells ≤ R.cells) (hs : slots ≤ R.slots) : FinW p e below s R S0 Z EL vm0 h0 Q :=
  retVW X hx hZ hEL hS hn0 C eT hret hlk hn (Or.inl ⟨rfl, ht, z, rfl⟩) hd k hQ hc hs
theorem retRefW (X : Stand p l e R (s.setVm vm) m args below meth c T locs cells slots) (hx : p.tables.exec = Jvm.exec) (hZ : Z.Warmed39 vm) (hEL : EW Z a0 EL) (hS : s.Since vm n) (hn0 : n ≤ h.size) (C : CHr Z EL vm0 h0 vm h) (eT : T.heap = h) {pc : Nat} {Ls : Array Slot} {w : Value} {t : FieldType} {rest : List Value} (hret : meth.sig.returnType = some t) (hlk : meth.locks = false) (ht : t.isReference = true) (hw : w.isRef = true)
    (hd : decode c.code pc = .ok (.areturn, 1)) (k : To p.tables e below S0 (T.setTop (mkF m pc Ls (w :: rest)))) (hQ : Q (some w) h locs) (hc : cells ≤ R.cells) (hs : slots ≤ R.slots) : FinW p e below s R S0 Z EL vm0 h0 Q :=
  retVW X hx hZ hEL hS hn0 C eT hret hlk (narrow_ref hw) (Or.inr (Or.inr (Or.inr (Or.inr ⟨rfl, ht, hw⟩)))) hd k hQ hc hs
theorem retVoidW (X : Stand p l e R (s.setVm vm) m args below meth c T locs cells slots) (hx : p.tables.exec = Jvm.exec) (hZ : Z.Warmed39 vm) (hEL : EW Z a0 EL) (hS : s.Since vm n) (hn0 : n ≤ h.size) (C : CHr Z EL vm0 h0 vm h) (eT : T.heap = h) {pc : Nat} {Ls : Array Slot} (hret : meth.sig.returnType = none) (hlk : meth.locks = false)
    (hd : decode c.code pc = .ok (.return_, 1)) (k : To p.tables e below S0 (T.setTop (mkF m pc Ls []))) (hQ : Q none h locs) (hc : cells ≤ R.cells) (hs : slots ≤ R.slots) : FinW p e below s R S0 Z EL vm0 h0 Q := by
  subst eT
  obtain ⟨fs, hr, hrun, hended, hend⟩ := leaveW X hS hn0 (v := none) (fun _ => rfl) hlk
  have A := C.trans (CHv.at X hZ hEL C.1)
  exact ⟨_, _, k _ (X.returnOut hx hret hd hr), hrun, hended, _, _, rfl, hQ, A, endW_mono hend hc hs⟩
theorem backOfW {y : MethodName} {bs : ByteArray} {ml : Nat} {rt : Option FieldType} {rm : Room} {len W : Nat} {as' : Array Value} (hM : ConW l Z EL y bs ml rt [] rm as' h sf Q) (hZ : Z.Warmed39 vm) (wc : (Cond.code y bs ml rt).before a0 Z = true) (wz : (Cond.initialized y.cls).before a0 Z = true)
    (hf : rm.frames + 1 ≤ R.frames) (hl : W + (ml + 11) + rm.locals ≤ R.locals) (hEL : EW Z a0 EL) (H : CHv Z EL vm h) (hsf : ∀ x ∈ sf, x < h.size ∧ Safe Z EL vm h x) :
    BackS l R p e below (s.setVm vm) args y len W (fun A a => a = as' ∧ A.U.heap = h ∧ A.cells + rm.cells ≤ R.cells ∧ A.slots + rm.slots ≤ R.slots)
      (fun A _ v B => ∃ L, Q v B.U.heap L ∧ B.locs = A.locs ++ L ∧ B.cells = A.cells + rm.cells ∧ B.slots = A.slots + rm.slots ∧ CHr Z EL vm h B.U.vm B.U.heap) :=
  BackS.of_freeW (bytes := bs) (maxL := ml) (ret := rt) (E := fun _ first o t L k n => k = rm.cells ∧ n = rm.slots ∧ (∃ v, o = .returned v ∧ Q v t.heap L) ∧ CHr Z EL first.vm first.heap t.vm t.heap) hM hf hl
    (fun m meth c A a Y hp => have hU : Z.Warmed39 A.U.vm := wtrans (s := s.setVm vm) hZ Y.warmed
      ⟨by show (Cond.and _ .tt).before a A.U = true; rw [Cond.before_and, mv hU wc]; rfl, mv hU wc, mv hU wz, hp.2.2.1, hp.2.2.2⟩)
    (fun m meth c A a g mk Y hp => ⟨hp.1, wtrans (s := s.setVm vm) hZ Y.warmed, hp.2.1, (CHv.at Y hZ hEL H).1, fun x hx => (CHv.at Y hZ hEL H).safe (hsf x hx).1 (hsf x hx).2⟩) (fun _ _ _ _ _ _ _ _ _ => trivial)
    (fun _ _ _ _ ⟨v, L, h1, h2, h3, h4⟩ => ⟨L, _, _, h4, rfl, rfl, ⟨v, h1, h2⟩, h3⟩)
    (fun m meth c A a g mk v t L k n Y hp _ _ ⟨e1, e2, ⟨v', e3, e4⟩, e5⟩ => by
      cases e3; subst e1 e2
      refine ⟨L, e4, rfl, rfl, rfl, (CHv.at Y hZ hEL H).trans ?_⟩
      rw [← hp.2.1]; exact e5)
/-- what lies behind a call that may intern -/
abbrev BehW (p : Program) (l : Launch) (e : Env) (R : Room) (s : State) (m : MethodId) (args : Array Value) (below : List Frame) (meth : Method) (c : Code) (Z : State) (EL : List (String × Nat)) (vm : Vm) (h : Heap) (locs : List Loc) (cells slots cc ss : Nat) (own : String) (Q : Option Value → Heap → List Loc → Prop) (S0 : State) (pc : Nat) (Ls : Array Slot) (rest : List Value) : Prop :=
  ∃ v T' L, Stand p l e R (s.setVm T'.vm) m args below meth c T' (locs ++ L) (cells + cc) (slots + ss) ∧ Q v T'.heap L ∧ To p.tables e below S0 (T'.setTop (mkF m pc Ls (v.toList ++ rest))) ∧ CHr Z EL vm h T'.vm T'.heap ∧ s.Since T'.vm T'.heap.size ∧ Z.Warmed39 T'.vm ∧ T'.vm.findClass own = some m.cls
theorem behW {own : String} {cc ss : Nat} {pc : Nat} {Ls : Array Slot} {rest : List Value} {v : Option Value} {T' : State} {L : List Loc} (hZ : Z.Warmed39 vm) (hown : vm.findClass own = some m.cls) (hS : s.Since vm n) (hn : n ≤ h.size) (X' : Stand p l e R ((s.setVm vm).setVm T'.vm) m args below meth c T' (locs ++ L) (cells + cc) (slots + ss)) (hS' : (s.setVm vm).Since T'.vm T'.heap.size) (hg : h.size ≤ T'.heap.size)
    (hQ : Q v T'.heap L) (hC : CHr Z EL vm h T'.vm T'.heap) (k : To p.tables e below S0 (T'.setTop (mkF m pc Ls (v.toList ++ rest)))) : BehW p l e R s m args below meth c Z EL vm h locs cells slots cc ss own Q S0 pc Ls rest :=
  ⟨v, T', L, X', hQ, k, hC, hS.trans hS' (Nat.le_trans hn hg), State.Warmed39.trans (t := s.setVm vm) hZ hS'.1, by rw [hS'.1.alike.findClass]; exact hown⟩
theorem callSW (X : Stand p l e R (s.setVm vm) m args below meth c T locs cells slots) (hx : p.tables.exec = Jvm.exec) (hZ : Z.Warmed39 vm) {own : String} {index : Nat} {y : MethodName} {bs : ByteArray} {ml : Nat} {rt : Option FieldType} {cc ss W : Nat} {as' : Array Value}
    (hown : vm.findClass own = some m.cls) (hS : s.Since vm n) (hn : n ≤ h.size) (w1 : (Cond.methodLink own index y).before a0 Z = true) (w2 : (Cond.static y).before a0 Z = true) (w3 : (Cond.initialized y.cls).before a0 Z = true) (w4 : (Cond.code y bs ml rt).before a0 Z = true) (hy : y.cls ≠ "java/lang/invoke/MethodHandle" ∧ y.cls ≠ "java/lang/invoke/VarHandle")
    (hK : BackS l R p e below (s.setVm vm) args y 3 W (fun A a => a = as' ∧ A.U.heap = h ∧ A.cells + cc ≤ R.cells ∧ A.slots + ss ≤ R.slots) (fun A _ v B => ∃ L, Q v B.U.heap L ∧ B.locs = A.locs ++ L ∧ B.cells = A.cells + cc ∧ B.slots = A.slots + ss ∧ CHr Z EL vm h B.U.vm B.U.heap)) (eT : T.heap = h) {pc : Nat} {Ls : Array Slot} {st argsL rest : List Value} (hst : st = argsL.reverse ++ rest) (has : argsL.toArray = as') {ps : List FieldType} {r : Option FieldType} (hpd : parseMethodDescriptor y.desc = some ⟨ps, r⟩) (hlen : argsL.length = ps.length) (hsize : Ls.size = c.maxLocals)
    (hd : decode c.code pc = .ok (.invokestatic index, 3)) (hW : (rest.map fun v => v.category).sum ≤ W) (hc : cells + cc ≤ R.cells) (hs : slots + ss ≤ R.slots) (k : To p.tables e below S0 (T.setTop (mkF m pc Ls st))) :
    BehW p l e R s m args below meth c Z EL vm h locs cells slots cc ss own Q S0 (pc + 3) Ls rest := by
  obtain ⟨v, vm₁, ⟨T', L', k', n'⟩, -, X', hS', hg, ⟨L, hQ, q1, q2, q3, hC⟩, stp⟩ := callSS X hx hown (mvT (s := s.setVm vm) hZ w1) (mvT (s := s.setVm vm) hZ w2) (mvT (s := s.setVm vm) hZ w3) (mvT (s := s.setVm vm) hZ w4) hy hK (g := mkF m pc Ls st) rfl hsize (argsL := argsL) (rest := rest) (lenOf hpd hlen) hst (by show 2 * 0 + _ ≤ _; omega) hd (fun _ _ => ⟨has, eT, hc, hs⟩)
  dsimp only [Pt.U, Pt.locs, Pt.cells, Pt.slots] at X' q1 q2 q3 stp hQ hS' hg hC
  subst q1 q2 q3
  exact behW hZ hown hS hn X' hS' (eT ▸ hg) hQ hC fun t q => k t (stp.trans q)
theorem callCW (X : Stand p l e R (s.setVm vm) m args below meth c T locs cells slots) (hx : p.tables.exec = Jvm.exec) (hZ : Z.Warmed39 vm) {own : String} {index : Nat} {y : MethodName} {bs : ByteArray} {ml : Nat} {cc ss W : Nat} {as' : Array Value}
    (hy1 : y.name = "<init>") (hown : vm.findClass own = some m.cls) (hS : s.Since vm n) (hn : n ≤ h.size) (w1 : (Cond.methodLink own index y).before a0 Z = true) (w2 : (Cond.instanceMethod y).before a0 Z = true) (w4 : (Cond.code y bs ml none).before a0 Z = true) (hy : y.cls ≠ "java/lang/invoke/MethodHandle" ∧ y.cls ≠ "java/lang/invoke/VarHandle")
    (hK : BackS l R p e below (s.setVm vm) args y 3 W (fun A a => a = as' ∧ A.U.heap = h ∧ A.cells + cc ≤ R.cells ∧ A.slots + ss ≤ R.slots) (fun A _ v B => ∃ L, Q v B.U.heap L ∧ B.locs = A.locs ++ L ∧ B.cells = A.cells + cc ∧ B.slots = A.slots + ss ∧ CHr Z EL vm h B.U.vm B.U.heap)) (eT : T.heap = h) {pc : Nat} {Ls : Array Slot} {a : Addr} {st argsL rest : List Value} (hst : st = argsL.reverse ++ .ref a :: rest) (has : (.ref a :: argsL).toArray = as') {ps : List FieldType} {r : Option FieldType} (hpd : parseMethodDescriptor y.desc = some ⟨ps, r⟩) (hlen : argsL.length = ps.length) (hsize : Ls.size = c.maxLocals)
    (hd : decode c.code pc = .ok (.invokespecial index, 3)) (hW : (rest.map fun v => v.category).sum ≤ W) (hc : cells + cc ≤ R.cells) (hs : slots + ss ≤ R.slots) (k : To p.tables e below S0 (T.setTop (mkF m pc Ls st))) :
    BehW p l e R s m args below meth c Z EL vm h locs cells slots cc ss own Q S0 (pc + 3) Ls rest := by
  obtain ⟨v, vm₁, ⟨T', L', k', n'⟩, -, X', hS', hg, ⟨L, hQ, q1, q2, q3, hC⟩, stp⟩ := specialBackS X hx hy1 hown (mvT (s := s.setVm vm) hZ w1) (mvT (s := s.setVm vm) hZ w2) (mvT (s := s.setVm vm) hZ w4) hy hK (g := mkF m pc Ls st) rfl hsize (Steps.refl _) (a := a) (argsL := argsL) (rest := rest) (lenOf hpd hlen) hst (by show 2 * 0 + _ ≤ _; omega) hd (fun _ _ => ⟨has, eT, hc, hs⟩)
  dsimp only [Pt.U, Pt.locs, Pt.cells, Pt.slots] at X' q1 q2 q3 stp hQ hS' hg hC
  subst q1 q2 q3
  exact behW hZ hown hS hn X' hS' (eT ▸ hg) hQ hC fun t q => k t (stp.trans q)
theorem callVW (X : Stand p l e R (s.setVm vm) m args below meth c T locs cells slots) (hx : p.tables.exec = Jvm.exec) (hZ : Z.Warmed39 vm) {own C : String} {index : Nat} {y z : MethodName} {cc ss W : Nat} {as' : Array Value}
    (hown : vm.findClass own = some m.cls) (hS : s.Since vm n) (hn : n ≤ h.size) (w1 : (Cond.methodLink own index y).before a0 Z = true) (w2 : (Cond.declares y).before a0 Z = true) (hnf : NotFace (s.setVm vm) y) (w5 : (Cond.selects C y z).before a0 Z = true) (w6 : (Cond.instanceMethod z).before a0 Z = true)
    (hy : y.cls ≠ "java/lang/invoke/MethodHandle" ∧ y.cls ≠ "java/lang/invoke/VarHandle") {b : Addr} (E : Exa Z h b C)
    (hK : BackS l R p e below (s.setVm vm) args z 3 W (fun A a => a = as' ∧ A.U.heap = h ∧ A.cells + cc ≤ R.cells ∧ A.slots + ss ≤ R.slots) (fun A _ v B => ∃ L, Q v B.U.heap L ∧ B.locs = A.locs ++ L ∧ B.cells = A.cells + cc ∧ B.slots = A.slots + ss ∧ CHr Z EL vm h B.U.vm B.U.heap)) (eT : T.heap = h) {pc : Nat} {Ls : Array Slot} {st argsL rest : List Value} (hst : st = argsL.reverse ++ .ref b :: rest) (has : (.ref b :: argsL).toArray = as') {ps : List FieldType} {r : Option FieldType} (hpd : parseMethodDescriptor y.desc = some ⟨ps, r⟩) (hlen : argsL.length = ps.length) (hsize : Ls.size = c.maxLocals)
    (hd : decode c.code pc = .ok (.invokevirtual index, 3)) (hW : (rest.map fun v => v.category).sum ≤ W) (hc : cells + cc ≤ R.cells) (hs : slots + ss ≤ R.slots) (k : To p.tables e below S0 (T.setTop (mkF m pc Ls st))) :
    BehW p l e R s m args below meth c Z EL vm h locs cells slots cc ss own Q S0 (pc + 3) Ls rest := by
  obtain ⟨cq, kq, qa, qb, qc⟩ := isOf (s := s.setVm vm) hZ eT E
  obtain ⟨v, vm₁, ⟨T', L', k', n'⟩, -, X', hS', hg, ⟨L, hQ, q1, q2, q3, hC⟩, stp⟩ := virtualBackS X hx hown (mvT (s := s.setVm vm) hZ w1) (mvT (s := s.setVm vm) hZ w2) hnf (mvT (s := s.setVm vm) hZ w5) (mvT (s := s.setVm vm) hZ w6) hy hK qa qc (g := mkF m pc Ls st) rfl hsize (Steps.refl _) (argsL := argsL) (rest := rest) (lenOf hpd hlen) hst (by show 2 * 0 + _ ≤ _; omega) hd (fun _ _ => ⟨has, eT, hc, hs⟩)
  dsimp only [Pt.U, Pt.locs, Pt.cells, Pt.slots] at X' q1 q2 q3 stp hQ hS' hg hC
  subst q1 q2 q3
  exact behW hZ hown hS hn X' hS' (eT ▸ hg) hQ hC fun t q => k t (stp.trans q)
end Wide
abbrev own_EL : List (String × Nat) := consts_1
theorem own_EW {Z : State} {a0 : Array Value} (hw : ∀ d ∈ tables_1, d.before a0 Z = true) : EW Z a0 own_EL := (EW.cons (hw _ (List.mem_of_getElem? (i := 57) rfl)) (by decide) (EW.cons (hw _ (List.mem_of_getElem? (i := 65) rfl)) (by decide) (EW.cons (hw _ (List.mem_of_getElem? (i := 28) rfl)) (by decide) EW.nil)))
theorem own_wS {Z : State} {a0 : Array Value} (hw : ∀ d ∈ tables_1, d.before a0 Z = true) : ∀ a ∈ Bundle.stringAtoms, a.before a0 Z = true := fun a ha => by
  simp only [Bundle.stringAtoms, List.mem_cons, List.not_mem_nil, or_false] at ha
  rcases ha with rfl | rfl | rfl | rfl | rfl | rfl | rfl
  · exact (hw _ (List.mem_of_getElem? (i := 16) rfl))
  · exact (hw _ (List.mem_of_getElem? (i := 15) rfl))
  · exact (hw _ (List.mem_of_getElem? (i := 29) rfl))
  · exact (hw _ (List.mem_of_getElem? (i := 30) rfl))
  · exact (hw _ (List.mem_of_getElem? (i := 31) rfl))
  · exact (hw _ (List.mem_of_getElem? (i := 32) rfl))
  · exact (hw _ (List.mem_of_getElem? (i := 33) rfl))
/-- the bytes of a byte[] of at most two -/
def TA (Z : State) (h : Heap) (t : Addr) (k : ClassId) (bs : List Int32) : Prop := (bs = [] ∧ Arv Z h t k .byte (0 : Int32) [] (.int 0)) ∨ (∃ b, bs = [b] ∧ Arv Z h t k .byte (1 : Int32) [(.int b)] (.int 0)) ∨ (∃ b c, bs = [b, c] ∧ Arv Z h t k .byte (2 : Int32) [(.int b), (.int c)] (.int 0))
/-- a Latin-1 String of at most two signs -/
def Tx (Z : State) (h : Heap) (a : Addr) (bs : List Int32) : Prop := Exa Z h a "java/lang/String" ∧ ∃ (t : Addr) (k : ClassId), Fld Z h a "java/lang/String" "value" "[B" (.ref t) ∧ Fld Z h a "java/lang/String" "coder" "B" (.int (0 : Int32)) ∧ TA Z h t k bs
theorem taMap {Z : State} {h h' : Heap} {t : Addr} {k : ClassId} {bs : List Int32} (R : TA Z h t k bs) (f : ∀ {n : Int32} {vs : List Value}, Arv Z h t k .byte n vs (.int 0) → Arv Z h' t k .byte n vs (.int 0)) : TA Z h' t k bs :=
  R.imp (fun ⟨e, r⟩ => ⟨e, f r⟩) (fun R => R.imp (fun ⟨b, e, r⟩ => ⟨b, e, f r⟩) (fun ⟨b, c, e, r⟩ => ⟨b, c, e, f r⟩))
theorem txExt {Z : State} {h h' : Heap} {a : Addr} {bs : List Int32} (S : Tx Z h a bs) (E : Ext h h') : Tx Z h' a bs := by
  obtain ⟨A, t, k, V, K, R⟩ := S
  exact ⟨A.ext E, t, k, V.ext E, K.ext E, taMap R (·.ext E)⟩
theorem txKeep0 {Z : State} {h h' : Heap} {a : Addr} {bs : List Int32} (S : Tx Z h a bs) (E : Keep h h' []) : Tx Z h' a bs := by
  obtain ⟨A, t, k, V, K, R⟩ := S
  exact ⟨A.keep E, t, k, V.keep E nin0, K.keep E nin0, taMap R (·.keep E nin0)⟩
theorem taNe {Z : State} {h : Heap} {t p : Addr} {k : ClassId} {bs : List Int32} {C : String} {n : Nat} {a0 : Array Value} (R : TA Z h t k bs) (E : Exa Z h p C) (w : (Jvm.Cond.instantiable C n).before a0 Z = true) : t ≠ p := by
  rcases R with ⟨-, R⟩ | ⟨b, -, R⟩ | ⟨b, c, -, R⟩
  · exact (E.neArv R w).symm
  · exact (E.neArv R w).symm
  · exact (E.neArv R w).symm
theorem txWr {Z : State} {h h' : Heap} {a p : Addr} {bs : List Int32} {sl : Nat} {v : Value} {n : Nat} {a0 : Array Value} (S : Tx Z h a bs) (W : Wr h h' p sl v) (E : Exa Z h p "com/example/huntaway/huntaway/Obligation") (w : (Jvm.Cond.instantiable "com/example/huntaway/huntaway/Obligation" n).before a0 Z = true) : Tx Z h' a bs := by
  obtain ⟨A, t, k, V, K, R⟩ := S
  have q1 := A.ne E (by decide); have q2 := taNe R E w
  exact ⟨A.wr W, t, k, V.other W (Or.inl q1), K.other W (Or.inl q1), taMap R (·.other W q2)⟩
theorem txKeepP {Z : State} {h h' : Heap} {a p : Addr} {bs : List Int32} {n : Nat} {a0 : Array Value} (S : Tx Z h a bs) (W : Keep h h' [p]) (E : Exa Z h p "com/example/huntaway/huntaway/Obligation") (w : (Jvm.Cond.instantiable "com/example/huntaway/huntaway/Obligation" n).before a0 Z = true) : Tx Z h' a bs := by
  obtain ⟨A, t, k, V, K, R⟩ := S
  have q1 := A.ne E (by decide); have q2 := taNe R E w
  exact ⟨A.keep W, t, k, V.keep W (ninS q1 nin0), K.keep W (ninS q1 nin0), taMap R (·.keep W (ninS q2 nin0))⟩
theorem own_no {Z : State} {a0 : Array Value} {C O K : String} {n : Nat} (w : (Jvm.Cond.superclass C O).before a0 Z = true) (wo : (Jvm.Cond.noSuperclass O).before a0 Z = true) (wk : (Jvm.Cond.instantiable K n).before a0 Z = true) (h1 : C ≠ K) (h2 : O ≠ K) : ∃ c t, Z.vm.findClass C = some c ∧ Z.vm.findClass K = some t ∧ Z.vm.assignable c t = false := by
  obtain ⟨t, kt, g1, g2, g3, g4, -, -⟩ := Cond.instantiable_spec wk
  obtain ⟨o, ko, o1, o2, o3, -, -⟩ := Cond.noSuperclass_spec wo
  have n0 : NS Z O K := ⟨o, t, o1, g1, fun f => by
    have ne := ids_ne o1 g1 h2
    cases f with
    | zero => rfl
    | succ f => simp [Vm.isSubclassAux, ne, o2, o3]⟩
  obtain ⟨c, t', e0, g0, n3⟩ := NS.step w n0 h1
  cases g1.symm.trans g0
  obtain ⟨p, k, kp, -, q2, -, -, q5, -, -⟩ := Cond.superclass_spec e0 w
  have ne := ids_ne e0 g0 h1
  have g4' : kt.isInterface = false := (Bool.or_eq_false_iff.mp g4).1
  refine ⟨c, t, e0, g0, ?_⟩
  show Z.vm.assignableAux (255 + 1) c t = false
  simp [Vm.assignableAux, ne, q2, g2, q5, g3, g4', Vm.isSubclass, n3]
def own_c0 (x : Int32) : Int32 := (x.toUInt32 >>> ((2 : Int32) &&& 31).toUInt32).toInt32 &&& (255 : Int32)
def own_c1 (x : Int32) : Int32 := (x.toUInt32 >>> ((10 : Int32) &&& 31).toUInt32).toInt32 &&& (255 : Int32)
def own_len (x : Int32) : Int32 := if (2 : Int32) < (x &&& (3 : Int32)) then (2 : Int32) else (x &&& (3 : Int32))
def own_T (x : Int32) : List Int32 := if own_len x = 0 then [] else if own_len x = 1 then [nar .byte ((own_c0 x).toInt8.toInt32)] else [nar .byte ((own_c0 x).toInt8.toInt32), nar .byte ((own_c1 x).toInt8.toInt32)]
theorem own_c0m (x : Int32) : ¬ own_c0 x < (0 : Int32) ∧ ¬ (255 : Int32) < own_c0 x := own_m255 _
theorem own_c1m (x : Int32) : ¬ own_c1 x < (0 : Int32) ∧ ¬ (255 : Int32) < own_c1 x := own_m255 _
theorem own_T0 {x : Int32} (h : own_len x = 0) : own_T x = [] := if_pos h
theorem own_T1 {x : Int32} (h : own_len x = 1) : own_T x = [nar .byte ((own_c0 x).toInt8.toInt32)] := by rw [own_T, if_neg (by rw [h]; decide), if_pos h]
theorem own_T2 {x : Int32} (h : own_len x = 2) : own_T x = [nar .byte ((own_c0 x).toInt8.toInt32), nar .byte ((own_c1 x).toInt8.toInt32)] := by rw [own_T, if_neg (by rw [h]; decide), if_neg (by rw [h]; decide)]
theorem own_inj0 {x y : Int32} (h : nar .byte ((own_c0 x).toInt8.toInt32) = nar .byte ((own_c0 y).toInt8.toInt32)) : own_c0 x = own_c0 y := by rw [← own_b255 (own_c0m x), h, own_b255 (own_c0m y)]
theorem own_inj1 {x y : Int32} (h : nar .byte ((own_c1 x).toInt8.toInt32) = nar .byte ((own_c1 y).toInt8.toInt32)) : own_c1 x = own_c1 y := by rw [← own_b255 (own_c1m x), h, own_b255 (own_c1m y)]
theorem own_if1 {P : Prop} [Decidable P] (h : ¬ (if P then (1 : Int32) else (0 : Int32)) = 0) : (if P then (1 : Int32) else (0 : Int32)) = 1 := by split <;> simp_all
theorem own_ifT {P : Prop} [Decidable P] (h : ¬ (if P then (1 : Int32) else (0 : Int32)) = 0) : P := Decidable.byContradiction fun q => h (if_neg q)
theorem own_ifF {P : Prop} [Decidable P] (h : (if P then (1 : Int32) else (0 : Int32)) = 0) : ¬ P := fun q => absurd ((if_pos q).symm.trans h) (by decide)

theorem own_and3 (k : Int32) : (k &&& (3 : Int32)) = (0 : Int32) ∨ (k &&& (3 : Int32)) = (1 : Int32) ∨ (k &&& (3 : Int32)) = (2 : Int32) ∨ (k &&& (3 : Int32)) = (3 : Int32) := by
  have h : (k &&& 3).toBitVec.toNat ≤ 3 := by
    rw [Int32.toBitVec_and, BitVec.toNat_and]; exact Nat.and_le_right
  simp only [← Int32.toBitVec_inj, ← BitVec.toNat_inj, show (0 : Int32).toBitVec.toNat = 0 from rfl, show (1 : Int32).toBitVec.toNat = 1 from rfl, show (2 : Int32).toBitVec.toNat = 2 from rfl, show (3 : Int32).toBitVec.toNat = 3 from rfl]
  omega
theorem own_lenc (x : Int32) : own_len x = 0 ∨ own_len x = 1 ∨ own_len x = 2 := by
  rcases own_and3 x with h | h | h | h
  · exact Or.inl (by rw [own_len, h]; decide)
  · exact Or.inr (Or.inl (by rw [own_len, h]; decide))
  · exact Or.inr (Or.inr (by rw [own_len, h]; decide))
  · exact Or.inr (Or.inr (by rw [own_len, h]; decide))
theorem d_jdk_29_method_69_code_0 : decode jdk_29_method_69_code 0 = .ok (.iload_n 0, 1) := by decide +kernel
theorem d_jdk_29_method_69_code_1 : decode jdk_29_method_69_code 1 = .ok (.iload_n 1, 1) := by decide +kernel
theorem d_jdk_29_method_69_code_2 : decode jdk_29_method_69_code 2 = .ok (.if_icmp .gt 7, 3) := by decide +kernel
theorem d_jdk_29_method_69_code_5 : decode jdk_29_method_69_code 5 = .ok (.iload_n 0, 1) := by decide +kernel
theorem d_jdk_29_method_69_code_6 : decode jdk_29_method_69_code 6 = .ok (.goto 4, 3) := by decide +kernel
theorem d_jdk_29_method_69_code_9 : decode jdk_29_method_69_code 9 = .ok (.iload_n 1, 1) := by decide +kernel
theorem d_jdk_29_method_69_code_10 : decode jdk_29_method_69_code 10 = .ok (.ireturn, 1) := by decide +kernel
set_option maxRecDepth 65536 in
set_option maxHeartbeats 40000000 in
theorem rm_min (l : Launch) (Z : State) (a0 : Array Value) (hw : ∀ d ∈ tables_1, d.before a0 Z = true) (a : Int32) (b : Int32) (h0 : Heap) (n0 : Nat) (hn0 : n0 ≤ h0.size)  :
    Con l Z (⟨"java/lang/Math", "min", "(II)I"⟩ : MethodName) jdk_29_method_69_code 2 (some .int) [] ({ frames := 0, cells := 0, slots := 0, locals := 0 } : Room) #[(.int a), (.int b)] h0 (fun v h L => v = some (.int (if b < a then b else a)) ∧ Fr n0 L ∧ h = h0) := by
  refine enter (Ls := #[.val (.int a), .val (.int b)]) (Jvm.Free.JP.mathPlain rfl (by decide +kernel)) (fun m => by exact entry_eq rfl) ?_
  intro p e s m below meth cd_ s₁ S0 hx hby hml hret hlk hnm hown hZ X0 e0 k0
  have N0 := Fr.nil n0
  have k1 : To p.tables e below S0 (s₁.setTop (mkF m 2 #[.val (.int a), .val (.int b)] [(.int b), (.int a)])) := fun tt hq => k0 tt (by
    show Steps _ _ _ (s₁.setTop (mkF m 0 #[.val (.int a), .val (.int b)] [])) _
    refine XS.iloadN X0.here hx rfl (hb hby d_jdk_29_method_69_code_0) rfl ?_
    show Steps _ _ _ (s₁.setTop (mkF m 1 #[.val (.int a), .val (.int b)] [(.int a)])) _
    refine XS.iloadN X0.here hx rfl (hb hby d_jdk_29_method_69_code_1) rfl ?_
    show Steps _ _ _ (s₁.setTop (mkF m 2 #[.val (.int a), .val (.int b)] [(.int b), (.int a)])) _
    exact hq)
  by_cases hc2_2 : b < a
  · -- pc 2, holds
    have k3 : To p.tables e below S0 (s₁.setTop (mkF m 10 #[.val (.int a), .val (.int b)] [(.int b)])) := fun tt hq => k1 tt (by
      show Steps _ _ _ (s₁.setTop (mkF m 2 #[.val (.int a), .val (.int b)] [(.int b), (.int a)])) _
      refine XS.icmpYes X0.here hx rfl (pc0 := 2) (pc' := 9) rfl (hb hby d_jdk_29_method_69_code_2) rfl (tlt hc2_2).2.2.1 (by decide) (by decide) ?_
      show Steps _ _ _ (s₁.setTop (mkF m 9 #[.val (.int a), .val (.int b)] [])) _
      refine XS.iloadN X0.here hx rfl (hb hby d_jdk_29_method_69_code_9) rfl ?_
      show Steps _ _ _ (s₁.setTop (mkF m 10 #[.val (.int a), .val (.int b)] [(.int b)])) _
      exact hq)
    have hE := e0
    refine retInt X0 hx hret hlk (by simp) rfl (hb hby d_jdk_29_method_69_code_10) k3 ?_ (by decide) (by decide)
    try rw [hE]
    exact ⟨by rw [if_pos hc2_2], N0, rfl⟩
  · -- pc 2, holds not
    have k4 : To p.tables e below S0 (s₁.setTop (mkF m 10 #[.val (.int a), .val (.int b)] [(.int a)])) := fun tt hq => k1 tt (by
      show Steps _ _ _ (s₁.setTop (mkF m 2 #[.val (.int a), .val (.int b)] [(.int b), (.int a)])) _
      refine XS.icmpNo X0.here hx rfl (hb hby d_jdk_29_method_69_code_2) rfl (flt hc2_2).2.2.1 ?_
      show Steps _ _ _ (s₁.setTop (mkF m 5 #[.val (.int a), .val (.int b)] [])) _
      refine XS.iloadN X0.here hx rfl (hb hby d_jdk_29_method_69_code_5) rfl ?_
      show Steps _ _ _ (s₁.setTop (mkF m 6 #[.val (.int a), .val (.int b)] [(.int a)])) _
      refine XS.goto X0.here hx rfl (pc0 := 6) (pc' := 10) rfl (hb hby d_jdk_29_method_69_code_6) (by decide) (by decide) ?_
      show Steps _ _ _ (s₁.setTop (mkF m 10 #[.val (.int a), .val (.int b)] [(.int a)])) _
      exact hq)
    have hE := e0
    refine retInt X0 hx hret hlk (by simp) rfl (hb hby d_jdk_29_method_69_code_10) k4 ?_ (by decide) (by decide)
    try rw [hE]
    exact ⟨by rw [if_neg hc2_2], N0, rfl⟩
theorem d_method_2_code_0 : decode method_2_code 0 = .ok (.iload_n 0, 1) := by decide +kernel
theorem d_method_2_code_1 : decode method_2_code 1 = .ok (.iconst 3, 1) := by decide +kernel
theorem d_method_2_code_2 : decode method_2_code 2 = .ok (.iand, 1) := by decide +kernel
theorem d_method_2_code_3 : decode method_2_code 3 = .ok (.iconst 2, 1) := by decide +kernel
theorem d_method_2_code_4 : decode method_2_code 4 = .ok (.invokestatic 7, 3) := by decide +kernel
theorem d_method_2_code_7 : decode method_2_code 7 = .ok (.ireturn, 1) := by decide +kernel
theorem pn_0 : plainName "com/example/huntaway/huntaway/ObligationEqualsPinLaw" = true := by first | (simp [plainName, overriddenIn]; done) | decide +kernel
theorem pd_0 : parseMethodDescriptor "(II)I" = some ⟨[.int, .int], some .int⟩ := by decide +kernel
set_option maxRecDepth 65536 in
set_option maxHeartbeats 40000000 in
theorem rm_len (l : Launch) (Z : State) (a0 : Array Value) (hw : ∀ d ∈ tables_1, d.before a0 Z = true) (z : Int32) (h0 : Heap) (n0 : Nat) (hn0 : n0 ≤ h0.size)  :
    Con l Z (⟨"com/example/huntaway/huntaway/ObligationEqualsPinLaw", "len", "(I)I"⟩ : MethodName) method_2_code 1 (some .int) [] ({ frames := 1, cells := 0, slots := 0, locals := 13 } : Room) #[(.int z)] h0 (fun v h L => v = some (.int (own_len z)) ∧ Fr n0 L ∧ h = h0) := by
  refine enter (Ls := #[.val (.int z)]) (plainFor_of_name pn_0) (fun m => by exact entry_eq rfl) ?_
  intro p e s m below meth cd_ s₁ S0 hx hby hml hret hlk hnm hown hZ X0 e0 k0
  have N0 := Fr.nil n0
  have k1 : To p.tables e below S0 (s₁.setTop (mkF m 4 #[.val (.int z)] [(.int (2 : Int32)), (.int (z &&& (3 : Int32)))])) := fun tt hq => k0 tt (by
    show Steps _ _ _ (s₁.setTop (mkF m 0 #[.val (.int z)] [])) _
    refine XS.iloadN X0.here hx rfl (hb hby d_method_2_code_0) rfl ?_
    show Steps _ _ _ (s₁.setTop (mkF m 1 #[.val (.int z)] [(.int z)])) _
    refine XS.iconst X0.here hx rfl (hb hby d_method_2_code_1) ?_
    show Steps _ _ _ (s₁.setTop (mkF m 2 #[.val (.int z)] [(.int (3 : Int32)), (.int z)])) _
    refine XS.iand X0.here hx rfl (hb hby d_method_2_code_2) rfl ?_
    show Steps _ _ _ (s₁.setTop (mkF m 3 #[.val (.int z)] [(.int (z &&& (3 : Int32)))])) _
    refine XS.iconst X0.here hx rfl (hb hby d_method_2_code_3) ?_
    show Steps _ _ _ (s₁.setTop (mkF m 4 #[.val (.int z)] [(.int (2 : Int32)), (.int (z &&& (3 : Int32)))])) _
    exact hq)
  obtain ⟨_, T2, L2, X2, ⟨rfl, Nq2, eq2⟩, k2a⟩ := callS' X0 hx hZ (y := (⟨"java/lang/Math", "min", "(II)I"⟩ : MethodName)) hown (hw _ (List.mem_of_getElem? (i := 10) rfl)) (hw _ (List.mem_of_getElem? (i := 11) rfl)) (hw _ (List.mem_of_getElem? (i := 12) rfl)) (hw _ (List.mem_of_getElem? (i := 13) rfl)) (by decide) (backC (W := 0) (rm_min l Z a0 hw (z &&& (3 : Int32)) (2 : Int32) h0 n0 (by omega)) hZ (hw _ (List.mem_of_getElem? (i := 13) rfl)) (hw _ (List.mem_of_getElem? (i := 12) rfl)) (by decide) (by decide)) e0 (argsL := [(.int (z &&& (3 : Int32))), (.int (2 : Int32))]) (rest := []) rfl rfl pd_0 rfl (by rw [hml]; rfl) (hb hby d_method_2_code_4) (Nat.le_of_eq rfl) (by decide) (by decide) k1
  have k2 : To p.tables e below S0 (T2.setTop (mkF m 7 #[.val (.int z)] [(.int (if (2 : Int32) < (z &&& (3 : Int32)) then (2 : Int32) else (z &&& (3 : Int32))))])) := k2a
  have N2 := N0.app Nq2
  have e2 : T2.heap = h0 := eq2
  have hE := e2
  refine retInt X2 hx hret hlk (by simp) rfl (hb hby d_method_2_code_7) k2 ?_ (by decide) (by decide)
  try rw [hE]
  exact ⟨rfl, N2, rfl⟩
theorem d_method_3_code_0 : decode method_3_code 0 = .ok (.iload_n 0, 1) := by decide +kernel
theorem d_method_3_code_1 : decode method_3_code 1 = .ok (.iconst 2, 1) := by decide +kernel
theorem d_method_3_code_2 : decode method_3_code 2 = .ok (.iushr, 1) := by decide +kernel
theorem d_method_3_code_3 : decode method_3_code 3 = .ok (.sipush 255, 3) := by decide +kernel
theorem d_method_3_code_6 : decode method_3_code 6 = .ok (.iand, 1) := by decide +kernel
theorem d_method_3_code_7 : decode method_3_code 7 = .ok (.i2c, 1) := by decide +kernel
theorem d_method_3_code_8 : decode method_3_code 8 = .ok (.ireturn, 1) := by decide +kernel
set_option maxRecDepth 65536 in
set_option maxHeartbeats 40000000 in
theorem rm_c0 (l : Launch) (Z : State) (a0 : Array Value) (hw : ∀ d ∈ tables_1, d.before a0 Z = true) (i : Int32) (h0 : Heap) (n0 : Nat) (hn0 : n0 ≤ h0.size)  :
    Con l Z (⟨"com/example/huntaway/huntaway/ObligationEqualsPinLaw", "c0", "(I)C"⟩ : MethodName) method_3_code 1 (some .char) [] ({ frames := 0, cells := 0, slots := 0, locals := 0 } : Room) #[(.int i)] h0 (fun v h L => v = some (.int (own_c0 i)) ∧ Fr n0 L ∧ h = h0) := by
  refine enter (Ls := #[.val (.int i)]) (plainFor_of_name pn_0) (fun m => by exact entry_eq rfl) ?_
  intro p e s m below meth cd_ s₁ S0 hx hby hml hret hlk hnm hown hZ X0 e0 k0
  have N0 := Fr.nil n0
  have k1 : To p.tables e below S0 (s₁.setTop (mkF m 8 #[.val (.int i)] [(.int ((((i.toUInt32 >>> ((2 : Int32) &&& 31).toUInt32).toInt32) &&& (255 : Int32)).toUInt32.toUInt16.toUInt32.toInt32))])) := fun tt hq => k0 tt (by
    show Steps _ _ _ (s₁.setTop (mkF m 0 #[.val (.int i)] [])) _
    refine XS.iloadN X0.here hx rfl (hb hby d_method_3_code_0) rfl ?_
    show Steps _ _ _ (s₁.setTop (mkF m 1 #[.val (.int i)] [(.int i)])) _
    refine XS.iconst X0.here hx rfl (hb hby d_method_3_code_1) ?_
    show Steps _ _ _ (s₁.setTop (mkF m 2 #[.val (.int i)] [(.int (2 : Int32)), (.int i)])) _
    refine XS.iushr X0.here hx rfl (hb hby d_method_3_code_2) rfl ?_
    show Steps _ _ _ (s₁.setTop (mkF m 3 #[.val (.int i)] [(.int ((i.toUInt32 >>> ((2 : Int32) &&& 31).toUInt32).toInt32))])) _
    refine XS.sipush X0.here hx rfl (hb hby d_method_3_code_3) ?_
    show Steps _ _ _ (s₁.setTop (mkF m 6 #[.val (.int i)] [(.int (255 : Int32)), (.int ((i.toUInt32 >>> ((2 : Int32) &&& 31).toUInt32).toInt32))])) _
    refine XS.iand X0.here hx rfl (hb hby d_method_3_code_6) rfl ?_
    show Steps _ _ _ (s₁.setTop (mkF m 7 #[.val (.int i)] [(.int (((i.toUInt32 >>> ((2 : Int32) &&& 31).toUInt32).toInt32) &&& (255 : Int32)))])) _
    refine XS.i2c X0.here hx rfl (hb hby d_method_3_code_7) rfl ?_
    show Steps _ _ _ (s₁.setTop (mkF m 8 #[.val (.int i)] [(.int ((((i.toUInt32 >>> ((2 : Int32) &&& 31).toUInt32).toInt32) &&& (255 : Int32)).toUInt32.toUInt16.toUInt32.toInt32))])) _
    exact hq)
  have k2 : To p.tables e below S0 (s₁.setTop (mkF m 8 #[.val (.int i)] [(.int (((i.toUInt32 >>> ((2 : Int32) &&& 31).toUInt32).toInt32) &&& (255 : Int32)))])) := by have hq := k1; rw [i2c_mask] at hq; exact hq
  obtain ⟨v3, hv3⟩ : ∃ z : Int32, z = (((i.toUInt32 >>> ((2 : Int32) &&& 31).toUInt32).toInt32) &&& (255 : Int32)) := ⟨_, rfl⟩
  have k3 : To p.tables e below S0 (s₁.setTop (mkF m 8 #[.val (.int i)] [(.int v3)])) := by rw [hv3]; exact k2
  have mv3 : ¬ v3 < (0 : Int32) ∧ ¬ (255 : Int32) < v3 := by rw [hv3]; exact own_m255 _
  have hE := e0
  refine retInt X0 hx hret hlk (by simp) (congrArg Value.int (own_narc mv3)) (hb hby d_method_3_code_8) k3 ?_ (by decide) (by decide)
  try rw [hE]
  exact ⟨by rw [hv3]; rfl, N0, rfl⟩
theorem d_method_4_code_0 : decode method_4_code 0 = .ok (.iload_n 0, 1) := by decide +kernel
theorem d_method_4_code_1 : decode method_4_code 1 = .ok (.bipush 10, 2) := by decide +kernel
theorem d_method_4_code_3 : decode method_4_code 3 = .ok (.iushr, 1) := by decide +kernel
theorem d_method_4_code_4 : decode method_4_code 4 = .ok (.sipush 255, 3) := by decide +kernel
theorem d_method_4_code_7 : decode method_4_code 7 = .ok (.iand, 1) := by decide +kernel
theorem d_method_4_code_8 : decode method_4_code 8 = .ok (.i2c, 1) := by decide +kernel
theorem d_method_4_code_9 : decode method_4_code 9 = .ok (.ireturn, 1) := by decide +kernel
set_option maxRecDepth 65536 in
set_option maxHeartbeats 40000000 in
theorem rm_c1 (l : Launch) (Z : State) (a0 : Array Value) (hw : ∀ d ∈ tables_1, d.before a0 Z = true) (i : Int32) (h0 : Heap) (n0 : Nat) (hn0 : n0 ≤ h0.size)  :
    Con l Z (⟨"com/example/huntaway/huntaway/ObligationEqualsPinLaw", "c1", "(I)C"⟩ : MethodName) method_4_code 1 (some .char) [] ({ frames := 0, cells := 0, slots := 0, locals := 0 } : Room) #[(.int i)] h0 (fun v h L => v = some (.int (own_c1 i)) ∧ Fr n0 L ∧ h = h0) := by
  refine enter (Ls := #[.val (.int i)]) (plainFor_of_name pn_0) (fun m => by exact entry_eq rfl) ?_
  intro p e s m below meth cd_ s₁ S0 hx hby hml hret hlk hnm hown hZ X0 e0 k0
  have N0 := Fr.nil n0
  have k1 : To p.tables e below S0 (s₁.setTop (mkF m 9 #[.val (.int i)] [(.int ((((i.toUInt32 >>> ((10 : Int32) &&& 31).toUInt32).toInt32) &&& (255 : Int32)).toUInt32.toUInt16.toUInt32.toInt32))])) := fun tt hq => k0 tt (by
    show Steps _ _ _ (s₁.setTop (mkF m 0 #[.val (.int i)] [])) _
    refine XS.iloadN X0.here hx rfl (hb hby d_method_4_code_0) rfl ?_
    show Steps _ _ _ (s₁.setTop (mkF m 1 #[.val (.int i)] [(.int i)])) _
    refine XS.bipush X0.here hx rfl (hb hby d_method_4_code_1) ?_
    show Steps _ _ _ (s₁.setTop (mkF m 3 #[.val (.int i)] [(.int (10 : Int32)), (.int i)])) _
    refine XS.iushr X0.here hx rfl (hb hby d_method_4_code_3) rfl ?_
    show Steps _ _ _ (s₁.setTop (mkF m 4 #[.val (.int i)] [(.int ((i.toUInt32 >>> ((10 : Int32) &&& 31).toUInt32).toInt32))])) _
    refine XS.sipush X0.here hx rfl (hb hby d_method_4_code_4) ?_
    show Steps _ _ _ (s₁.setTop (mkF m 7 #[.val (.int i)] [(.int (255 : Int32)), (.int ((i.toUInt32 >>> ((10 : Int32) &&& 31).toUInt32).toInt32))])) _
    refine XS.iand X0.here hx rfl (hb hby d_method_4_code_7) rfl ?_
    show Steps _ _ _ (s₁.setTop (mkF m 8 #[.val (.int i)] [(.int (((i.toUInt32 >>> ((10 : Int32) &&& 31).toUInt32).toInt32) &&& (255 : Int32)))])) _
    refine XS.i2c X0.here hx rfl (hb hby d_method_4_code_8) rfl ?_
    show Steps _ _ _ (s₁.setTop (mkF m 9 #[.val (.int i)] [(.int ((((i.toUInt32 >>> ((10 : Int32) &&& 31).toUInt32).toInt32) &&& (255 : Int32)).toUInt32.toUInt16.toUInt32.toInt32))])) _
    exact hq)
  have k2 : To p.tables e below S0 (s₁.setTop (mkF m 9 #[.val (.int i)] [(.int (((i.toUInt32 >>> ((10 : Int32) &&& 31).toUInt32).toInt32) &&& (255 : Int32)))])) := by have hq := k1; rw [i2c_mask] at hq; exact hq
  obtain ⟨v3, hv3⟩ : ∃ z : Int32, z = (((i.toUInt32 >>> ((10 : Int32) &&& 31).toUInt32).toInt32) &&& (255 : Int32)) := ⟨_, rfl⟩
  have k3 : To p.tables e below S0 (s₁.setTop (mkF m 9 #[.val (.int i)] [(.int v3)])) := by rw [hv3]; exact k2
  have mv3 : ¬ v3 < (0 : Int32) ∧ ¬ (255 : Int32) < v3 := by rw [hv3]; exact own_m255 _
  have hE := e0
  refine retInt X0 hx hret hlk (by simp) (congrArg Value.int (own_narc mv3)) (hb hby d_method_4_code_9) k3 ?_ (by decide) (by decide)
  try rw [hE]
  exact ⟨by rw [hv3]; rfl, N0, rfl⟩
theorem d_method_6_code_0 : decode method_6_code 0 = .ok (.iload_n 0, 1) := by decide +kernel
theorem d_method_6_code_1 : decode method_6_code 1 = .ok (.invokestatic 13, 3) := by decide +kernel
theorem d_method_6_code_4 : decode method_6_code 4 = .ok (.istore_n 2, 1) := by decide +kernel
theorem d_method_6_code_5 : decode method_6_code 5 = .ok (.iload_n 1, 1) := by decide +kernel
theorem d_method_6_code_6 : decode method_6_code 6 = .ok (.invokestatic 13, 3) := by decide +kernel
theorem d_method_6_code_9 : decode method_6_code 9 = .ok (.istore_n 3, 1) := by decide +kernel
theorem d_method_6_code_10 : decode method_6_code 10 = .ok (.iload_n 2, 1) := by decide +kernel
theorem d_method_6_code_11 : decode method_6_code 11 = .ok (.iload_n 3, 1) := by decide +kernel
theorem d_method_6_code_12 : decode method_6_code 12 = .ok (.if_icmp .ne 39, 3) := by decide +kernel
theorem d_method_6_code_15 : decode method_6_code 15 = .ok (.iload_n 2, 1) := by decide +kernel
theorem d_method_6_code_16 : decode method_6_code 16 = .ok (.iconst 1, 1) := by decide +kernel
theorem d_method_6_code_17 : decode method_6_code 17 = .ok (.if_icmp .lt 14, 3) := by decide +kernel
theorem d_method_6_code_20 : decode method_6_code 20 = .ok (.iload_n 0, 1) := by decide +kernel
theorem d_method_6_code_21 : decode method_6_code 21 = .ok (.invokestatic 24, 3) := by decide +kernel
theorem d_method_6_code_24 : decode method_6_code 24 = .ok (.iload_n 1, 1) := by decide +kernel
theorem d_method_6_code_25 : decode method_6_code 25 = .ok (.invokestatic 24, 3) := by decide +kernel
theorem d_method_6_code_28 : decode method_6_code 28 = .ok (.if_icmp .ne 23, 3) := by decide +kernel
theorem d_method_6_code_31 : decode method_6_code 31 = .ok (.iload_n 2, 1) := by decide +kernel
theorem d_method_6_code_32 : decode method_6_code 32 = .ok (.iconst 2, 1) := by decide +kernel
theorem d_method_6_code_33 : decode method_6_code 33 = .ok (.if_icmp .lt 14, 3) := by decide +kernel
theorem d_method_6_code_36 : decode method_6_code 36 = .ok (.iload_n 0, 1) := by decide +kernel
theorem d_method_6_code_37 : decode method_6_code 37 = .ok (.invokestatic 28, 3) := by decide +kernel
theorem d_method_6_code_40 : decode method_6_code 40 = .ok (.iload_n 1, 1) := by decide +kernel
theorem d_method_6_code_41 : decode method_6_code 41 = .ok (.invokestatic 28, 3) := by decide +kernel
theorem d_method_6_code_44 : decode method_6_code 44 = .ok (.if_icmp .ne 7, 3) := by decide +kernel
theorem d_method_6_code_47 : decode method_6_code 47 = .ok (.iconst 1, 1) := by decide +kernel
theorem d_method_6_code_48 : decode method_6_code 48 = .ok (.goto 4, 3) := by decide +kernel
theorem d_method_6_code_51 : decode method_6_code 51 = .ok (.iconst 0, 1) := by decide +kernel
theorem d_method_6_code_52 : decode method_6_code 52 = .ok (.ireturn, 1) := by decide +kernel
theorem pd_1 : parseMethodDescriptor "(I)I" = some ⟨[.int], some .int⟩ := by decide +kernel
theorem pd_2 : parseMethodDescriptor "(I)C" = some ⟨[.int], some .char⟩ := by decide +kernel
set_option maxRecDepth 65536 in
set_option maxHeartbeats 40000000 in
theorem rm_same (l : Launch) (Z : State) (a0 : Array Value) (hw : ∀ d ∈ tables_1, d.before a0 Z = true) (y : Int32) (z : Int32) (h0 : Heap) (n0 : Nat) (hn0 : n0 ≤ h0.size)  :
    Con l Z (⟨"com/example/huntaway/huntaway/ObligationEqualsPinLaw", "same", "(II)Z"⟩ : MethodName) method_6_code 4 (some .boolean) [] ({ frames := 2, cells := 0, slots := 0, locals := 25 } : Room) #[(.int y), (.int z)] h0 (fun v h L => v = some (.int (if own_T y = own_T z then (1 : Int32) else (0 : Int32))) ∧ Fr n0 L ∧ h = h0) := by
  refine enter (Ls := #[.val (.int y), .val (.int z), .unset, .unset]) (plainFor_of_name pn_0) (fun m => by exact entry_eq rfl) ?_
  intro p e s m below meth cd_ s₁ S0 hx hby hml hret hlk hnm hown hZ X0 e0 k0
  have N0 := Fr.nil n0
  have k1 : To p.tables e below S0 (s₁.setTop (mkF m 1 #[.val (.int y), .val (.int z), .unset, .unset] [(.int y)])) := fun tt hq => k0 tt (by
    show Steps _ _ _ (s₁.setTop (mkF m 0 #[.val (.int y), .val (.int z), .unset, .unset] [])) _
    refine XS.iloadN X0.here hx rfl (hb hby d_method_6_code_0) rfl ?_
    show Steps _ _ _ (s₁.setTop (mkF m 1 #[.val (.int y), .val (.int z), .unset, .unset] [(.int y)])) _
    exact hq)
  obtain ⟨_, T2, L2, X2, ⟨rfl, Nq2, eq2⟩, k2a⟩ := callS' X0 hx hZ (y := (⟨"com/example/huntaway/huntaway/ObligationEqualsPinLaw", "len", "(I)I"⟩ : MethodName)) hown (hw _ (List.mem_of_getElem? (i := 7) rfl)) (hw _ (List.mem_of_getElem? (i := 8) rfl)) (hw _ (List.mem_of_getElem? (i := 5) rfl)) (hw _ (List.mem_of_getElem? (i := 9) rfl)) (by decide) (backC (W := 0) (rm_len l Z a0 hw y h0 n0 (by omega)) hZ (hw _ (List.mem_of_getElem? (i := 9) rfl)) (hw _ (List.mem_of_getElem? (i := 5) rfl)) (by decide) (by decide)) e0 (argsL := [(.int y)]) (rest := []) rfl rfl pd_1 rfl (by rw [hml]; rfl) (hb hby d_method_6_code_1) (Nat.le_of_eq rfl) (by decide) (by decide) k1
  have k2 : To p.tables e below S0 (T2.setTop (mkF m 4 #[.val (.int y), .val (.int z), .unset, .unset] [(.int (own_len y))])) := k2a
  have N2 := N0.app Nq2
  have e2 : T2.heap = h0 := eq2
  rcases own_lenc y with ht3 | ht3 | ht3
  · -- pc 4: (0 : Int32)
    have k4 : To p.tables e below S0 (T2.setTop (mkF m 4 #[.val (.int y), .val (.int z), .unset, .unset] [(.int (0 : Int32))])) := by have hq := k2; rw [ht3] at hq; exact hq
    have k5 : To p.tables e below S0 (T2.setTop (mkF m 6 #[.val (.int y), .val (.int z), .val (.int (0 : Int32)), .unset] [(.int z)])) := fun tt hq => k4 tt (by
      show Steps _ _ _ (T2.setTop (mkF m 4 #[.val (.int y), .val (.int z), .unset, .unset] [(.int (0 : Int32))])) _
      refine XS.istoreN X2.here hx rfl (hb hby d_method_6_code_4) rfl (l' := #[.val (.int y), .val (.int z), .val (.int (0 : Int32)), .unset]) rfl ?_
      show Steps _ _ _ (T2.setTop (mkF m 5 #[.val (.int y), .val (.int z), .val (.int (0 : Int32)), .unset] [])) _
      refine XS.iloadN X2.here hx rfl (hb hby d_method_6_code_5) rfl ?_
      show Steps _ _ _ (T2.setTop (mkF m 6 #[.val (.int y), .val (.int z), .val (.int (0 : Int32)), .unset] [(.int z)])) _
      exact hq)
    obtain ⟨_, T6, L6, X6, ⟨rfl, Nq6, eq6⟩, k6a⟩ := callS' X2 hx hZ (y := (⟨"com/example/huntaway/huntaway/ObligationEqualsPinLaw", "len", "(I)I"⟩ : MethodName)) hown (hw _ (List.mem_of_getElem? (i := 7) rfl)) (hw _ (List.mem_of_getElem? (i := 8) rfl)) (hw _ (List.mem_of_getElem? (i := 5) rfl)) (hw _ (List.mem_of_getElem? (i := 9) rfl)) (by decide) (backC (W := 0) (rm_len l Z a0 hw z h0 n0 (by omega)) hZ (hw _ (List.mem_of_getElem? (i := 9) rfl)) (hw _ (List.mem_of_getElem? (i := 5) rfl)) (by decide) (by decide)) e2 (argsL := [(.int z)]) (rest := []) rfl rfl pd_1 rfl (by rw [hml]; rfl) (hb hby d_method_6_code_6) (Nat.le_of_eq rfl) (by decide) (by decide) k5
    have k6 : To p.tables e below S0 (T6.setTop (mkF m 9 #[.val (.int y), .val (.int z), .val (.int (0 : Int32)), .unset] [(.int (own_len z))])) := k6a
    have N6 := N2.app Nq6
    have e6 : T6.heap = h0 := eq6
    rcases own_lenc z with ht7 | ht7 | ht7
    · -- pc 9: (0 : Int32)
      have k8 : To p.tables e below S0 (T6.setTop (mkF m 9 #[.val (.int y), .val (.int z), .val (.int (0 : Int32)), .unset] [(.int (0 : Int32))])) := by have hq := k6; rw [ht7] at hq; exact hq
      have k9 : To p.tables e below S0 (T6.setTop (mkF m 52 #[.val (.int y), .val (.int z), .val (.int (0 : Int32)), .val (.int (0 : Int32))] [(.int (1 : Int32))])) := fun tt hq => k8 tt (by
        show Steps _ _ _ (T6.setTop (mkF m 9 #[.val (.int y), .val (.int z), .val (.int (0 : Int32)), .unset] [(.int (0 : Int32))])) _
        refine XS.istoreN X6.here hx rfl (hb hby d_method_6_code_9) rfl (l' := #[.val (.int y), .val (.int z), .val (.int (0 : Int32)), .val (.int (0 : Int32))]) rfl ?_
        show Steps _ _ _ (T6.setTop (mkF m 10 #[.val (.int y), .val (.int z), .val (.int (0 : Int32)), .val (.int (0 : Int32))] [])) _
        refine XS.iloadN X6.here hx rfl (hb hby d_method_6_code_10) rfl ?_
        show Steps _ _ _ (T6.setTop (mkF m 11 #[.val (.int y), .val (.int z), .val (.int (0 : Int32)), .val (.int (0 : Int32))] [(.int (0 : Int32))])) _
        refine XS.iloadN X6.here hx rfl (hb hby d_method_6_code_11) rfl ?_
        show Steps _ _ _ (T6.setTop (mkF m 12 #[.val (.int y), .val (.int z), .val (.int (0 : Int32)), .val (.int (0 : Int32))] [(.int (0 : Int32)), (.int (0 : Int32))])) _
        refine XS.icmpNo X6.here hx rfl (hb hby d_method_6_code_12) rfl (teq (by decide)).2 ?_
        show Steps _ _ _ (T6.setTop (mkF m 15 #[.val (.int y), .val (.int z), .val (.int (0 : Int32)), .val (.int (0 : Int32))] [])) _
        refine XS.iloadN X6.here hx rfl (hb hby d_method_6_code_15) rfl ?_
        show Steps _ _ _ (T6.setTop (mkF m 16 #[.val (.int y), .val (.int z), .val (.int (0 : Int32)), .val (.int (0 : Int32))] [(.int (0 : Int32))])) _
        refine XS.iconst X6.here hx rfl (hb hby d_method_6_code_16) ?_
        show Steps _ _ _ (T6.setTop (mkF m 17 #[.val (.int y), .val (.int z), .val (.int (0 : Int32)), .val (.int (0 : Int32))] [(.int (1 : Int32)), (.int (0 : Int32))])) _
        refine XS.icmpYes X6.here hx rfl (pc0 := 17) (pc' := 31) rfl (hb hby d_method_6_code_17) rfl (tlt (by decide)).1 (by decide) (by decide) ?_
        show Steps _ _ _ (T6.setTop (mkF m 31 #[.val (.int y), .val (.int z), .val (.int (0 : Int32)), .val (.int (0 : Int32))] [])) _
        refine XS.iloadN X6.here hx rfl (hb hby d_method_6_code_31) rfl ?_
        show Steps _ _ _ (T6.setTop (mkF m 32 #[.val (.int y), .val (.int z), .val (.int (0 : Int32)), .val (.int (0 : Int32))] [(.int (0 : Int32))])) _
        refine XS.iconst X6.here hx rfl (hb hby d_method_6_code_32) ?_
        show Steps _ _ _ (T6.setTop (mkF m 33 #[.val (.int y), .val (.int z), .val (.int (0 : Int32)), .val (.int (0 : Int32))] [(.int (2 : Int32)), (.int (0 : Int32))])) _
        refine XS.icmpYes X6.here hx rfl (pc0 := 33) (pc' := 47) rfl (hb hby d_method_6_code_33) rfl (tlt (by decide)).1 (by decide) (by decide) ?_
        show Steps _ _ _ (T6.setTop (mkF m 47 #[.val (.int y), .val (.int z), .val (.int (0 : Int32)), .val (.int (0 : Int32))] [])) _
        refine XS.iconst X6.here hx rfl (hb hby d_method_6_code_47) ?_
        show Steps _ _ _ (T6.setTop (mkF m 48 #[.val (.int y), .val (.int z), .val (.int (0 : Int32)), .val (.int (0 : Int32))] [(.int (1 : Int32))])) _
        refine XS.goto X6.here hx rfl (pc0 := 48) (pc' := 52) rfl (hb hby d_method_6_code_48) (by decide) (by decide) ?_
        show Steps _ _ _ (T6.setTop (mkF m 52 #[.val (.int y), .val (.int z), .val (.int (0 : Int32)), .val (.int (0 : Int32))] [(.int (1 : Int32))])) _
        exact hq)
      have hE := e6
      refine retInt X6 hx hret hlk (by simp) rfl (hb hby d_method_6_code_52) k9 ?_ (by decide) (by decide)
      try rw [hE]
      exact ⟨congrArg (fun z => some (Value.int z)) (Eq.symm (if_pos (by rw [own_T0 ht3, own_T0 ht7]))), N6, rfl⟩
    · -- pc 9: (1 : Int32)
      have k10 : To p.tables e below S0 (T6.setTop (mkF m 9 #[.val (.int y), .val (.int z), .val (.int (0 : Int32)), .unset] [(.int (1 : Int32))])) := by have hq := k6; rw [ht7] at hq; exact hq
      have k11 : To p.tables e below S0 (T6.setTop (mkF m 52 #[.val (.int y), .val (.int z), .val (.int (0 : Int32)), .val (.int (1 : Int32))] [(.int (0 : Int32))])) := fun tt hq => k10 tt (by
        show Steps _ _ _ (T6.setTop (mkF m 9 #[.val (.int y), .val (.int z), .val (.int (0 : Int32)), .unset] [(.int (1 : Int32))])) _
        refine XS.istoreN X6.here hx rfl (hb hby d_method_6_code_9) rfl (l' := #[.val (.int y), .val (.int z), .val (.int (0 : Int32)), .val (.int (1 : Int32))]) rfl ?_
        show Steps _ _ _ (T6.setTop (mkF m 10 #[.val (.int y), .val (.int z), .val (.int (0 : Int32)), .val (.int (1 : Int32))] [])) _
        refine XS.iloadN X6.here hx rfl (hb hby d_method_6_code_10) rfl ?_
        show Steps _ _ _ (T6.setTop (mkF m 11 #[.val (.int y), .val (.int z), .val (.int (0 : Int32)), .val (.int (1 : Int32))] [(.int (0 : Int32))])) _
        refine XS.iloadN X6.here hx rfl (hb hby d_method_6_code_11) rfl ?_
        show Steps _ _ _ (T6.setTop (mkF m 12 #[.val (.int y), .val (.int z), .val (.int (0 : Int32)), .val (.int (1 : Int32))] [(.int (1 : Int32)), (.int (0 : Int32))])) _
        refine XS.icmpYes X6.here hx rfl (pc0 := 12) (pc' := 51) rfl (hb hby d_method_6_code_12) rfl (feq (by decide)).2 (by decide) (by decide) ?_
        show Steps _ _ _ (T6.setTop (mkF m 51 #[.val (.int y), .val (.int z), .val (.int (0 : Int32)), .val (.int (1 : Int32))] [])) _
        refine XS.iconst X6.here hx rfl (hb hby d_method_6_code_51) ?_
        show Steps _ _ _ (T6.setTop (mkF m 52 #[.val (.int y), .val (.int z), .val (.int (0 : Int32)), .val (.int (1 : Int32))] [(.int (0 : Int32))])) _
        exact hq)
      have hE := e6
      refine retInt X6 hx hret hlk (by simp) rfl (hb hby d_method_6_code_52) k11 ?_ (by decide) (by decide)
      try rw [hE]
      exact ⟨congrArg (fun z => some (Value.int z)) (Eq.symm (if_neg (fun q => by rw [own_T0 ht3, own_T1 ht7] at q; exact absurd (congrArg List.length q) (by simp)))), N6, rfl⟩
    · -- pc 9: (2 : Int32)
      have k12 : To p.tables e below S0 (T6.setTop (mkF m 9 #[.val (.int y), .val (.int z), .val (.int (0 : Int32)), .unset] [(.int (2 : Int32))])) := by have hq := k6; rw [ht7] at hq; exact hq
      have k13 : To p.tables e below S0 (T6.setTop (mkF m 52 #[.val (.int y), .val (.int z), .val (.int (0 : Int32)), .val (.int (2 : Int32))] [(.int (0 : Int32))])) := fun tt hq => k12 tt (by
        show Steps _ _ _ (T6.setTop (mkF m 9 #[.val (.int y), .val (.int z), .val (.int (0 : Int32)), .unset] [(.int (2 : Int32))])) _
        refine XS.istoreN X6.here hx rfl (hb hby d_method_6_code_9) rfl (l' := #[.val (.int y), .val (.int z), .val (.int (0 : Int32)), .val (.int (2 : Int32))]) rfl ?_
        show Steps _ _ _ (T6.setTop (mkF m 10 #[.val (.int y), .val (.int z), .val (.int (0 : Int32)), .val (.int (2 : Int32))] [])) _
        refine XS.iloadN X6.here hx rfl (hb hby d_method_6_code_10) rfl ?_
        show Steps _ _ _ (T6.setTop (mkF m 11 #[.val (.int y), .val (.int z), .val (.int (0 : Int32)), .val (.int (2 : Int32))] [(.int (0 : Int32))])) _
        refine XS.iloadN X6.here hx rfl (hb hby d_method_6_code_11) rfl ?_
        show Steps _ _ _ (T6.setTop (mkF m 12 #[.val (.int y), .val (.int z), .val (.int (0 : Int32)), .val (.int (2 : Int32))] [(.int (2 : Int32)), (.int (0 : Int32))])) _
        refine XS.icmpYes X6.here hx rfl (pc0 := 12) (pc' := 51) rfl (hb hby d_method_6_code_12) rfl (feq (by decide)).2 (by decide) (by decide) ?_
        show Steps _ _ _ (T6.setTop (mkF m 51 #[.val (.int y), .val (.int z), .val (.int (0 : Int32)), .val (.int (2 : Int32))] [])) _
        refine XS.iconst X6.here hx rfl (hb hby d_method_6_code_51) ?_
        show Steps _ _ _ (T6.setTop (mkF m 52 #[.val (.int y), .val (.int z), .val (.int (0 : Int32)), .val (.int (2 : Int32))] [(.int (0 : Int32))])) _
        exact hq)
      have hE := e6
      refine retInt X6 hx hret hlk (by simp) rfl (hb hby d_method_6_code_52) k13 ?_ (by decide) (by decide)
      try rw [hE]
      exact ⟨congrArg (fun z => some (Value.int z)) (Eq.symm (if_neg (fun q => by rw [own_T0 ht3, own_T2 ht7] at q; exact absurd (congrArg List.length q) (by simp)))), N6, rfl⟩
  · -- pc 4: (1 : Int32)
    have k14 : To p.tables e below S0 (T2.setTop (mkF m 4 #[.val (.int y), .val (.int z), .unset, .unset] [(.int (1 : Int32))])) := by have hq := k2; rw [ht3] at hq; exact hq
    have k15 : To p.tables e below S0 (T2.setTop (mkF m 6 #[.val (.int y), .val (.int z), .val (.int (1 : Int32)), .unset] [(.int z)])) := fun tt hq => k14 tt (by
      show Steps _ _ _ (T2.setTop (mkF m 4 #[.val (.int y), .val (.int z), .unset, .unset] [(.int (1 : Int32))])) _
      refine XS.istoreN X2.here hx rfl (hb hby d_method_6_code_4) rfl (l' := #[.val (.int y), .val (.int z), .val (.int (1 : Int32)), .unset]) rfl ?_
      show Steps _ _ _ (T2.setTop (mkF m 5 #[.val (.int y), .val (.int z), .val (.int (1 : Int32)), .unset] [])) _
      refine XS.iloadN X2.here hx rfl (hb hby d_method_6_code_5) rfl ?_
      show Steps _ _ _ (T2.setTop (mkF m 6 #[.val (.int y), .val (.int z), .val (.int (1 : Int32)), .unset] [(.int z)])) _
      exact hq)
    obtain ⟨_, T16, L16, X16, ⟨rfl, Nq16, eq16⟩, k16a⟩ := callS' X2 hx hZ (y := (⟨"com/example/huntaway/huntaway/ObligationEqualsPinLaw", "len", "(I)I"⟩ : MethodName)) hown (hw _ (List.mem_of_getElem? (i := 7) rfl)) (hw _ (List.mem_of_getElem? (i := 8) rfl)) (hw _ (List.mem_of_getElem? (i := 5) rfl)) (hw _ (List.mem_of_getElem? (i := 9) rfl)) (by decide) (backC (W := 0) (rm_len l Z a0 hw z h0 n0 (by omega)) hZ (hw _ (List.mem_of_getElem? (i := 9) rfl)) (hw _ (List.mem_of_getElem? (i := 5) rfl)) (by decide) (by decide)) e2 (argsL := [(.int z)]) (rest := []) rfl rfl pd_1 rfl (by rw [hml]; rfl) (hb hby d_method_6_code_6) (Nat.le_of_eq rfl) (by decide) (by decide) k15
    have k16 : To p.tables e below S0 (T16.setTop (mkF m 9 #[.val (.int y), .val (.int z), .val (.int (1 : Int32)), .unset] [(.int (own_len z))])) := k16a
    have N16 := N2.app Nq16
    have e16 : T16.heap = h0 := eq16
    rcases own_lenc z with ht17 | ht17 | ht17
    · -- pc 9: (0 : Int32)
      have k18 : To p.tables e below S0 (T16.setTop (mkF m 9 #[.val (.int y), .val (.int z), .val (.int (1 : Int32)), .unset] [(.int (0 : Int32))])) := by have hq := k16; rw [ht17] at hq; exact hq
      have k19 : To p.tables e below S0 (T16.setTop (mkF m 52 #[.val (.int y), .val (.int z), .val (.int (1 : Int32)), .val (.int (0 : Int32))] [(.int (0 : Int32))])) := fun tt hq => k18 tt (by
        show Steps _ _ _ (T16.setTop (mkF m 9 #[.val (.int y), .val (.int z), .val (.int (1 : Int32)), .unset] [(.int (0 : Int32))])) _
        refine XS.istoreN X16.here hx rfl (hb hby d_method_6_code_9) rfl (l' := #[.val (.int y), .val (.int z), .val (.int (1 : Int32)), .val (.int (0 : Int32))]) rfl ?_
        show Steps _ _ _ (T16.setTop (mkF m 10 #[.val (.int y), .val (.int z), .val (.int (1 : Int32)), .val (.int (0 : Int32))] [])) _
        refine XS.iloadN X16.here hx rfl (hb hby d_method_6_code_10) rfl ?_
        show Steps _ _ _ (T16.setTop (mkF m 11 #[.val (.int y), .val (.int z), .val (.int (1 : Int32)), .val (.int (0 : Int32))] [(.int (1 : Int32))])) _
        refine XS.iloadN X16.here hx rfl (hb hby d_method_6_code_11) rfl ?_
        show Steps _ _ _ (T16.setTop (mkF m 12 #[.val (.int y), .val (.int z), .val (.int (1 : Int32)), .val (.int (0 : Int32))] [(.int (0 : Int32)), (.int (1 : Int32))])) _
        refine XS.icmpYes X16.here hx rfl (pc0 := 12) (pc' := 51) rfl (hb hby d_method_6_code_12) rfl (feq (by decide)).2 (by decide) (by decide) ?_
        show Steps _ _ _ (T16.setTop (mkF m 51 #[.val (.int y), .val (.int z), .val (.int (1 : Int32)), .val (.int (0 : Int32))] [])) _
        refine XS.iconst X16.here hx rfl (hb hby d_method_6_code_51) ?_
        show Steps _ _ _ (T16.setTop (mkF m 52 #[.val (.int y), .val (.int z), .val (.int (1 : Int32)), .val (.int (0 : Int32))] [(.int (0 : Int32))])) _
        exact hq)
      have hE := e16
      refine retInt X16 hx hret hlk (by simp) rfl (hb hby d_method_6_code_52) k19 ?_ (by decide) (by decide)
      try rw [hE]
      exact ⟨congrArg (fun z => some (Value.int z)) (Eq.symm (if_neg (fun q => by rw [own_T1 ht3, own_T0 ht17] at q; exact absurd (congrArg List.length q) (by simp)))), N16, rfl⟩
    · -- pc 9: (1 : Int32)
      have k20 : To p.tables e below S0 (T16.setTop (mkF m 9 #[.val (.int y), .val (.int z), .val (.int (1 : Int32)), .unset] [(.int (1 : Int32))])) := by have hq := k16; rw [ht17] at hq; exact hq
      have k21 : To p.tables e below S0 (T16.setTop (mkF m 21 #[.val (.int y), .val (.int z), .val (.int (1 : Int32)), .val (.int (1 : Int32))] [(.int y)])) := fun tt hq => k20 tt (by
        show Steps _ _ _ (T16.setTop (mkF m 9 #[.val (.int y), .val (.int z), .val (.int (1 : Int32)), .unset] [(.int (1 : Int32))])) _
        refine XS.istoreN X16.here hx rfl (hb hby d_method_6_code_9) rfl (l' := #[.val (.int y), .val (.int z), .val (.int (1 : Int32)), .val (.int (1 : Int32))]) rfl ?_
        show Steps _ _ _ (T16.setTop (mkF m 10 #[.val (.int y), .val (.int z), .val (.int (1 : Int32)), .val (.int (1 : Int32))] [])) _
        refine XS.iloadN X16.here hx rfl (hb hby d_method_6_code_10) rfl ?_
        show Steps _ _ _ (T16.setTop (mkF m 11 #[.val (.int y), .val (.int z), .val (.int (1 : Int32)), .val (.int (1 : Int32))] [(.int (1 : Int32))])) _
        refine XS.iloadN X16.here hx rfl (hb hby d_method_6_code_11) rfl ?_
        show Steps _ _ _ (T16.setTop (mkF m 12 #[.val (.int y), .val (.int z), .val (.int (1 : Int32)), .val (.int (1 : Int32))] [(.int (1 : Int32)), (.int (1 : Int32))])) _
        refine XS.icmpNo X16.here hx rfl (hb hby d_method_6_code_12) rfl (teq (by decide)).2 ?_
        show Steps _ _ _ (T16.setTop (mkF m 15 #[.val (.int y), .val (.int z), .val (.int (1 : Int32)), .val (.int (1 : Int32))] [])) _
        refine XS.iloadN X16.here hx rfl (hb hby d_method_6_code_15) rfl ?_
        show Steps _ _ _ (T16.setTop (mkF m 16 #[.val (.int y), .val (.int z), .val (.int (1 : Int32)), .val (.int (1 : Int32))] [(.int (1 : Int32))])) _
        refine XS.iconst X16.here hx rfl (hb hby d_method_6_code_16) ?_
        show Steps _ _ _ (T16.setTop (mkF m 17 #[.val (.int y), .val (.int z), .val (.int (1 : Int32)), .val (.int (1 : Int32))] [(.int (1 : Int32)), (.int (1 : Int32))])) _
        refine XS.icmpNo X16.here hx rfl (hb hby d_method_6_code_17) rfl (flt (by decide)).1 ?_
        show Steps _ _ _ (T16.setTop (mkF m 20 #[.val (.int y), .val (.int z), .val (.int (1 : Int32)), .val (.int (1 : Int32))] [])) _
        refine XS.iloadN X16.here hx rfl (hb hby d_method_6_code_20) rfl ?_
        show Steps _ _ _ (T16.setTop (mkF m 21 #[.val (.int y), .val (.int z), .val (.int (1 : Int32)), .val (.int (1 : Int32))] [(.int y)])) _
        exact hq)
      obtain ⟨_, T22, L22, X22, ⟨rfl, Nq22, eq22⟩, k22a⟩ := callS' X16 hx hZ (y := (⟨"com/example/huntaway/huntaway/ObligationEqualsPinLaw", "c0", "(I)C"⟩ : MethodName)) hown (hw _ (List.mem_of_getElem? (i := 36) rfl)) (hw _ (List.mem_of_getElem? (i := 37) rfl)) (hw _ (List.mem_of_getElem? (i := 5) rfl)) (hw _ (List.mem_of_getElem? (i := 38) rfl)) (by decide) (backC (W := 0) (rm_c0 l Z a0 hw y h0 n0 (by omega)) hZ (hw _ (List.mem_of_getElem? (i := 38) rfl)) (hw _ (List.mem_of_getElem? (i := 5) rfl)) (by decide) (by decide)) e16 (argsL := [(.int y)]) (rest := []) rfl rfl pd_2 rfl (by rw [hml]; rfl) (hb hby d_method_6_code_21) (Nat.le_of_eq rfl) (by decide) (by decide) k21
      have k22 : To p.tables e below S0 (T22.setTop (mkF m 24 #[.val (.int y), .val (.int z), .val (.int (1 : Int32)), .val (.int (1 : Int32))] [(.int (own_c0 y))])) := k22a
      have N22 := N16.app Nq22
      have e22 : T22.heap = h0 := eq22
      have k23 : To p.tables e below S0 (T22.setTop (mkF m 25 #[.val (.int y), .val (.int z), .val (.int (1 : Int32)), .val (.int (1 : Int32))] [(.int z), (.int (own_c0 y))])) := fun tt hq => k22 tt (by
        show Steps _ _ _ (T22.setTop (mkF m 24 #[.val (.int y), .val (.int z), .val (.int (1 : Int32)), .val (.int (1 : Int32))] [(.int (own_c0 y))])) _
        refine XS.iloadN X22.here hx rfl (hb hby d_method_6_code_24) rfl ?_
        show Steps _ _ _ (T22.setTop (mkF m 25 #[.val (.int y), .val (.int z), .val (.int (1 : Int32)), .val (.int (1 : Int32))] [(.int z), (.int (own_c0 y))])) _
        exact hq)
      obtain ⟨_, T24, L24, X24, ⟨rfl, Nq24, eq24⟩, k24a⟩ := callS' X22 hx hZ (y := (⟨"com/example/huntaway/huntaway/ObligationEqualsPinLaw", "c0", "(I)C"⟩ : MethodName)) hown (hw _ (List.mem_of_getElem? (i := 36) rfl)) (hw _ (List.mem_of_getElem? (i := 37) rfl)) (hw _ (List.mem_of_getElem? (i := 5) rfl)) (hw _ (List.mem_of_getElem? (i := 38) rfl)) (by decide) (backC (W := 1) (rm_c0 l Z a0 hw z h0 n0 (by omega)) hZ (hw _ (List.mem_of_getElem? (i := 38) rfl)) (hw _ (List.mem_of_getElem? (i := 5) rfl)) (by decide) (by decide)) e22 (argsL := [(.int z)]) (rest := [(.int (own_c0 y))]) rfl rfl pd_2 rfl (by rw [hml]; rfl) (hb hby d_method_6_code_25) (Nat.le_of_eq rfl) (by decide) (by decide) k23
      have k24 : To p.tables e below S0 (T24.setTop (mkF m 28 #[.val (.int y), .val (.int z), .val (.int (1 : Int32)), .val (.int (1 : Int32))] [(.int (own_c0 z)), (.int (own_c0 y))])) := k24a
      have N24 := N22.app Nq24
      have e24 : T24.heap = h0 := eq24
      by_cases hc28_25 : (own_c0 y) = (own_c0 z)
      · -- pc 28, holds
        have k26 : To p.tables e below S0 (T24.setTop (mkF m 52 #[.val (.int y), .val (.int z), .val (.int (1 : Int32)), .val (.int (1 : Int32))] [(.int (1 : Int32))])) := fun tt hq => k24 tt (by
          show Steps _ _ _ (T24.setTop (mkF m 28 #[.val (.int y), .val (.int z), .val (.int (1 : Int32)), .val (.int (1 : Int32))] [(.int (own_c0 z)), (.int (own_c0 y))])) _
          refine XS.icmpNo X24.here hx rfl (hb hby d_method_6_code_28) rfl (teq hc28_25).2 ?_
          show Steps _ _ _ (T24.setTop (mkF m 31 #[.val (.int y), .val (.int z), .val (.int (1 : Int32)), .val (.int (1 : Int32))] [])) _
          refine XS.iloadN X24.here hx rfl (hb hby d_method_6_code_31) rfl ?_
          show Steps _ _ _ (T24.setTop (mkF m 32 #[.val (.int y), .val (.int z), .val (.int (1 : Int32)), .val (.int (1 : Int32))] [(.int (1 : Int32))])) _
          refine XS.iconst X24.here hx rfl (hb hby d_method_6_code_32) ?_
          show Steps _ _ _ (T24.setTop (mkF m 33 #[.val (.int y), .val (.int z), .val (.int (1 : Int32)), .val (.int (1 : Int32))] [(.int (2 : Int32)), (.int (1 : Int32))])) _
          refine XS.icmpYes X24.here hx rfl (pc0 := 33) (pc' := 47) rfl (hb hby d_method_6_code_33) rfl (tlt (by decide)).1 (by decide) (by decide) ?_
          show Steps _ _ _ (T24.setTop (mkF m 47 #[.val (.int y), .val (.int z), .val (.int (1 : Int32)), .val (.int (1 : Int32))] [])) _
          refine XS.iconst X24.here hx rfl (hb hby d_method_6_code_47) ?_
          show Steps _ _ _ (T24.setTop (mkF m 48 #[.val (.int y), .val (.int z), .val (.int (1 : Int32)), .val (.int (1 : Int32))] [(.int (1 : Int32))])) _
          refine XS.goto X24.here hx rfl (pc0 := 48) (pc' := 52) rfl (hb hby d_method_6_code_48) (by decide) (by decide) ?_
          show Steps _ _ _ (T24.setTop (mkF m 52 #[.val (.int y), .val (.int z), .val (.int (1 : Int32)), .val (.int (1 : Int32))] [(.int (1 : Int32))])) _
          exact hq)
        have hE := e24
        refine retInt X24 hx hret hlk (by simp) rfl (hb hby d_method_6_code_52) k26 ?_ (by decide) (by decide)
        try rw [hE]
        exact ⟨congrArg (fun z => some (Value.int z)) (Eq.symm (if_pos (by rw [own_T1 ht3, own_T1 ht17, hc28_25]))), N24, rfl⟩
      · -- pc 28, holds not
        have k27 : To p.tables e below S0 (T24.setTop (mkF m 52 #[.val (.int y), .val (.int z), .val (.int (1 : Int32)), .val (.int (1 : Int32))] [(.int (0 : Int32))])) := fun tt hq => k24 tt (by
          show Steps _ _ _ (T24.setTop (mkF m 28 #[.val (.int y), .val (.int z), .val (.int (1 : Int32)), .val (.int (1 : Int32))] [(.int (own_c0 z)), (.int (own_c0 y))])) _
          refine XS.icmpYes X24.here hx rfl (pc0 := 28) (pc' := 51) rfl (hb hby d_method_6_code_28) rfl (feq hc28_25).2 (by decide) (by decide) ?_
          show Steps _ _ _ (T24.setTop (mkF m 51 #[.val (.int y), .val (.int z), .val (.int (1 : Int32)), .val (.int (1 : Int32))] [])) _
          refine XS.iconst X24.here hx rfl (hb hby d_method_6_code_51) ?_
          show Steps _ _ _ (T24.setTop (mkF m 52 #[.val (.int y), .val (.int z), .val (.int (1 : Int32)), .val (.int (1 : Int32))] [(.int (0 : Int32))])) _
          exact hq)
        have hE := e24
        refine retInt X24 hx hret hlk (by simp) rfl (hb hby d_method_6_code_52) k27 ?_ (by decide) (by decide)
        try rw [hE]
        exact ⟨congrArg (fun z => some (Value.int z)) (Eq.symm (if_neg (fun q => by rw [own_T1 ht3, own_T1 ht17] at q; exact hc28_25 (own_inj0 (List.cons.inj q).1)))), N24, rfl⟩
    · -- pc 9: (2 : Int32)
      have k28 : To p.tables e below S0 (T16.setTop (mkF m 9 #[.val (.int y), .val (.int z), .val (.int (1 : Int32)), .unset] [(.int (2 : Int32))])) := by have hq := k16; rw [ht17] at hq; exact hq
      have k29 : To p.tables e below S0 (T16.setTop (mkF m 52 #[.val (.int y), .val (.int z), .val (.int (1 : Int32)), .val (.int (2 : Int32))] [(.int (0 : Int32))])) := fun tt hq => k28 tt (by
        show Steps _ _ _ (T16.setTop (mkF m 9 #[.val (.int y), .val (.int z), .val (.int (1 : Int32)), .unset] [(.int (2 : Int32))])) _
        refine XS.istoreN X16.here hx rfl (hb hby d_method_6_code_9) rfl (l' := #[.val (.int y), .val (.int z), .val (.int (1 : Int32)), .val (.int (2 : Int32))]) rfl ?_
        show Steps _ _ _ (T16.setTop (mkF m 10 #[.val (.int y), .val (.int z), .val (.int (1 : Int32)), .val (.int (2 : Int32))] [])) _
        refine XS.iloadN X16.here hx rfl (hb hby d_method_6_code_10) rfl ?_
        show Steps _ _ _ (T16.setTop (mkF m 11 #[.val (.int y), .val (.int z), .val (.int (1 : Int32)), .val (.int (2 : Int32))] [(.int (1 : Int32))])) _
        refine XS.iloadN X16.here hx rfl (hb hby d_method_6_code_11) rfl ?_
        show Steps _ _ _ (T16.setTop (mkF m 12 #[.val (.int y), .val (.int z), .val (.int (1 : Int32)), .val (.int (2 : Int32))] [(.int (2 : Int32)), (.int (1 : Int32))])) _
        refine XS.icmpYes X16.here hx rfl (pc0 := 12) (pc' := 51) rfl (hb hby d_method_6_code_12) rfl (feq (by decide)).2 (by decide) (by decide) ?_
        show Steps _ _ _ (T16.setTop (mkF m 51 #[.val (.int y), .val (.int z), .val (.int (1 : Int32)), .val (.int (2 : Int32))] [])) _
        refine XS.iconst X16.here hx rfl (hb hby d_method_6_code_51) ?_
        show Steps _ _ _ (T16.setTop (mkF m 52 #[.val (.int y), .val (.int z), .val (.int (1 : Int32)), .val (.int (2 : Int32))] [(.int (0 : Int32))])) _
        exact hq)
      have hE := e16
      refine retInt X16 hx hret hlk (by simp) rfl (hb hby d_method_6_code_52) k29 ?_ (by decide) (by decide)
      try rw [hE]
      exact ⟨congrArg (fun z => some (Value.int z)) (Eq.symm (if_neg (fun q => by rw [own_T1 ht3, own_T2 ht17] at q; exact absurd (congrArg List.length q) (by simp)))), N16, rfl⟩
  · -- pc 4: (2 : Int32)
    have k30 : To p.tables e below S0 (T2.setTop (mkF m 4 #[.val (.int y), .val (.int z), .unset, .unset] [(.int (2 : Int32))])) := by have hq := k2; rw [ht3] at hq; exact hq
    have k31 : To p.tables e below S0 (T2.setTop (mkF m 6 #[.val (.int y), .val (.int z), .val (.int (2 : Int32)), .unset] [(.int z)])) := fun tt hq => k30 tt (by
      show Steps _ _ _ (T2.setTop (mkF m 4 #[.val (.int y), .val (.int z), .unset, .unset] [(.int (2 : Int32))])) _
      refine XS.istoreN X2.here hx rfl (hb hby d_method_6_code_4) rfl (l' := #[.val (.int y), .val (.int z), .val (.int (2 : Int32)), .unset]) rfl ?_
      show Steps _ _ _ (T2.setTop (mkF m 5 #[.val (.int y), .val (.int z), .val (.int (2 : Int32)), .unset] [])) _
      refine XS.iloadN X2.here hx rfl (hb hby d_method_6_code_5) rfl ?_
      show Steps _ _ _ (T2.setTop (mkF m 6 #[.val (.int y), .val (.int z), .val (.int (2 : Int32)), .unset] [(.int z)])) _
      exact hq)
    obtain ⟨_, T32, L32, X32, ⟨rfl, Nq32, eq32⟩, k32a⟩ := callS' X2 hx hZ (y := (⟨"com/example/huntaway/huntaway/ObligationEqualsPinLaw", "len", "(I)I"⟩ : MethodName)) hown (hw _ (List.mem_of_getElem? (i := 7) rfl)) (hw _ (List.mem_of_getElem? (i := 8) rfl)) (hw _ (List.mem_of_getElem? (i := 5) rfl)) (hw _ (List.mem_of_getElem? (i := 9) rfl)) (by decide) (backC (W := 0) (rm_len l Z a0 hw z h0 n0 (by omega)) hZ (hw _ (List.mem_of_getElem? (i := 9) rfl)) (hw _ (List.mem_of_getElem? (i := 5) rfl)) (by decide) (by decide)) e2 (argsL := [(.int z)]) (rest := []) rfl rfl pd_1 rfl (by rw [hml]; rfl) (hb hby d_method_6_code_6) (Nat.le_of_eq rfl) (by decide) (by decide) k31
    have k32 : To p.tables e below S0 (T32.setTop (mkF m 9 #[.val (.int y), .val (.int z), .val (.int (2 : Int32)), .unset] [(.int (own_len z))])) := k32a
    have N32 := N2.app Nq32
    have e32 : T32.heap = h0 := eq32
    rcases own_lenc z with ht33 | ht33 | ht33
    · -- pc 9: (0 : Int32)
      have k34 : To p.tables e below S0 (T32.setTop (mkF m 9 #[.val (.int y), .val (.int z), .val (.int (2 : Int32)), .unset] [(.int (0 : Int32))])) := by have hq := k32; rw [ht33] at hq; exact hq
      have k35 : To p.tables e below S0 (T32.setTop (mkF m 52 #[.val (.int y), .val (.int z), .val (.int (2 : Int32)), .val (.int (0 : Int32))] [(.int (0 : Int32))])) := fun tt hq => k34 tt (by
        show Steps _ _ _ (T32.setTop (mkF m 9 #[.val (.int y), .val (.int z), .val (.int (2 : Int32)), .unset] [(.int (0 : Int32))])) _
        refine XS.istoreN X32.here hx rfl (hb hby d_method_6_code_9) rfl (l' := #[.val (.int y), .val (.int z), .val (.int (2 : Int32)), .val (.int (0 : Int32))]) rfl ?_
        show Steps _ _ _ (T32.setTop (mkF m 10 #[.val (.int y), .val (.int z), .val (.int (2 : Int32)), .val (.int (0 : Int32))] [])) _
        refine XS.iloadN X32.here hx rfl (hb hby d_method_6_code_10) rfl ?_
        show Steps _ _ _ (T32.setTop (mkF m 11 #[.val (.int y), .val (.int z), .val (.int (2 : Int32)), .val (.int (0 : Int32))] [(.int (2 : Int32))])) _
        refine XS.iloadN X32.here hx rfl (hb hby d_method_6_code_11) rfl ?_
        show Steps _ _ _ (T32.setTop (mkF m 12 #[.val (.int y), .val (.int z), .val (.int (2 : Int32)), .val (.int (0 : Int32))] [(.int (0 : Int32)), (.int (2 : Int32))])) _
        refine XS.icmpYes X32.here hx rfl (pc0 := 12) (pc' := 51) rfl (hb hby d_method_6_code_12) rfl (feq (by decide)).2 (by decide) (by decide) ?_
        show Steps _ _ _ (T32.setTop (mkF m 51 #[.val (.int y), .val (.int z), .val (.int (2 : Int32)), .val (.int (0 : Int32))] [])) _
        refine XS.iconst X32.here hx rfl (hb hby d_method_6_code_51) ?_
        show Steps _ _ _ (T32.setTop (mkF m 52 #[.val (.int y), .val (.int z), .val (.int (2 : Int32)), .val (.int (0 : Int32))] [(.int (0 : Int32))])) _
        exact hq)
      have hE := e32
      refine retInt X32 hx hret hlk (by simp) rfl (hb hby d_method_6_code_52) k35 ?_ (by decide) (by decide)
      try rw [hE]
      exact ⟨congrArg (fun z => some (Value.int z)) (Eq.symm (if_neg (fun q => by rw [own_T2 ht3, own_T0 ht33] at q; exact absurd (congrArg List.length q) (by simp)))), N32, rfl⟩
    · -- pc 9: (1 : Int32)
      have k36 : To p.tables e below S0 (T32.setTop (mkF m 9 #[.val (.int y), .val (.int z), .val (.int (2 : Int32)), .unset] [(.int (1 : Int32))])) := by have hq := k32; rw [ht33] at hq; exact hq
      have k37 : To p.tables e below S0 (T32.setTop (mkF m 52 #[.val (.int y), .val (.int z), .val (.int (2 : Int32)), .val (.int (1 : Int32))] [(.int (0 : Int32))])) := fun tt hq => k36 tt (by
        show Steps _ _ _ (T32.setTop (mkF m 9 #[.val (.int y), .val (.int z), .val (.int (2 : Int32)), .unset] [(.int (1 : Int32))])) _
        refine XS.istoreN X32.here hx rfl (hb hby d_method_6_code_9) rfl (l' := #[.val (.int y), .val (.int z), .val (.int (2 : Int32)), .val (.int (1 : Int32))]) rfl ?_
        show Steps _ _ _ (T32.setTop (mkF m 10 #[.val (.int y), .val (.int z), .val (.int (2 : Int32)), .val (.int (1 : Int32))] [])) _
        refine XS.iloadN X32.here hx rfl (hb hby d_method_6_code_10) rfl ?_
        show Steps _ _ _ (T32.setTop (mkF m 11 #[.val (.int y), .val (.int z), .val (.int (2 : Int32)), .val (.int (1 : Int32))] [(.int (2 : Int32))])) _
        refine XS.iloadN X32.here hx rfl (hb hby d_method_6_code_11) rfl ?_
        show Steps _ _ _ (T32.setTop (mkF m 12 #[.val (.int y), .val (.int z), .val (.int (2 : Int32)), .val (.int (1 : Int32))] [(.int (1 : Int32)), (.int (2 : Int32))])) _
        refine XS.icmpYes X32.here hx rfl (pc0 := 12) (pc' := 51) rfl (hb hby d_method_6_code_12) rfl (feq (by decide)).2 (by decide) (by decide) ?_
        show Steps _ _ _ (T32.setTop (mkF m 51 #[.val (.int y), .val (.int z), .val (.int (2 : Int32)), .val (.int (1 : Int32))] [])) _
        refine XS.iconst X32.here hx rfl (hb hby d_method_6_code_51) ?_
        show Steps _ _ _ (T32.setTop (mkF m 52 #[.val (.int y), .val (.int z), .val (.int (2 : Int32)), .val (.int (1 : Int32))] [(.int (0 : Int32))])) _
        exact hq)
      have hE := e32
      refine retInt X32 hx hret hlk (by simp) rfl (hb hby d_method_6_code_52) k37 ?_ (by decide) (by decide)
      try rw [hE]
      exact ⟨congrArg (fun z => some (Value.int z)) (Eq.symm (if_neg (fun q => by rw [own_T2 ht3, own_T1 ht33] at q; exact absurd (congrArg List.length q) (by simp)))), N32, rfl⟩
    · -- pc 9: (2 : Int32)
      have k38 : To p.tables e below S0 (T32.setTop (mkF m 9 #[.val (.int y), .val (.int z), .val (.int (2 : Int32)), .unset] [(.int (2 : Int32))])) := by have hq := k32; rw [ht33] at hq; exact hq
      have k39 : To p.tables e below S0 (T32.setTop (mkF m 21 #[.val (.int y), .val (.int z), .val (.int (2 : Int32)), .val (.int (2 : Int32))] [(.int y)])) := fun tt hq => k38 tt (by
        show Steps _ _ _ (T32.setTop (mkF m 9 #[.val (.int y), .val (.int z), .val (.int (2 : Int32)), .unset] [(.int (2 : Int32))])) _
        refine XS.istoreN X32.here hx rfl (hb hby d_method_6_code_9) rfl (l' := #[.val (.int y), .val (.int z), .val (.int (2 : Int32)), .val (.int (2 : Int32))]) rfl ?_
        show Steps _ _ _ (T32.setTop (mkF m 10 #[.val (.int y), .val (.int z), .val (.int (2 : Int32)), .val (.int (2 : Int32))] [])) _
        refine XS.iloadN X32.here hx rfl (hb hby d_method_6_code_10) rfl ?_
        show Steps _ _ _ (T32.setTop (mkF m 11 #[.val (.int y), .val (.int z), .val (.int (2 : Int32)), .val (.int (2 : Int32))] [(.int (2 : Int32))])) _
        refine XS.iloadN X32.here hx rfl (hb hby d_method_6_code_11) rfl ?_
        show Steps _ _ _ (T32.setTop (mkF m 12 #[.val (.int y), .val (.int z), .val (.int (2 : Int32)), .val (.int (2 : Int32))] [(.int (2 : Int32)), (.int (2 : Int32))])) _
        refine XS.icmpNo X32.here hx rfl (hb hby d_method_6_code_12) rfl (teq (by decide)).2 ?_
        show Steps _ _ _ (T32.setTop (mkF m 15 #[.val (.int y), .val (.int z), .val (.int (2 : Int32)), .val (.int (2 : Int32))] [])) _
        refine XS.iloadN X32.here hx rfl (hb hby d_method_6_code_15) rfl ?_
        show Steps _ _ _ (T32.setTop (mkF m 16 #[.val (.int y), .val (.int z), .val (.int (2 : Int32)), .val (.int (2 : Int32))] [(.int (2 : Int32))])) _
        refine XS.iconst X32.here hx rfl (hb hby d_method_6_code_16) ?_
        show Steps _ _ _ (T32.setTop (mkF m 17 #[.val (.int y), .val (.int z), .val (.int (2 : Int32)), .val (.int (2 : Int32))] [(.int (1 : Int32)), (.int (2 : Int32))])) _
        refine XS.icmpNo X32.here hx rfl (hb hby d_method_6_code_17) rfl (flt (by decide)).1 ?_
        show Steps _ _ _ (T32.setTop (mkF m 20 #[.val (.int y), .val (.int z), .val (.int (2 : Int32)), .val (.int (2 : Int32))] [])) _
        refine XS.iloadN X32.here hx rfl (hb hby d_method_6_code_20) rfl ?_
        show Steps _ _ _ (T32.setTop (mkF m 21 #[.val (.int y), .val (.int z), .val (.int (2 : Int32)), .val (.int (2 : Int32))] [(.int y)])) _
        exact hq)
      obtain ⟨_, T40, L40, X40, ⟨rfl, Nq40, eq40⟩, k40a⟩ := callS' X32 hx hZ (y := (⟨"com/example/huntaway/huntaway/ObligationEqualsPinLaw", "c0", "(I)C"⟩ : MethodName)) hown (hw _ (List.mem_of_getElem? (i := 36) rfl)) (hw _ (List.mem_of_getElem? (i := 37) rfl)) (hw _ (List.mem_of_getElem? (i := 5) rfl)) (hw _ (List.mem_of_getElem? (i := 38) rfl)) (by decide) (backC (W := 0) (rm_c0 l Z a0 hw y h0 n0 (by omega)) hZ (hw _ (List.mem_of_getElem? (i := 38) rfl)) (hw _ (List.mem_of_getElem? (i := 5) rfl)) (by decide) (by decide)) e32 (argsL := [(.int y)]) (rest := []) rfl rfl pd_2 rfl (by rw [hml]; rfl) (hb hby d_method_6_code_21) (Nat.le_of_eq rfl) (by decide) (by decide) k39
      have k40 : To p.tables e below S0 (T40.setTop (mkF m 24 #[.val (.int y), .val (.int z), .val (.int (2 : Int32)), .val (.int (2 : Int32))] [(.int (own_c0 y))])) := k40a
      have N40 := N32.app Nq40
      have e40 : T40.heap = h0 := eq40
      have k41 : To p.tables e below S0 (T40.setTop (mkF m 25 #[.val (.int y), .val (.int z), .val (.int (2 : Int32)), .val (.int (2 : Int32))] [(.int z), (.int (own_c0 y))])) := fun tt hq => k40 tt (by
        show Steps _ _ _ (T40.setTop (mkF m 24 #[.val (.int y), .val (.int z), .val (.int (2 : Int32)), .val (.int (2 : Int32))] [(.int (own_c0 y))])) _
        refine XS.iloadN X40.here hx rfl (hb hby d_method_6_code_24) rfl ?_
        show Steps _ _ _ (T40.setTop (mkF m 25 #[.val (.int y), .val (.int z), .val (.int (2 : Int32)), .val (.int (2 : Int32))] [(.int z), (.int (own_c0 y))])) _
        exact hq)
      obtain ⟨_, T42, L42, X42, ⟨rfl, Nq42, eq42⟩, k42a⟩ := callS' X40 hx hZ (y := (⟨"com/example/huntaway/huntaway/ObligationEqualsPinLaw", "c0", "(I)C"⟩ : MethodName)) hown (hw _ (List.mem_of_getElem? (i := 36) rfl)) (hw _ (List.mem_of_getElem? (i := 37) rfl)) (hw _ (List.mem_of_getElem? (i := 5) rfl)) (hw _ (List.mem_of_getElem? (i := 38) rfl)) (by decide) (backC (W := 1) (rm_c0 l Z a0 hw z h0 n0 (by omega)) hZ (hw _ (List.mem_of_getElem? (i := 38) rfl)) (hw _ (List.mem_of_getElem? (i := 5) rfl)) (by decide) (by decide)) e40 (argsL := [(.int z)]) (rest := [(.int (own_c0 y))]) rfl rfl pd_2 rfl (by rw [hml]; rfl) (hb hby d_method_6_code_25) (Nat.le_of_eq rfl) (by decide) (by decide) k41
      have k42 : To p.tables e below S0 (T42.setTop (mkF m 28 #[.val (.int y), .val (.int z), .val (.int (2 : Int32)), .val (.int (2 : Int32))] [(.int (own_c0 z)), (.int (own_c0 y))])) := k42a
      have N42 := N40.app Nq42
      have e42 : T42.heap = h0 := eq42
      by_cases hc28_43 : (own_c0 y) = (own_c0 z)
      · -- pc 28, holds
        have k44 : To p.tables e below S0 (T42.setTop (mkF m 37 #[.val (.int y), .val (.int z), .val (.int (2 : Int32)), .val (.int (2 : Int32))] [(.int y)])) := fun tt hq => k42 tt (by
          show Steps _ _ _ (T42.setTop (mkF m 28 #[.val (.int y), .val (.int z), .val (.int (2 : Int32)), .val (.int (2 : Int32))] [(.int (own_c0 z)), (.int (own_c0 y))])) _
          refine XS.icmpNo X42.here hx rfl (hb hby d_method_6_code_28) rfl (teq hc28_43).2 ?_
          show Steps _ _ _ (T42.setTop (mkF m 31 #[.val (.int y), .val (.int z), .val (.int (2 : Int32)), .val (.int (2 : Int32))] [])) _
          refine XS.iloadN X42.here hx rfl (hb hby d_method_6_code_31) rfl ?_
          show Steps _ _ _ (T42.setTop (mkF m 32 #[.val (.int y), .val (.int z), .val (.int (2 : Int32)), .val (.int (2 : Int32))] [(.int (2 : Int32))])) _
          refine XS.iconst X42.here hx rfl (hb hby d_method_6_code_32) ?_
          show Steps _ _ _ (T42.setTop (mkF m 33 #[.val (.int y), .val (.int z), .val (.int (2 : Int32)), .val (.int (2 : Int32))] [(.int (2 : Int32)), (.int (2 : Int32))])) _
          refine XS.icmpNo X42.here hx rfl (hb hby d_method_6_code_33) rfl (flt (by decide)).1 ?_
          show Steps _ _ _ (T42.setTop (mkF m 36 #[.val (.int y), .val (.int z), .val (.int (2 : Int32)), .val (.int (2 : Int32))] [])) _
          refine XS.iloadN X42.here hx rfl (hb hby d_method_6_code_36) rfl ?_
          show Steps _ _ _ (T42.setTop (mkF m 37 #[.val (.int y), .val (.int z), .val (.int (2 : Int32)), .val (.int (2 : Int32))] [(.int y)])) _
          exact hq)
        obtain ⟨_, T45, L45, X45, ⟨rfl, Nq45, eq45⟩, k45a⟩ := callS' X42 hx hZ (y := (⟨"com/example/huntaway/huntaway/ObligationEqualsPinLaw", "c1", "(I)C"⟩ : MethodName)) hown (hw _ (List.mem_of_getElem? (i := 39) rfl)) (hw _ (List.mem_of_getElem? (i := 40) rfl)) (hw _ (List.mem_of_getElem? (i := 5) rfl)) (hw _ (List.mem_of_getElem? (i := 41) rfl)) (by decide) (backC (W := 0) (rm_c1 l Z a0 hw y h0 n0 (by omega)) hZ (hw _ (List.mem_of_getElem? (i := 41) rfl)) (hw _ (List.mem_of_getElem? (i := 5) rfl)) (by decide) (by decide)) e42 (argsL := [(.int y)]) (rest := []) rfl rfl pd_2 rfl (by rw [hml]; rfl) (hb hby d_method_6_code_37) (Nat.le_of_eq rfl) (by decide) (by decide) k44
        have k45 : To p.tables e below S0 (T45.setTop (mkF m 40 #[.val (.int y), .val (.int z), .val (.int (2 : Int32)), .val (.int (2 : Int32))] [(.int (own_c1 y))])) := k45a
        have N45 := N42.app Nq45
        have e45 : T45.heap = h0 := eq45
        have k46 : To p.tables e below S0 (T45.setTop (mkF m 41 #[.val (.int y), .val (.int z), .val (.int (2 : Int32)), .val (.int (2 : Int32))] [(.int z), (.int (own_c1 y))])) := fun tt hq => k45 tt (by
          show Steps _ _ _ (T45.setTop (mkF m 40 #[.val (.int y), .val (.int z), .val (.int (2 : Int32)), .val (.int (2 : Int32))] [(.int (own_c1 y))])) _
          refine XS.iloadN X45.here hx rfl (hb hby d_method_6_code_40) rfl ?_
          show Steps _ _ _ (T45.setTop (mkF m 41 #[.val (.int y), .val (.int z), .val (.int (2 : Int32)), .val (.int (2 : Int32))] [(.int z), (.int (own_c1 y))])) _
          exact hq)
        obtain ⟨_, T47, L47, X47, ⟨rfl, Nq47, eq47⟩, k47a⟩ := callS' X45 hx hZ (y := (⟨"com/example/huntaway/huntaway/ObligationEqualsPinLaw", "c1", "(I)C"⟩ : MethodName)) hown (hw _ (List.mem_of_getElem? (i := 39) rfl)) (hw _ (List.mem_of_getElem? (i := 40) rfl)) (hw _ (List.mem_of_getElem? (i := 5) rfl)) (hw _ (List.mem_of_getElem? (i := 41) rfl)) (by decide) (backC (W := 1) (rm_c1 l Z a0 hw z h0 n0 (by omega)) hZ (hw _ (List.mem_of_getElem? (i := 41) rfl)) (hw _ (List.mem_of_getElem? (i := 5) rfl)) (by decide) (by decide)) e45 (argsL := [(.int z)]) (rest := [(.int (own_c1 y))]) rfl rfl pd_2 rfl (by rw [hml]; rfl) (hb hby d_method_6_code_41) (Nat.le_of_eq rfl) (by decide) (by decide) k46
        have k47 : To p.tables e below S0 (T47.setTop (mkF m 44 #[.val (.int y), .val (.int z), .val (.int (2 : Int32)), .val (.int (2 : Int32))] [(.int (own_c1 z)), (.int (own_c1 y))])) := k47a
        have N47 := N45.app Nq47
        have e47 : T47.heap = h0 := eq47
        by_cases hc44_48 : (own_c1 y) = (own_c1 z)
        · -- pc 44, holds
          have k49 : To p.tables e below S0 (T47.setTop (mkF m 52 #[.val (.int y), .val (.int z), .val (.int (2 : Int32)), .val (.int (2 : Int32))] [(.int (1 : Int32))])) := fun tt hq => k47 tt (by
            show Steps _ _ _ (T47.setTop (mkF m 44 #[.val (.int y), .val (.int z), .val (.int (2 : Int32)), .val (.int (2 : Int32))] [(.int (own_c1 z)), (.int (own_c1 y))])) _
            refine XS.icmpNo X47.here hx rfl (hb hby d_method_6_code_44) rfl (teq hc44_48).2 ?_
            show Steps _ _ _ (T47.setTop (mkF m 47 #[.val (.int y), .val (.int z), .val (.int (2 : Int32)), .val (.int (2 : Int32))] [])) _
            refine XS.iconst X47.here hx rfl (hb hby d_method_6_code_47) ?_
            show Steps _ _ _ (T47.setTop (mkF m 48 #[.val (.int y), .val (.int z), .val (.int (2 : Int32)), .val (.int (2 : Int32))] [(.int (1 : Int32))])) _
            refine XS.goto X47.here hx rfl (pc0 := 48) (pc' := 52) rfl (hb hby d_method_6_code_48) (by decide) (by decide) ?_
            show Steps _ _ _ (T47.setTop (mkF m 52 #[.val (.int y), .val (.int z), .val (.int (2 : Int32)), .val (.int (2 : Int32))] [(.int (1 : Int32))])) _
            exact hq)
          have hE := e47
          refine retInt X47 hx hret hlk (by simp) rfl (hb hby d_method_6_code_52) k49 ?_ (by decide) (by decide)
          try rw [hE]
          exact ⟨congrArg (fun z => some (Value.int z)) (Eq.symm (if_pos (by rw [own_T2 ht3, own_T2 ht33, hc28_43, hc44_48]))), N47, rfl⟩
        · -- pc 44, holds not
          have k50 : To p.tables e below S0 (T47.setTop (mkF m 52 #[.val (.int y), .val (.int z), .val (.int (2 : Int32)), .val (.int (2 : Int32))] [(.int (0 : Int32))])) := fun tt hq => k47 tt (by
            show Steps _ _ _ (T47.setTop (mkF m 44 #[.val (.int y), .val (.int z), .val (.int (2 : Int32)), .val (.int (2 : Int32))] [(.int (own_c1 z)), (.int (own_c1 y))])) _
            refine XS.icmpYes X47.here hx rfl (pc0 := 44) (pc' := 51) rfl (hb hby d_method_6_code_44) rfl (feq hc44_48).2 (by decide) (by decide) ?_
            show Steps _ _ _ (T47.setTop (mkF m 51 #[.val (.int y), .val (.int z), .val (.int (2 : Int32)), .val (.int (2 : Int32))] [])) _
            refine XS.iconst X47.here hx rfl (hb hby d_method_6_code_51) ?_
            show Steps _ _ _ (T47.setTop (mkF m 52 #[.val (.int y), .val (.int z), .val (.int (2 : Int32)), .val (.int (2 : Int32))] [(.int (0 : Int32))])) _
            exact hq)
          have hE := e47
          refine retInt X47 hx hret hlk (by simp) rfl (hb hby d_method_6_code_52) k50 ?_ (by decide) (by decide)
          try rw [hE]
          exact ⟨congrArg (fun z => some (Value.int z)) (Eq.symm (if_neg (fun q => by rw [own_T2 ht3, own_T2 ht33] at q; exact hc44_48 (own_inj1 (List.cons.inj (List.cons.inj q).2).1)))), N47, rfl⟩
      · -- pc 28, holds not
        have k51 : To p.tables e below S0 (T42.setTop (mkF m 52 #[.val (.int y), .val (.int z), .val (.int (2 : Int32)), .val (.int (2 : Int32))] [(.int (0 : Int32))])) := fun tt hq => k42 tt (by
          show Steps _ _ _ (T42.setTop (mkF m 28 #[.val (.int y), .val (.int z), .val (.int (2 : Int32)), .val (.int (2 : Int32))] [(.int (own_c0 z)), (.int (own_c0 y))])) _
          refine XS.icmpYes X42.here hx rfl (pc0 := 28) (pc' := 51) rfl (hb hby d_method_6_code_28) rfl (feq hc28_43).2 (by decide) (by decide) ?_
          show Steps _ _ _ (T42.setTop (mkF m 51 #[.val (.int y), .val (.int z), .val (.int (2 : Int32)), .val (.int (2 : Int32))] [])) _
          refine XS.iconst X42.here hx rfl (hb hby d_method_6_code_51) ?_
          show Steps _ _ _ (T42.setTop (mkF m 52 #[.val (.int y), .val (.int z), .val (.int (2 : Int32)), .val (.int (2 : Int32))] [(.int (0 : Int32))])) _
          exact hq)
        have hE := e42
        refine retInt X42 hx hret hlk (by simp) rfl (hb hby d_method_6_code_52) k51 ?_ (by decide) (by decide)
        try rw [hE]
        exact ⟨congrArg (fun z => some (Value.int z)) (Eq.symm (if_neg (fun q => by rw [own_T2 ht3, own_T2 ht33] at q; exact hc28_43 (own_inj0 (List.cons.inj q).1)))), N42, rfl⟩
theorem d_jdk_52_method_21_code_0 : decode jdk_52_method_21_code 0 = .ok (.iconst 0, 1) := by decide +kernel
theorem d_jdk_52_method_21_code_1 : decode jdk_52_method_21_code 1 = .ok (.istore 5, 2) := by decide +kernel
theorem d_jdk_52_method_21_code_3 : decode jdk_52_method_21_code 3 = .ok (.iload 5, 2) := by decide +kernel
theorem d_jdk_52_method_21_code_5 : decode jdk_52_method_21_code 5 = .ok (.iload 4, 2) := by decide +kernel
theorem d_jdk_52_method_21_code_7 : decode jdk_52_method_21_code 7 = .ok (.if_icmp .ge 37, 3) := by decide +kernel
theorem d_jdk_52_method_21_code_10 : decode jdk_52_method_21_code 10 = .ok (.aload_n 0, 1) := by decide +kernel
theorem d_jdk_52_method_21_code_11 : decode jdk_52_method_21_code 11 = .ok (.iload_n 1, 1) := by decide +kernel
theorem d_jdk_52_method_21_code_12 : decode jdk_52_method_21_code 12 = .ok (.caload, 1) := by decide +kernel
theorem d_jdk_52_method_21_code_13 : decode jdk_52_method_21_code 13 = .ok (.istore 6, 2) := by decide +kernel
theorem d_jdk_52_method_21_code_15 : decode jdk_52_method_21_code 15 = .ok (.iload 6, 2) := by decide +kernel
theorem d_jdk_52_method_21_code_17 : decode jdk_52_method_21_code 17 = .ok (.sipush 255, 3) := by decide +kernel
theorem d_jdk_52_method_21_code_20 : decode jdk_52_method_21_code 20 = .ok (.if_icmp .le 6, 3) := by decide +kernel
theorem d_jdk_52_method_21_code_23 : decode jdk_52_method_21_code 23 = .ok (.iload 5, 2) := by decide +kernel
theorem d_jdk_52_method_21_code_25 : decode jdk_52_method_21_code 25 = .ok (.ireturn, 1) := by decide +kernel
theorem d_jdk_52_method_21_code_26 : decode jdk_52_method_21_code 26 = .ok (.aload_n 2, 1) := by decide +kernel
theorem d_jdk_52_method_21_code_27 : decode jdk_52_method_21_code 27 = .ok (.iload_n 3, 1) := by decide +kernel
theorem d_jdk_52_method_21_code_28 : decode jdk_52_method_21_code 28 = .ok (.iload 6, 2) := by decide +kernel
theorem d_jdk_52_method_21_code_30 : decode jdk_52_method_21_code 30 = .ok (.i2b, 1) := by decide +kernel
theorem d_jdk_52_method_21_code_31 : decode jdk_52_method_21_code 31 = .ok (.bastore, 1) := by decide +kernel
theorem d_jdk_52_method_21_code_32 : decode jdk_52_method_21_code 32 = .ok (.iinc 1 1, 3) := by decide +kernel
theorem d_jdk_52_method_21_code_35 : decode jdk_52_method_21_code 35 = .ok (.iinc 3 1, 3) := by decide +kernel
theorem d_jdk_52_method_21_code_38 : decode jdk_52_method_21_code 38 = .ok (.iinc 5 1, 3) := by decide +kernel
theorem d_jdk_52_method_21_code_41 : decode jdk_52_method_21_code 41 = .ok (.goto (-38), 3) := by decide +kernel
theorem d_jdk_52_method_21_code_44 : decode jdk_52_method_21_code 44 = .ok (.iload 4, 2) := by decide +kernel
theorem d_jdk_52_method_21_code_46 : decode jdk_52_method_21_code 46 = .ok (.ireturn, 1) := by decide +kernel
theorem pn_1 : plainName "java/lang/StringUTF16" = true := by first | (simp [plainName, overriddenIn]; done) | decide +kernel
set_option maxRecDepth 65536 in
set_option maxHeartbeats 40000000 in
theorem rm_c5_1 (l : Launch) (Z : State) (a0 : Array Value) (hw : ∀ d ∈ tables_1, d.before a0 Z = true) (b : Addr) (kb : ClassId) (t : Addr) (kt : ClassId) (d0 : Int32) (h0 : Heap) (n0 : Nat) (hn0 : n0 ≤ h0.size) (P0 : Arv Z h0 b kb .char (1 : Int32) [(.int d0)] (.int (0 : Int32))) (P1 : Arv Z h0 t kt .byte (1 : Int32) [(.int (0 : Int32))] (.int (0 : Int32))) (ga : n0 ≤ t) (nbt : ¬ (@Eq Nat b t)) (hd0 : ¬ d0 < (0 : Int32) ∧ ¬ (255 : Int32) < d0) :
    Con l Z (⟨"java/lang/StringUTF16", "compress", "([CI[BII)I"⟩ : MethodName) jdk_52_method_21_code 7 (some .int) [] ({ frames := 0, cells := 0, slots := 0, locals := 0 } : Room) #[(.ref b), (.int (0 : Int32)), (.ref t), (.int (0 : Int32)), (.int (1 : Int32))] h0 (fun v h L => v = some (.int (1 : Int32)) ∧ Fr n0 L ∧ Keep h0 h [t] ∧ Arv Z h t kt .byte (1 : Int32) [(.int (nar .byte (d0.toInt8.toInt32)))] (.int (0 : Int32))) := by
  refine enter (Ls := #[.val (.ref b), .val (.int (0 : Int32)), .val (.ref t), .val (.int (0 : Int32)), .val (.int (1 : Int32)), .unset, .unset]) (plainFor_of_name pn_1) (fun m => by exact entry_eq rfl) ?_
  intro p e s m below meth cd_ s₁ S0 hx hby hml hret hlk hnm hown hZ X0 e0 k0
  have N0 := Fr.nil n0
  have k1 : To p.tables e below S0 (s₁.setTop (mkF m 12 #[.val (.ref b), .val (.int (0 : Int32)), .val (.ref t), .val (.int (0 : Int32)), .val (.int (1 : Int32)), .val (.int (0 : Int32)), .unset] [(.int (0 : Int32)), (.ref b)])) := fun tt hq => k0 tt (by
    show Steps _ _ _ (s₁.setTop (mkF m 0 #[.val (.ref b), .val (.int (0 : Int32)), .val (.ref t), .val (.int (0 : Int32)), .val (.int (1 : Int32)), .unset, .unset] [])) _
    refine XS.iconst X0.here hx rfl (hb hby d_jdk_52_method_21_code_0) ?_
    show Steps _ _ _ (s₁.setTop (mkF m 1 #[.val (.ref b), .val (.int (0 : Int32)), .val (.ref t), .val (.int (0 : Int32)), .val (.int (1 : Int32)), .unset, .unset] [(.int (0 : Int32))])) _
    refine XS.istore X0.here hx rfl (hb hby d_jdk_52_method_21_code_1) rfl (l' := #[.val (.ref b), .val (.int (0 : Int32)), .val (.ref t), .val (.int (0 : Int32)), .val (.int (1 : Int32)), .val (.int (0 : Int32)), .unset]) rfl ?_
    show Steps _ _ _ (s₁.setTop (mkF m 3 #[.val (.ref b), .val (.int (0 : Int32)), .val (.ref t), .val (.int (0 : Int32)), .val (.int (1 : Int32)), .val (.int (0 : Int32)), .unset] [])) _
    refine XS.iload X0.here hx rfl (hb hby d_jdk_52_method_21_code_3) rfl ?_
    show Steps _ _ _ (s₁.setTop (mkF m 5 #[.val (.ref b), .val (.int (0 : Int32)), .val (.ref t), .val (.int (0 : Int32)), .val (.int (1 : Int32)), .val (.int (0 : Int32)), .unset] [(.int (0 : Int32))])) _
    refine XS.iload X0.here hx rfl (hb hby d_jdk_52_method_21_code_5) rfl ?_
    show Steps _ _ _ (s₁.setTop (mkF m 7 #[.val (.ref b), .val (.int (0 : Int32)), .val (.ref t), .val (.int (0 : Int32)), .val (.int (1 : Int32)), .val (.int (0 : Int32)), .unset] [(.int (1 : Int32)), (.int (0 : Int32))])) _
    refine XS.icmpNo X0.here hx rfl (hb hby d_jdk_52_method_21_code_7) rfl (tlt (by decide)).2.1 ?_
    show Steps _ _ _ (s₁.setTop (mkF m 10 #[.val (.ref b), .val (.int (0 : Int32)), .val (.ref t), .val (.int (0 : Int32)), .val (.int (1 : Int32)), .val (.int (0 : Int32)), .unset] [])) _
    refine XS.aloadN X0.here hx rfl (hb hby d_jdk_52_method_21_code_10) rfl rfl ?_
    show Steps _ _ _ (s₁.setTop (mkF m 11 #[.val (.ref b), .val (.int (0 : Int32)), .val (.ref t), .val (.int (0 : Int32)), .val (.int (1 : Int32)), .val (.int (0 : Int32)), .unset] [(.ref b)])) _
    refine XS.iloadN X0.here hx rfl (hb hby d_jdk_52_method_21_code_11) rfl ?_
    show Steps _ _ _ (s₁.setTop (mkF m 12 #[.val (.ref b), .val (.int (0 : Int32)), .val (.ref t), .val (.int (0 : Int32)), .val (.int (1 : Int32)), .val (.int (0 : Int32)), .unset] [(.int (0 : Int32)), (.ref b)])) _
    exact hq)
  obtain ⟨cl2, Ar2, -, S2, -, G2, -⟩ := id P0
  have hi2 := inb_of (j := (0 : Int32)) S2 ⟨by decide, by decide⟩
  have st2 := fun tt => X0.caload hx (j := (0 : Int32)) (v := (.int d0)) (by rw [e0]; exact Ar2.1) (State.isArrayOf_alike hZ.alike Ar2.2.1) Ar2.2.2 hi2 (G2.at hi2 rfl) (g := (mkF m 12 #[.val (.ref b), .val (.int (0 : Int32)), .val (.ref t), .val (.int (0 : Int32)), .val (.int (1 : Int32)), .val (.int (0 : Int32)), .unset] [(.int (0 : Int32)), (.ref b)])) rfl rfl (hb hby d_jdk_52_method_21_code_12) tt
  have k2 : To p.tables e below S0 (s₁.setTop (mkF m 13 #[.val (.ref b), .val (.int (0 : Int32)), .val (.ref t), .val (.int (0 : Int32)), .val (.int (1 : Int32)), .val (.int (0 : Int32)), .unset] [(.int d0)])) := fun tt hq => k1 tt (st2 tt hq)
  have k3 : To p.tables e below S0 (s₁.setTop (mkF m 31 #[.val (.ref b), .val (.int (0 : Int32)), .val (.ref t), .val (.int (0 : Int32)), .val (.int (1 : Int32)), .val (.int (0 : Int32)), .val (.int d0)] [(.int (d0.toInt8.toInt32)), (.int (0 : Int32)), (.ref t)])) := fun tt hq => k2 tt (by
    show Steps _ _ _ (s₁.setTop (mkF m 13 #[.val (.ref b), .val (.int (0 : Int32)), .val (.ref t), .val (.int (0 : Int32)), .val (.int (1 : Int32)), .val (.int (0 : Int32)), .unset] [(.int d0)])) _
    refine XS.istore X0.here hx rfl (hb hby d_jdk_52_method_21_code_13) rfl (l' := #[.val (.ref b), .val (.int (0 : Int32)), .val (.ref t), .val (.int (0 : Int32)), .val (.int (1 : Int32)), .val (.int (0 : Int32)), .val (.int d0)]) rfl ?_
    show Steps _ _ _ (s₁.setTop (mkF m 15 #[.val (.ref b), .val (.int (0 : Int32)), .val (.ref t), .val (.int (0 : Int32)), .val (.int (1 : Int32)), .val (.int (0 : Int32)), .val (.int d0)] [])) _
    refine XS.iload X0.here hx rfl (hb hby d_jdk_52_method_21_code_15) rfl ?_
    show Steps _ _ _ (s₁.setTop (mkF m 17 #[.val (.ref b), .val (.int (0 : Int32)), .val (.ref t), .val (.int (0 : Int32)), .val (.int (1 : Int32)), .val (.int (0 : Int32)), .val (.int d0)] [(.int d0)])) _
    refine XS.sipush X0.here hx rfl (hb hby d_jdk_52_method_21_code_17) ?_
    show Steps _ _ _ (s₁.setTop (mkF m 20 #[.val (.ref b), .val (.int (0 : Int32)), .val (.ref t), .val (.int (0 : Int32)), .val (.int (1 : Int32)), .val (.int (0 : Int32)), .val (.int d0)] [(.int (255 : Int32)), (.int d0)])) _
    refine XS.icmpYes X0.here hx rfl (pc0 := 20) (pc' := 26) rfl (hb hby d_jdk_52_method_21_code_20) rfl (flt hd0.2).2.2.2 (by decide) (by decide) ?_
    show Steps _ _ _ (s₁.setTop (mkF m 26 #[.val (.ref b), .val (.int (0 : Int32)), .val (.ref t), .val (.int (0 : Int32)), .val (.int (1 : Int32)), .val (.int (0 : Int32)), .val (.int d0)] [])) _
    refine XS.aloadN X0.here hx rfl (hb hby d_jdk_52_method_21_code_26) rfl rfl ?_
    show Steps _ _ _ (s₁.setTop (mkF m 27 #[.val (.ref b), .val (.int (0 : Int32)), .val (.ref t), .val (.int (0 : Int32)), .val (.int (1 : Int32)), .val (.int (0 : Int32)), .val (.int d0)] [(.ref t)])) _
    refine XS.iloadN X0.here hx rfl (hb hby d_jdk_52_method_21_code_27) rfl ?_
    show Steps _ _ _ (s₁.setTop (mkF m 28 #[.val (.ref b), .val (.int (0 : Int32)), .val (.ref t), .val (.int (0 : Int32)), .val (.int (1 : Int32)), .val (.int (0 : Int32)), .val (.int d0)] [(.int (0 : Int32)), (.ref t)])) _
    refine XS.iload X0.here hx rfl (hb hby d_jdk_52_method_21_code_28) rfl ?_
    show Steps _ _ _ (s₁.setTop (mkF m 30 #[.val (.ref b), .val (.int (0 : Int32)), .val (.ref t), .val (.int (0 : Int32)), .val (.int (1 : Int32)), .val (.int (0 : Int32)), .val (.int d0)] [(.int d0), (.int (0 : Int32)), (.ref t)])) _
    refine XS.i2b X0.here hx rfl (hb hby d_jdk_52_method_21_code_30) rfl ?_
    show Steps _ _ _ (s₁.setTop (mkF m 31 #[.val (.ref b), .val (.int (0 : Int32)), .val (.ref t), .val (.int (0 : Int32)), .val (.int (1 : Int32)), .val (.int (0 : Int32)), .val (.int d0)] [(.int (d0.toInt8.toInt32)), (.int (0 : Int32)), (.ref t)])) _
    exact hq)
  obtain ⟨cl4, Ar4, q4, S4, M4, G4, J4⟩ := id P1
  obtain ⟨T4, h4, X4, e4, W4, st4⟩ := stB X0 hx hZ e0 Ar4 (j := (0 : Int32)) (inb_of S4 ⟨by decide, by decide⟩) (g := (mkF m 31 #[.val (.ref b), .val (.int (0 : Int32)), .val (.ref t), .val (.int (0 : Int32)), .val (.int (1 : Int32)), .val (.int (0 : Int32)), .val (.int d0)] [(.int (d0.toInt8.toInt32)), (.int (0 : Int32)), (.ref t)])) rfl rfl (hb hby d_jdk_52_method_21_code_31)
  have k4 : To p.tables e below S0 (T4.setTop (mkF m 32 #[.val (.ref b), .val (.int (0 : Int32)), .val (.ref t), .val (.int (0 : Int32)), .val (.int (1 : Int32)), .val (.int (0 : Int32)), .val (.int d0)] [])) := fun tt hq => k3 tt (st4 tt hq)
  have z4 : h4.size = h0.size := W4.size
  have V4 : Arv Z h4 t kt .byte (1 : Int32) [(.int (nar .byte (d0.toInt8.toInt32)))] (.int (0 : Int32)) := Arv.set Ar4 q4 S4 M4 G4 J4 (fits_nar_byte _) W4 0 rfl (Nat.le_of_ble_eq_true rfl)
  have N4 := Fr.snoc X4 N0 (by omega : n0 ≤ t)
  have k5 : To p.tables e below S0 (T4.setTop (mkF m 46 #[.val (.ref b), .val (.int (1 : Int32)), .val (.ref t), .val (.int (1 : Int32)), .val (.int (1 : Int32)), .val (.int (1 : Int32)), .val (.int d0)] [(.int (1 : Int32))])) := fun tt hq => k4 tt (by
    show Steps _ _ _ (T4.setTop (mkF m 32 #[.val (.ref b), .val (.int (0 : Int32)), .val (.ref t), .val (.int (0 : Int32)), .val (.int (1 : Int32)), .val (.int (0 : Int32)), .val (.int d0)] [])) _
    refine XS.iinc X4.here hx rfl (hb hby d_jdk_52_method_21_code_32) rfl (l' := #[.val (.ref b), .val (.int (1 : Int32)), .val (.ref t), .val (.int (0 : Int32)), .val (.int (1 : Int32)), .val (.int (0 : Int32)), .val (.int d0)]) rfl ?_
    show Steps _ _ _ (T4.setTop (mkF m 35 #[.val (.ref b), .val (.int (1 : Int32)), .val (.ref t), .val (.int (0 : Int32)), .val (.int (1 : Int32)), .val (.int (0 : Int32)), .val (.int d0)] [])) _
    refine XS.iinc X4.here hx rfl (hb hby d_jdk_52_method_21_code_35) rfl (l' := #[.val (.ref b), .val (.int (1 : Int32)), .val (.ref t), .val (.int (1 : Int32)), .val (.int (1 : Int32)), .val (.int (0 : Int32)), .val (.int d0)]) rfl ?_
    show Steps _ _ _ (T4.setTop (mkF m 38 #[.val (.ref b), .val (.int (1 : Int32)), .val (.ref t), .val (.int (1 : Int32)), .val (.int (1 : Int32)), .val (.int (0 : Int32)), .val (.int d0)] [])) _
    refine XS.iinc X4.here hx rfl (hb hby d_jdk_52_method_21_code_38) rfl (l' := #[.val (.ref b), .val (.int (1 : Int32)), .val (.ref t), .val (.int (1 : Int32)), .val (.int (1 : Int32)), .val (.int (1 : Int32)), .val (.int d0)]) rfl ?_
    show Steps _ _ _ (T4.setTop (mkF m 41 #[.val (.ref b), .val (.int (1 : Int32)), .val (.ref t), .val (.int (1 : Int32)), .val (.int (1 : Int32)), .val (.int (1 : Int32)), .val (.int d0)] [])) _
    refine XS.goto X4.here hx rfl (pc0 := 41) (pc' := 3) rfl (hb hby d_jdk_52_method_21_code_41) (by decide) (by decide) ?_
    show Steps _ _ _ (T4.setTop (mkF m 3 #[.val (.ref b), .val (.int (1 : Int32)), .val (.ref t), .val (.int (1 : Int32)), .val (.int (1 : Int32)), .val (.int (1 : Int32)), .val (.int d0)] [])) _
    refine XS.iload X4.here hx rfl (hb hby d_jdk_52_method_21_code_3) rfl ?_
    show Steps _ _ _ (T4.setTop (mkF m 5 #[.val (.ref b), .val (.int (1 : Int32)), .val (.ref t), .val (.int (1 : Int32)), .val (.int (1 : Int32)), .val (.int (1 : Int32)), .val (.int d0)] [(.int (1 : Int32))])) _
    refine XS.iload X4.here hx rfl (hb hby d_jdk_52_method_21_code_5) rfl ?_
    show Steps _ _ _ (T4.setTop (mkF m 7 #[.val (.ref b), .val (.int (1 : Int32)), .val (.ref t), .val (.int (1 : Int32)), .val (.int (1 : Int32)), .val (.int (1 : Int32)), .val (.int d0)] [(.int (1 : Int32)), (.int (1 : Int32))])) _
    refine XS.icmpYes X4.here hx rfl (pc0 := 7) (pc' := 44) rfl (hb hby d_jdk_52_method_21_code_7) rfl (flt (by decide)).2.1 (by decide) (by decide) ?_
    show Steps _ _ _ (T4.setTop (mkF m 44 #[.val (.ref b), .val (.int (1 : Int32)), .val (.ref t), .val (.int (1 : Int32)), .val (.int (1 : Int32)), .val (.int (1 : Int32)), .val (.int d0)] [])) _
    refine XS.iload X4.here hx rfl (hb hby d_jdk_52_method_21_code_44) rfl ?_
    show Steps _ _ _ (T4.setTop (mkF m 46 #[.val (.ref b), .val (.int (1 : Int32)), .val (.ref t), .val (.int (1 : Int32)), .val (.int (1 : Int32)), .val (.int (1 : Int32)), .val (.int d0)] [(.int (1 : Int32))])) _
    exact hq)
  have hE := e4
  refine retInt X4 hx hret hlk (by simp) rfl (hb hby d_jdk_52_method_21_code_46) k5 ?_ (by decide) (by decide)
  try rw [hE]
  exact ⟨rfl, N4, ((Keep.refl h0 [t]).wr W4 (Or.inl (by simp))), V4⟩
theorem d_jdk_52_method_16_code_0 : decode jdk_52_method_16_code 0 = .ok (.iload_n 2, 1) := by decide +kernel
theorem d_jdk_52_method_16_code_1 : decode jdk_52_method_16_code 1 = .ok (.newarray .byte, 2) := by decide +kernel
theorem d_jdk_52_method_16_code_3 : decode jdk_52_method_16_code 3 = .ok (.astore_n 3, 1) := by decide +kernel
theorem d_jdk_52_method_16_code_4 : decode jdk_52_method_16_code 4 = .ok (.aload_n 0, 1) := by decide +kernel
theorem d_jdk_52_method_16_code_5 : decode jdk_52_method_16_code 5 = .ok (.iload_n 1, 1) := by decide +kernel
theorem d_jdk_52_method_16_code_6 : decode jdk_52_method_16_code 6 = .ok (.aload_n 3, 1) := by decide +kernel
theorem d_jdk_52_method_16_code_7 : decode jdk_52_method_16_code 7 = .ok (.iconst 0, 1) := by decide +kernel
theorem d_jdk_52_method_16_code_8 : decode jdk_52_method_16_code 8 = .ok (.iload_n 2, 1) := by decide +kernel
theorem d_jdk_52_method_16_code_9 : decode jdk_52_method_16_code 9 = .ok (.invokestatic 115, 3) := by decide +kernel
theorem d_jdk_52_method_16_code_12 : decode jdk_52_method_16_code 12 = .ok (.istore 4, 2) := by decide +kernel
theorem d_jdk_52_method_16_code_14 : decode jdk_52_method_16_code 14 = .ok (.iload 4, 2) := by decide +kernel
theorem d_jdk_52_method_16_code_16 : decode jdk_52_method_16_code 16 = .ok (.iload_n 2, 1) := by decide +kernel
theorem d_jdk_52_method_16_code_17 : decode jdk_52_method_16_code 17 = .ok (.if_icmp .eq 40, 3) := by decide +kernel
theorem d_jdk_52_method_16_code_20 : decode jdk_52_method_16_code 20 = .ok (.aload_n 0, 1) := by decide +kernel
theorem d_jdk_52_method_16_code_21 : decode jdk_52_method_16_code 21 = .ok (.iload_n 1, 1) := by decide +kernel
theorem d_jdk_52_method_16_code_22 : decode jdk_52_method_16_code 22 = .ok (.iload_n 2, 1) := by decide +kernel
theorem d_jdk_52_method_16_code_23 : decode jdk_52_method_16_code 23 = .ok (.invokestatic 119, 3) := by decide +kernel
theorem d_jdk_52_method_16_code_26 : decode jdk_52_method_16_code 26 = .ok (.astore 5, 2) := by decide +kernel
theorem d_jdk_52_method_16_code_28 : decode jdk_52_method_16_code 28 = .ok (.aload 5, 2) := by decide +kernel
theorem d_jdk_52_method_16_code_30 : decode jdk_52_method_16_code 30 = .ok (.iload 4, 2) := by decide +kernel
theorem d_jdk_52_method_16_code_32 : decode jdk_52_method_16_code 32 = .ok (.invokestatic 71, 3) := by decide +kernel
theorem d_jdk_52_method_16_code_35 : decode jdk_52_method_16_code 35 = .ok (.sipush 255, 3) := by decide +kernel
theorem d_jdk_52_method_16_code_38 : decode jdk_52_method_16_code 38 = .ok (.if_icmp .gt 16, 3) := by decide +kernel
theorem d_jdk_52_method_16_code_41 : decode jdk_52_method_16_code 41 = .ok (.aload 5, 2) := by decide +kernel
theorem d_jdk_52_method_16_code_43 : decode jdk_52_method_16_code 43 = .ok (.iconst 0, 1) := by decide +kernel
theorem d_jdk_52_method_16_code_44 : decode jdk_52_method_16_code 44 = .ok (.aload_n 3, 1) := by decide +kernel
theorem d_jdk_52_method_16_code_45 : decode jdk_52_method_16_code 45 = .ok (.iconst 0, 1) := by decide +kernel
theorem d_jdk_52_method_16_code_46 : decode jdk_52_method_16_code 46 = .ok (.iload_n 2, 1) := by decide +kernel
theorem d_jdk_52_method_16_code_47 : decode jdk_52_method_16_code 47 = .ok (.invokestatic 123, 3) := by decide +kernel
theorem d_jdk_52_method_16_code_50 : decode jdk_52_method_16_code 50 = .ok (.iload_n 2, 1) := by decide +kernel
theorem d_jdk_52_method_16_code_51 : decode jdk_52_method_16_code 51 = .ok (.if_icmp .eq 6, 3) := by decide +kernel
theorem d_jdk_52_method_16_code_54 : decode jdk_52_method_16_code 54 = .ok (.aload 5, 2) := by decide +kernel
theorem d_jdk_52_method_16_code_56 : decode jdk_52_method_16_code 56 = .ok (.areturn, 1) := by decide +kernel
theorem d_jdk_52_method_16_code_57 : decode jdk_52_method_16_code 57 = .ok (.aload_n 3, 1) := by decide +kernel
theorem d_jdk_52_method_16_code_58 : decode jdk_52_method_16_code 58 = .ok (.areturn, 1) := by decide +kernel
theorem pd_3 : parseMethodDescriptor "([CI[BII)I" = some ⟨[(.array .char), .int, (.array .byte), .int, .int], some .int⟩ := by decide +kernel
set_option maxRecDepth 65536 in
set_option maxHeartbeats 40000000 in
theorem rm_c3_1 (l : Launch) (Z : State) (a0 : Array Value) (hw : ∀ d ∈ tables_1, d.before a0 Z = true) (b : Addr) (kb : ClassId) (d0 : Int32) (h0 : Heap) (n0 : Nat) (hn0 : n0 ≤ h0.size) (P0 : Arv Z h0 b kb .char (1 : Int32) [(.int d0)] (.int (0 : Int32))) (yb : @LT.lt Nat instLTNat b h0.size) (hd0 : ¬ d0 < (0 : Int32) ∧ ¬ (255 : Int32) < d0) :
    Con l Z (⟨"java/lang/StringUTF16", "compress", "([CII)[B"⟩ : MethodName) jdk_52_method_16_code 6 (some (.array .byte)) [] ({ frames := 1, cells := 1, slots := 1, locals := 18 } : Room) #[(.ref b), (.int (0 : Int32)), (.int (1 : Int32))] h0 (fun v h L => ∃ (t : Addr) (k : ClassId), v = some (.ref t) ∧ Fr n0 L ∧ h0.size ≤ t ∧ Keep h0 h [] ∧ Arv Z h t k .byte (1 : Int32) [(.int (nar .byte (d0.toInt8.toInt32)))] (.int (0 : Int32))) := by
  refine enter (Ls := #[.val (.ref b), .val (.int (0 : Int32)), .val (.int (1 : Int32)), .unset, .unset, .unset]) (plainFor_of_name pn_1) (fun m => by exact entry_eq rfl) ?_
  intro p e s m below meth cd_ s₁ S0 hx hby hml hret hlk hnm hown hZ X0 e0 k0
  have N0 := Fr.nil n0
  have k1 : To p.tables e below S0 (s₁.setTop (mkF m 1 #[.val (.ref b), .val (.int (0 : Int32)), .val (.int (1 : Int32)), .unset, .unset, .unset] [(.int (1 : Int32))])) := fun tt hq => k0 tt (by
    show Steps _ _ _ (s₁.setTop (mkF m 0 #[.val (.ref b), .val (.int (0 : Int32)), .val (.int (1 : Int32)), .unset, .unset, .unset] [])) _
    refine XS.iloadN X0.here hx rfl (hb hby d_jdk_52_method_16_code_0) rfl ?_
    show Steps _ _ _ (s₁.setTop (mkF m 1 #[.val (.ref b), .val (.int (0 : Int32)), .val (.int (1 : Int32)), .unset, .unset, .unset] [(.int (1 : Int32))])) _
    exact hq)
  obtain ⟨T2, h2, c2, X2, e2, E2, A2, st2⟩ := newP X0 hx hZ (hw _ (List.mem_of_getElem? (i := 29) rfl)) e0 (g := (mkF m 1 #[.val (.ref b), .val (.int (0 : Int32)), .val (.int (1 : Int32)), .unset, .unset, .unset] [(.int (1 : Int32))])) rfl (hb hby d_jdk_52_method_16_code_1) rfl (by decide) (cap := 1) (by decide) (by decide) (by decide) (by decide)
  obtain ⟨b2, g2⟩ : ∃ z, z = h0.size := ⟨_, rfl⟩
  rw [← g2] at A2 st2
  have k2 : To p.tables e below S0 (T2.setTop (mkF m 3 #[.val (.ref b), .val (.int (0 : Int32)), .val (.int (1 : Int32)), .unset, .unset, .unset] [(.ref b2)])) := fun tt hq => k1 tt (st2 tt hq)
  have z2 : h0.size ≤ h2.size := E2.1
  have V2 : Arv Z h2 b2 c2 .byte (1 : Int32) [(.int (0 : Int32))] (.int (0 : Int32)) := (Arv.new A2 (by decide)).pad (pad_rep [] (.int (0 : Int32)) 1)
  have y2 : @LT.lt Nat instLTNat b2 h2.size := V2.lt
  have k3 : To p.tables e below S0 (T2.setTop (mkF m 9 #[.val (.ref b), .val (.int (0 : Int32)), .val (.int (1 : Int32)), .val (.ref b2), .unset, .unset] [(.int (1 : Int32)), (.int (0 : Int32)), (.ref b2), (.int (0 : Int32)), (.ref b)])) := fun tt hq => k2 tt (by
    show Steps _ _ _ (T2.setTop (mkF m 3 #[.val (.ref b), .val (.int (0 : Int32)), .val (.int (1 : Int32)), .unset, .unset, .unset] [(.ref b2)])) _
    refine XS.astoreN X2.here hx rfl (hb hby d_jdk_52_method_16_code_3) rfl rfl (l' := #[.val (.ref b), .val (.int (0 : Int32)), .val (.int (1 : Int32)), .val (.ref b2), .unset, .unset]) rfl ?_
    show Steps _ _ _ (T2.setTop (mkF m 4 #[.val (.ref b), .val (.int (0 : Int32)), .val (.int (1 : Int32)), .val (.ref b2), .unset, .unset] [])) _
    refine XS.aloadN X2.here hx rfl (hb hby d_jdk_52_method_16_code_4) rfl rfl ?_
    show Steps _ _ _ (T2.setTop (mkF m 5 #[.val (.ref b), .val (.int (0 : Int32)), .val (.int (1 : Int32)), .val (.ref b2), .unset, .unset] [(.ref b)])) _
    refine XS.iloadN X2.here hx rfl (hb hby d_jdk_52_method_16_code_5) rfl ?_
    show Steps _ _ _ (T2.setTop (mkF m 6 #[.val (.ref b), .val (.int (0 : Int32)), .val (.int (1 : Int32)), .val (.ref b2), .unset, .unset] [(.int (0 : Int32)), (.ref b)])) _
    refine XS.aloadN X2.here hx rfl (hb hby d_jdk_52_method_16_code_6) rfl rfl ?_
    show Steps _ _ _ (T2.setTop (mkF m 7 #[.val (.ref b), .val (.int (0 : Int32)), .val (.int (1 : Int32)), .val (.ref b2), .unset, .unset] [(.ref b2), (.int (0 : Int32)), (.ref b)])) _
    refine XS.iconst X2.here hx rfl (hb hby d_jdk_52_method_16_code_7) ?_
    show Steps _ _ _ (T2.setTop (mkF m 8 #[.val (.ref b), .val (.int (0 : Int32)), .val (.int (1 : Int32)), .val (.ref b2), .unset, .unset] [(.int (0 : Int32)), (.ref b2), (.int (0 : Int32)), (.ref b)])) _
    refine XS.iloadN X2.here hx rfl (hb hby d_jdk_52_method_16_code_8) rfl ?_
    show Steps _ _ _ (T2.setTop (mkF m 9 #[.val (.ref b), .val (.int (0 : Int32)), .val (.int (1 : Int32)), .val (.ref b2), .unset, .unset] [(.int (1 : Int32)), (.int (0 : Int32)), (.ref b2), (.int (0 : Int32)), (.ref b)])) _
    exact hq)
  have f4 : Arv Z h2 b kb .char (1 : Int32) [(.int d0)] (.int (0 : Int32)) := (P0.ext E2)
  obtain ⟨_, T5, L5, X5, ⟨rfl, Nq5, Kq5, V5⟩, k5a⟩ := callS' X2 hx hZ (y := (⟨"java/lang/StringUTF16", "compress", "([CI[BII)I"⟩ : MethodName)) hown (hw _ (List.mem_of_getElem? (i := 47) rfl)) (hw _ (List.mem_of_getElem? (i := 48) rfl)) (hw _ (List.mem_of_getElem? (i := 45) rfl)) (hw _ (List.mem_of_getElem? (i := 49) rfl)) (by decide) (backC (W := 0) (rm_c5_1 l Z a0 hw b kb b2 c2 d0 h2 n0 (by omega) f4 V2 (by omega) (by omega) hd0) hZ (hw _ (List.mem_of_getElem? (i := 49) rfl)) (hw _ (List.mem_of_getElem? (i := 45) rfl)) (by decide) (by decide)) e2 (argsL := [(.ref b), (.int (0 : Int32)), (.ref b2), (.int (0 : Int32)), (.int (1 : Int32))]) (rest := []) rfl rfl pd_3 rfl (by rw [hml]; rfl) (hb hby d_jdk_52_method_16_code_9) (Nat.le_of_eq rfl) (by decide) (by decide) k3
  have k5 : To p.tables e below S0 (T5.setTop (mkF m 12 #[.val (.ref b), .val (.int (0 : Int32)), .val (.int (1 : Int32)), .val (.ref b2), .unset, .unset] [(.int (1 : Int32))])) := k5a
  have N5 := N0.app Nq5
  obtain ⟨h5, e5⟩ : ∃ z, T5.heap = z := ⟨_, rfl⟩
  rw [e5] at Kq5 V5
  have z5 : h2.size ≤ h5.size := Kq5.1
  have k6 : To p.tables e below S0 (T5.setTop (mkF m 58 #[.val (.ref b), .val (.int (0 : Int32)), .val (.int (1 : Int32)), .val (.ref b2), .val (.int (1 : Int32)), .unset] [(.ref b2)])) := fun tt hq => k5 tt (by
    show Steps _ _ _ (T5.setTop (mkF m 12 #[.val (.ref b), .val (.int (0 : Int32)), .val (.int (1 : Int32)), .val (.ref b2), .unset, .unset] [(.int (1 : Int32))])) _
    refine XS.istore X5.here hx rfl (hb hby d_jdk_52_method_16_code_12) rfl (l' := #[.val (.ref b), .val (.int (0 : Int32)), .val (.int (1 : Int32)), .val (.ref b2), .val (.int (1 : Int32)), .unset]) rfl ?_
    show Steps _ _ _ (T5.setTop (mkF m 14 #[.val (.ref b), .val (.int (0 : Int32)), .val (.int (1 : Int32)), .val (.ref b2), .val (.int (1 : Int32)), .unset] [])) _
    refine XS.iload X5.here hx rfl (hb hby d_jdk_52_method_16_code_14) rfl ?_
    show Steps _ _ _ (T5.setTop (mkF m 16 #[.val (.ref b), .val (.int (0 : Int32)), .val (.int (1 : Int32)), .val (.ref b2), .val (.int (1 : Int32)), .unset] [(.int (1 : Int32))])) _
    refine XS.iloadN X5.here hx rfl (hb hby d_jdk_52_method_16_code_16) rfl ?_
    show Steps _ _ _ (T5.setTop (mkF m 17 #[.val (.ref b), .val (.int (0 : Int32)), .val (.int (1 : Int32)), .val (.ref b2), .val (.int (1 : Int32)), .unset] [(.int (1 : Int32)), (.int (1 : Int32))])) _
    refine XS.icmpYes X5.here hx rfl (pc0 := 17) (pc' := 57) rfl (hb hby d_jdk_52_method_16_code_17) rfl (teq (by decide)).1 (by decide) (by decide) ?_
    show Steps _ _ _ (T5.setTop (mkF m 57 #[.val (.ref b), .val (.int (0 : Int32)), .val (.int (1 : Int32)), .val (.ref b2), .val (.int (1 : Int32)), .unset] [])) _
    refine XS.aloadN X5.here hx rfl (hb hby d_jdk_52_method_16_code_57) rfl rfl ?_
    show Steps _ _ _ (T5.setTop (mkF m 58 #[.val (.ref b), .val (.int (0 : Int32)), .val (.int (1 : Int32)), .val (.ref b2), .val (.int (1 : Int32)), .unset] [(.ref b2)])) _
    exact hq)
  have hE := e5
  refine retRef X5 hx hret hlk rfl rfl (hb hby d_jdk_52_method_16_code_58) k6 ?_ (by decide) (by decide)
  try rw [hE]
  exact ⟨b2, _, rfl, N5, (by omega), (((Keep.refl h0 []).ext E2).trans Kq5 (allS (Or.inr (by omega)) all0)), V5⟩
theorem d_jdk_52_method_15_code_0 : decode jdk_52_method_15_code 0 = .ok (.iload_n 1, 1) := by decide +kernel
theorem d_jdk_52_method_15_code_1 : decode jdk_52_method_15_code 1 = .ok (.aload_n 0, 1) := by decide +kernel
theorem d_jdk_52_method_15_code_2 : decode jdk_52_method_15_code 2 = .ok (.arraylength, 1) := by decide +kernel
theorem d_jdk_52_method_15_code_3 : decode jdk_52_method_15_code 3 = .ok (.isub, 1) := by decide +kernel
theorem d_jdk_52_method_15_code_4 : decode jdk_52_method_15_code 4 = .ok (.bipush 31, 2) := by decide +kernel
theorem d_jdk_52_method_15_code_6 : decode jdk_52_method_15_code 6 = .ok (.iushr, 1) := by decide +kernel
theorem d_jdk_52_method_15_code_7 : decode jdk_52_method_15_code 7 = .ok (.i2b, 1) := by decide +kernel
theorem d_jdk_52_method_15_code_8 : decode jdk_52_method_15_code 8 = .ok (.ireturn, 1) := by decide +kernel
set_option maxRecDepth 65536 in
set_option maxHeartbeats 40000000 in
theorem rm_cl_1 (l : Launch) (Z : State) (a0 : Array Value) (hw : ∀ d ∈ tables_1, d.before a0 Z = true) (t : Addr) (kt : ClassId) (d0 : Int32) (h0 : Heap) (n0 : Nat) (hn0 : n0 ≤ h0.size) (P0 : Arv Z h0 t kt .byte (1 : Int32) [(.int d0)] (.int (0 : Int32))) :
    Con l Z (⟨"java/lang/StringUTF16", "coderFromArrayLen", "([BI)B"⟩ : MethodName) jdk_52_method_15_code 2 (some .byte) [] ({ frames := 0, cells := 0, slots := 0, locals := 0 } : Room) #[(.ref t), (.int (1 : Int32))] h0 (fun v h L => v = some (.int (0 : Int32)) ∧ Fr n0 L ∧ h = h0) := by
  refine enter (Ls := #[.val (.ref t), .val (.int (1 : Int32))]) (plainFor_of_name pn_1) (fun m => by exact entry_eq rfl) ?_
  intro p e s m below meth cd_ s₁ S0 hx hby hml hret hlk hnm hown hZ X0 e0 k0
  have N0 := Fr.nil n0
  have k1 : To p.tables e below S0 (s₁.setTop (mkF m 2 #[.val (.ref t), .val (.int (1 : Int32))] [(.ref t), (.int (1 : Int32))])) := fun tt hq => k0 tt (by
    show Steps _ _ _ (s₁.setTop (mkF m 0 #[.val (.ref t), .val (.int (1 : Int32))] [])) _
    refine XS.iloadN X0.here hx rfl (hb hby d_jdk_52_method_15_code_0) rfl ?_
    show Steps _ _ _ (s₁.setTop (mkF m 1 #[.val (.ref t), .val (.int (1 : Int32))] [(.int (1 : Int32))])) _
    refine XS.aloadN X0.here hx rfl (hb hby d_jdk_52_method_15_code_1) rfl rfl ?_
    show Steps _ _ _ (s₁.setTop (mkF m 2 #[.val (.ref t), .val (.int (1 : Int32))] [(.ref t), (.int (1 : Int32))])) _
    exact hq)
  obtain ⟨cl2, Ar2, -, S2, M2, -, -⟩ := id P0
  have st2 := fun tt => X0.arraylength hx (by rw [e0]; exact Ar2.1) (State.isArrayOf_alike hZ.alike Ar2.2.1) (g := (mkF m 2 #[.val (.ref t), .val (.int (1 : Int32))] [(.ref t), (.int (1 : Int32))])) rfl rfl (hb hby d_jdk_52_method_15_code_2) tt
  rw [len_of S2 M2] at st2
  have k2 : To p.tables e below S0 (s₁.setTop (mkF m 3 #[.val (.ref t), .val (.int (1 : Int32))] [(.int (1 : Int32)), (.int (1 : Int32))])) := fun tt hq => k1 tt (st2 tt hq)
  have k3 : To p.tables e below S0 (s₁.setTop (mkF m 8 #[.val (.ref t), .val (.int (1 : Int32))] [(.int (0 : Int32))])) := fun tt hq => k2 tt (by
    show Steps _ _ _ (s₁.setTop (mkF m 3 #[.val (.ref t), .val (.int (1 : Int32))] [(.int (1 : Int32)), (.int (1 : Int32))])) _
    refine XS.isub X0.here hx rfl (hb hby d_jdk_52_method_15_code_3) rfl ?_
    show Steps _ _ _ (s₁.setTop (mkF m 4 #[.val (.ref t), .val (.int (1 : Int32))] [(.int (0 : Int32))])) _
    refine XS.bipush X0.here hx rfl (hb hby d_jdk_52_method_15_code_4) ?_
    show Steps _ _ _ (s₁.setTop (mkF m 6 #[.val (.ref t), .val (.int (1 : Int32))] [(.int (31 : Int32)), (.int (0 : Int32))])) _
    refine XS.iushr X0.here hx rfl (hb hby d_jdk_52_method_15_code_6) rfl ?_
    show Steps _ _ _ (s₁.setTop (mkF m 7 #[.val (.ref t), .val (.int (1 : Int32))] [(.int (0 : Int32))])) _
    refine XS.i2b X0.here hx rfl (hb hby d_jdk_52_method_15_code_7) rfl ?_
    show Steps _ _ _ (s₁.setTop (mkF m 8 #[.val (.ref t), .val (.int (1 : Int32))] [(.int (0 : Int32))])) _
    exact hq)
  have hE := e0
  refine retInt X0 hx hret hlk (by simp) rfl (hb hby d_jdk_52_method_15_code_8) k3 ?_ (by decide) (by decide)
  try rw [hE]
  exact ⟨rfl, N0, rfl⟩
theorem d_jdk_42_method_149_code_0 : decode jdk_42_method_149_code 0 = .ok (.aload_n 0, 1) := by decide +kernel
theorem d_jdk_42_method_149_code_1 : decode jdk_42_method_149_code 1 = .ok (.invokespecial 1, 3) := by decide +kernel
theorem d_jdk_42_method_149_code_4 : decode jdk_42_method_149_code 4 = .ok (.iload_n 3, 1) := by decide +kernel
theorem d_jdk_42_method_149_code_5 : decode jdk_42_method_149_code 5 = .ok (.ifCond .ne 22, 3) := by decide +kernel
theorem d_jdk_42_method_149_code_8 : decode jdk_42_method_149_code 8 = .ok (.aload_n 0, 1) := by decide +kernel
theorem d_jdk_42_method_149_code_9 : decode jdk_42_method_149_code 9 = .ok (.ldc 7, 2) := by decide +kernel
theorem d_jdk_42_method_149_code_11 : decode jdk_42_method_149_code 11 = .ok (.getfield 9, 3) := by decide +kernel
theorem d_jdk_42_method_149_code_14 : decode jdk_42_method_149_code 14 = .ok (.putfield 9, 3) := by decide +kernel
theorem d_jdk_42_method_149_code_17 : decode jdk_42_method_149_code 17 = .ok (.aload_n 0, 1) := by decide +kernel
theorem d_jdk_42_method_149_code_18 : decode jdk_42_method_149_code 18 = .ok (.ldc 7, 2) := by decide +kernel
theorem d_jdk_42_method_149_code_20 : decode jdk_42_method_149_code 20 = .ok (.getfield 15, 3) := by decide +kernel
theorem d_jdk_42_method_149_code_23 : decode jdk_42_method_149_code 23 = .ok (.putfield 15, 3) := by decide +kernel
theorem d_jdk_42_method_149_code_26 : decode jdk_42_method_149_code 26 = .ok (.return_, 1) := by decide +kernel
theorem d_jdk_42_method_149_code_27 : decode jdk_42_method_149_code 27 = .ok (.getstatic 38, 3) := by decide +kernel
theorem d_jdk_42_method_149_code_30 : decode jdk_42_method_149_code 30 = .ok (.ifCond .eq 28, 3) := by decide +kernel
theorem d_jdk_42_method_149_code_33 : decode jdk_42_method_149_code 33 = .ok (.aload_n 1, 1) := by decide +kernel
theorem d_jdk_42_method_149_code_34 : decode jdk_42_method_149_code 34 = .ok (.iload_n 2, 1) := by decide +kernel
theorem d_jdk_42_method_149_code_35 : decode jdk_42_method_149_code 35 = .ok (.iload_n 3, 1) := by decide +kernel
theorem d_jdk_42_method_149_code_36 : decode jdk_42_method_149_code 36 = .ok (.invokestatic 177, 3) := by decide +kernel
theorem d_jdk_42_method_149_code_39 : decode jdk_42_method_149_code 39 = .ok (.astore 5, 2) := by decide +kernel
theorem d_jdk_42_method_149_code_41 : decode jdk_42_method_149_code 41 = .ok (.aload_n 0, 1) := by decide +kernel
theorem d_jdk_42_method_149_code_42 : decode jdk_42_method_149_code 42 = .ok (.aload 5, 2) := by decide +kernel
theorem d_jdk_42_method_149_code_44 : decode jdk_42_method_149_code 44 = .ok (.iload_n 3, 1) := by decide +kernel
theorem d_jdk_42_method_149_code_45 : decode jdk_42_method_149_code 45 = .ok (.invokestatic 47, 3) := by decide +kernel
theorem d_jdk_42_method_149_code_48 : decode jdk_42_method_149_code 48 = .ok (.putfield 15, 3) := by decide +kernel
theorem d_jdk_42_method_149_code_51 : decode jdk_42_method_149_code 51 = .ok (.aload_n 0, 1) := by decide +kernel
theorem d_jdk_42_method_149_code_52 : decode jdk_42_method_149_code 52 = .ok (.aload 5, 2) := by decide +kernel
theorem d_jdk_42_method_149_code_54 : decode jdk_42_method_149_code 54 = .ok (.putfield 9, 3) := by decide +kernel
theorem d_jdk_42_method_149_code_57 : decode jdk_42_method_149_code 57 = .ok (.return_, 1) := by decide +kernel
theorem d_jdk_42_method_149_code_58 : decode jdk_42_method_149_code 58 = .ok (.aload_n 0, 1) := by decide +kernel
theorem d_jdk_42_method_149_code_59 : decode jdk_42_method_149_code 59 = .ok (.iconst 1, 1) := by decide +kernel
theorem d_jdk_42_method_149_code_60 : decode jdk_42_method_149_code 60 = .ok (.putfield 15, 3) := by decide +kernel
theorem d_jdk_42_method_149_code_63 : decode jdk_42_method_149_code 63 = .ok (.aload_n 0, 1) := by decide +kernel
theorem d_jdk_42_method_149_code_64 : decode jdk_42_method_149_code 64 = .ok (.aload_n 1, 1) := by decide +kernel
theorem d_jdk_42_method_149_code_65 : decode jdk_42_method_149_code 65 = .ok (.iload_n 2, 1) := by decide +kernel
theorem d_jdk_42_method_149_code_66 : decode jdk_42_method_149_code 66 = .ok (.iload_n 3, 1) := by decide +kernel
theorem d_jdk_42_method_149_code_67 : decode jdk_42_method_149_code 67 = .ok (.invokestatic 180, 3) := by decide +kernel
theorem d_jdk_42_method_149_code_70 : decode jdk_42_method_149_code 70 = .ok (.putfield 9, 3) := by decide +kernel
theorem d_jdk_42_method_149_code_73 : decode jdk_42_method_149_code 73 = .ok (.return_, 1) := by decide +kernel
theorem pn_2 : plainName "java/lang/String" = true := by first | (simp [plainName, overriddenIn]; done) | decide +kernel
theorem pd_4 : parseMethodDescriptor "([CII)[B" = some ⟨[(.array .char), .int, .int], some (.array .byte)⟩ := by decide +kernel
theorem pd_5 : parseMethodDescriptor "([BI)B" = some ⟨[(.array .byte), .int], some .byte⟩ := by decide +kernel
set_option maxRecDepth 65536 in
set_option maxHeartbeats 40000000 in
theorem rm_n4_1 (l : Launch) (Z : State) (a0 : Array Value) (hw : ∀ d ∈ tables_1, d.before a0 Z = true) (zc : Int32) (a : Addr) (b : Addr) (kb : ClassId) (u1 : Value) (u2 : Value) (d0 : Int32) (h0 : Heap) (n0 : Nat) (hn0 : n0 ≤ h0.size) (S_c : Sta Z Z.heap "java/lang/String" "COMPACT_STRINGS" "Z" (.int zc)) (hzc : ¬ zc = (0 : Int32)) (O0 : Old Z n0 h0) (E0 : Exa Z h0 a "java/lang/String") (F1 : Fld Z h0 a "java/lang/String" "value" "[B" u1) (F2 : Fld Z h0 a "java/lang/String" "coder" "B" u2) (P0 : Arv Z h0 b kb .char (1 : Int32) [(.int d0)] (.int (0 : Int32))) (ga : n0 ≤ a) (ya : @LT.lt Nat instLTNat a h0.size) (yb : @LT.lt Nat instLTNat b h0.size) (nab : ¬ (@Eq Nat b a)) (hd0 : ¬ d0 < (0 : Int32) ∧ ¬ (255 : Int32) < d0) :
    Con l Z (⟨"java/lang/String", "<init>", "([CIILjava/lang/Void;)V"⟩ : MethodName) jdk_42_method_149_code 6 none [] ({ frames := 2, cells := 1, slots := 1, locals := 35 } : Room) #[(.ref a), (.ref b), (.int (0 : Int32)), (.int (1 : Int32)), .null] h0 (fun v h L => v = none ∧ Fr n0 L ∧ Keep h0 h [a] ∧ ∃ (t : Addr) (k : ClassId), h0.size ≤ t ∧ Exa Z h a "java/lang/String" ∧ Fld Z h a "java/lang/String" "value" "[B" (.ref t) ∧ Fld Z h a "java/lang/String" "coder" "B" (.int (0 : Int32)) ∧ Arv Z h t k .byte (1 : Int32) [(.int (nar .byte (d0.toInt8.toInt32)))] (.int (0 : Int32))) := by
  refine enter (Ls := #[.val (.ref a), .val (.ref b), .val (.int (0 : Int32)), .val (.int (1 : Int32)), .val .null, .unset]) (plainFor_of_name pn_2) (fun m => by exact entry_eq rfl) ?_
  intro p e s m below meth cd_ s₁ S0 hx hby hml hret hlk hnm hown hZ X0 e0 k0
  have N0 := Fr.nil n0
  have k1 : To p.tables e below S0 (s₁.setTop (mkF m 1 #[.val (.ref a), .val (.ref b), .val (.int (0 : Int32)), .val (.int (1 : Int32)), .val .null, .unset] [(.ref a)])) := fun tt hq => k0 tt (by
    show Steps _ _ _ (s₁.setTop (mkF m 0 #[.val (.ref a), .val (.ref b), .val (.int (0 : Int32)), .val (.int (1 : Int32)), .val .null, .unset] [])) _
    refine XS.aloadN X0.here hx rfl (hb hby d_jdk_42_method_149_code_0) rfl rfl ?_
    show Steps _ _ _ (s₁.setTop (mkF m 1 #[.val (.ref a), .val (.ref b), .val (.int (0 : Int32)), .val (.int (1 : Int32)), .val .null, .unset] [(.ref a)])) _
    exact hq)
  obtain ⟨T2, X2, e2, st2⟩ := initO X0 hx hZ hown (hw _ (List.mem_of_getElem? (i := 25) rfl)) (hw _ (List.mem_of_getElem? (i := 26) rfl)) (hw _ (List.mem_of_getElem? (i := 27) rfl)) e0 (g := (mkF m 1 #[.val (.ref a), .val (.ref b), .val (.int (0 : Int32)), .val (.int (1 : Int32)), .val .null, .unset] [(.ref a)])) rfl (by rw [hml]; rfl) rfl (hb hby d_jdk_42_method_149_code_1) (by decide) (W := 0) (by show 2 * 0 + _ ≤ _; exact Nat.le_of_eq rfl) (by decide)
  have k2 : To p.tables e below S0 (T2.setTop (mkF m 4 #[.val (.ref a), .val (.ref b), .val (.int (0 : Int32)), .val (.int (1 : Int32)), .val .null, .unset] [])) := fun tt hq => k1 tt (st2 tt hq)
  have k3 : To p.tables e below S0 (T2.setTop (mkF m 27 #[.val (.ref a), .val (.ref b), .val (.int (0 : Int32)), .val (.int (1 : Int32)), .val .null, .unset] [])) := fun tt hq => k2 tt (by
    show Steps _ _ _ (T2.setTop (mkF m 4 #[.val (.ref a), .val (.ref b), .val (.int (0 : Int32)), .val (.int (1 : Int32)), .val .null, .unset] [])) _
    refine XS.iloadN X2.here hx rfl (hb hby d_jdk_42_method_149_code_4) rfl ?_
    show Steps _ _ _ (T2.setTop (mkF m 5 #[.val (.ref a), .val (.ref b), .val (.int (0 : Int32)), .val (.int (1 : Int32)), .val .null, .unset] [(.int (1 : Int32))])) _
    refine XS.ifYes X2.here hx rfl (pc0 := 5) (pc' := 27) rfl (hb hby d_jdk_42_method_149_code_5) rfl ((if0 _ _).trans (feq (by decide)).2) (by decide) (by decide) ?_
    show Steps _ _ _ (T2.setTop (mkF m 27 #[.val (.ref a), .val (.ref b), .val (.int (0 : Int32)), .val (.int (1 : Int32)), .val .null, .unset] [])) _
    exact hq)
  obtain ⟨T4, X4, e4, st4⟩ := getS2 X2 hx hZ hown (host := "") (Or.inl (hw _ (List.mem_of_getElem? (i := 42) rfl))) Via.refl e2 (staOld S_c O0) (g := (mkF m 27 #[.val (.ref a), .val (.ref b), .val (.int (0 : Int32)), .val (.int (1 : Int32)), .val .null, .unset] [])) rfl (hb hby d_jdk_42_method_149_code_27)
  have k4 : To p.tables e below S0 (T4.setTop (mkF m 30 #[.val (.ref a), .val (.ref b), .val (.int (0 : Int32)), .val (.int (1 : Int32)), .val .null, .unset] [(.int zc)])) := fun tt hq => k3 tt (st4 tt hq)
  have k5 : To p.tables e below S0 (T4.setTop (mkF m 36 #[.val (.ref a), .val (.ref b), .val (.int (0 : Int32)), .val (.int (1 : Int32)), .val .null, .unset] [(.int (1 : Int32)), (.int (0 : Int32)), (.ref b)])) := fun tt hq => k4 tt (by
    show Steps _ _ _ (T4.setTop (mkF m 30 #[.val (.ref a), .val (.ref b), .val (.int (0 : Int32)), .val (.int (1 : Int32)), .val .null, .unset] [(.int zc)])) _
    refine XS.ifNo X4.here hx rfl (hb hby d_jdk_42_method_149_code_30) rfl ((if0 _ _).trans (feq hzc).1) ?_
    show Steps _ _ _ (T4.setTop (mkF m 33 #[.val (.ref a), .val (.ref b), .val (.int (0 : Int32)), .val (.int (1 : Int32)), .val .null, .unset] [])) _
    refine XS.aloadN X4.here hx rfl (hb hby d_jdk_42_method_149_code_33) rfl rfl ?_
    show Steps _ _ _ (T4.setTop (mkF m 34 #[.val (.ref a), .val (.ref b), .val (.int (0 : Int32)), .val (.int (1 : Int32)), .val .null, .unset] [(.ref b)])) _
    refine XS.iloadN X4.here hx rfl (hb hby d_jdk_42_method_149_code_34) rfl ?_
    show Steps _ _ _ (T4.setTop (mkF m 35 #[.val (.ref a), .val (.ref b), .val (.int (0 : Int32)), .val (.int (1 : Int32)), .val .null, .unset] [(.int (0 : Int32)), (.ref b)])) _
    refine XS.iloadN X4.here hx rfl (hb hby d_jdk_42_method_149_code_35) rfl ?_
    show Steps _ _ _ (T4.setTop (mkF m 36 #[.val (.ref a), .val (.ref b), .val (.int (0 : Int32)), .val (.int (1 : Int32)), .val .null, .unset] [(.int (1 : Int32)), (.int (0 : Int32)), (.ref b)])) _
    exact hq)
  obtain ⟨_, T6, L6, X6, ⟨t6, kt6, rfl, Nq6, gt6, Kq6, V6⟩, k6a⟩ := callS' X4 hx hZ (y := (⟨"java/lang/StringUTF16", "compress", "([CII)[B"⟩ : MethodName)) hown (hw _ (List.mem_of_getElem? (i := 43) rfl)) (hw _ (List.mem_of_getElem? (i := 44) rfl)) (hw _ (List.mem_of_getElem? (i := 45) rfl)) (hw _ (List.mem_of_getElem? (i := 46) rfl)) (by decide) (backC (W := 0) (rm_c3_1 l Z a0 hw b kb d0 h0 n0 (by omega) P0 (by omega) hd0) hZ (hw _ (List.mem_of_getElem? (i := 46) rfl)) (hw _ (List.mem_of_getElem? (i := 45) rfl)) (by decide) (by decide)) e4 (argsL := [(.ref b), (.int (0 : Int32)), (.int (1 : Int32))]) (rest := []) rfl rfl pd_4 rfl (by rw [hml]; rfl) (hb hby d_jdk_42_method_149_code_36) (Nat.le_of_eq rfl) (by decide) (by decide) k5
  have k6 : To p.tables e below S0 (T6.setTop (mkF m 39 #[.val (.ref a), .val (.ref b), .val (.int (0 : Int32)), .val (.int (1 : Int32)), .val .null, .unset] [(.ref t6)])) := k6a
  have N6 := N0.app Nq6
  obtain ⟨h6, e6⟩ : ∃ z, T6.heap = z := ⟨_, rfl⟩
  rw [e6] at Kq6 V6
  have z6 : h0.size ≤ h6.size := Kq6.1
  have y6 : @LT.lt Nat instLTNat t6 h6.size := V6.lt
  have k7 : To p.tables e below S0 (T6.setTop (mkF m 45 #[.val (.ref a), .val (.ref b), .val (.int (0 : Int32)), .val (.int (1 : Int32)), .val .null, .val (.ref t6)] [(.int (1 : Int32)), (.ref t6), (.ref a)])) := fun tt hq => k6 tt (by
    show Steps _ _ _ (T6.setTop (mkF m 39 #[.val (.ref a), .val (.ref b), .val (.int (0 : Int32)), .val (.int (1 : Int32)), .val .null, .unset] [(.ref t6)])) _
    refine XS.astore X6.here hx rfl (hb hby d_jdk_42_method_149_code_39) rfl rfl (l' := #[.val (.ref a), .val (.ref b), .val (.int (0 : Int32)), .val (.int (1 : Int32)), .val .null, .val (.ref t6)]) rfl ?_
    show Steps _ _ _ (T6.setTop (mkF m 41 #[.val (.ref a), .val (.ref b), .val (.int (0 : Int32)), .val (.int (1 : Int32)), .val .null, .val (.ref t6)] [])) _
    refine XS.aloadN X6.here hx rfl (hb hby d_jdk_42_method_149_code_41) rfl rfl ?_
    show Steps _ _ _ (T6.setTop (mkF m 42 #[.val (.ref a), .val (.ref b), .val (.int (0 : Int32)), .val (.int (1 : Int32)), .val .null, .val (.ref t6)] [(.ref a)])) _
    refine XS.aload X6.here hx rfl (hb hby d_jdk_42_method_149_code_42) rfl rfl ?_
    show Steps _ _ _ (T6.setTop (mkF m 44 #[.val (.ref a), .val (.ref b), .val (.int (0 : Int32)), .val (.int (1 : Int32)), .val .null, .val (.ref t6)] [(.ref t6), (.ref a)])) _
    refine XS.iloadN X6.here hx rfl (hb hby d_jdk_42_method_149_code_44) rfl ?_
    show Steps _ _ _ (T6.setTop (mkF m 45 #[.val (.ref a), .val (.ref b), .val (.int (0 : Int32)), .val (.int (1 : Int32)), .val .null, .val (.ref t6)] [(.int (1 : Int32)), (.ref t6), (.ref a)])) _
    exact hq)
  obtain ⟨_, T8, L8, X8, ⟨rfl, Nq8, eq8⟩, k8a⟩ := callS' X6 hx hZ (y := (⟨"java/lang/StringUTF16", "coderFromArrayLen", "([BI)B"⟩ : MethodName)) hown (hw _ (List.mem_of_getElem? (i := 50) rfl)) (hw _ (List.mem_of_getElem? (i := 51) rfl)) (hw _ (List.mem_of_getElem? (i := 45) rfl)) (hw _ (List.mem_of_getElem? (i := 52) rfl)) (by decide) (backC (W := 1) (rm_cl_1 l Z a0 hw t6 kt6 (nar .byte (d0.toInt8.toInt32)) h6 n0 (by omega) V6) hZ (hw _ (List.mem_of_getElem? (i := 52) rfl)) (hw _ (List.mem_of_getElem? (i := 45) rfl)) (by decide) (by decide)) e6 (argsL := [(.ref t6), (.int (1 : Int32))]) (rest := [(.ref a)]) rfl rfl pd_5 rfl (by rw [hml]; rfl) (hb hby d_jdk_42_method_149_code_45) (Nat.le_of_eq rfl) (by decide) (by decide) k7
  have k8 : To p.tables e below S0 (T8.setTop (mkF m 48 #[.val (.ref a), .val (.ref b), .val (.int (0 : Int32)), .val (.int (1 : Int32)), .val .null, .val (.ref t6)] [(.int (0 : Int32)), (.ref a)])) := k8a
  have N8 := N6.app Nq8
  have e8 : T8.heap = h6 := eq8
  have f9 : Exa Z h6 a "java/lang/String" := (E0.keep Kq6)
  have f10 : Fld Z h6 a "java/lang/String" "coder" "B" u2 := (F2.keep Kq6 nin0)
  obtain ⟨T11, h11, X11, e11, W11, st11⟩ := putF X8 hx hZ hown (host := "") (Or.inl (hw _ (List.mem_of_getElem? (i := 35) rfl))) Via.refl e8 f10 f9 (Or.inr ⟨(hw _ (List.mem_of_getElem? (i := 31) rfl)), rfl, hnm⟩) (hw _ (List.mem_of_getElem? (i := 15) rfl)) (ty := .byte) (by decide) rfl rfl (g := (mkF m 48 #[.val (.ref a), .val (.ref b), .val (.int (0 : Int32)), .val (.int (1 : Int32)), .val .null, .val (.ref t6)] [(.int (0 : Int32)), (.ref a)])) rfl rfl (hb hby d_jdk_42_method_149_code_48)
  have k11 : To p.tables e below S0 (T11.setTop (mkF m 51 #[.val (.ref a), .val (.ref b), .val (.int (0 : Int32)), .val (.int (1 : Int32)), .val .null, .val (.ref t6)] [])) := fun tt hq => k8 tt (st11 tt hq)
  have z11 : h11.size = h6.size := W11.size
  have F11 := f10.same W11
  have N11 := Fr.snoc X11 N8 (by omega : n0 ≤ a)
  have f12 : Exa Z h11 a "java/lang/String" := (f9.wr W11)
  have f13 : Fld Z h11 a "java/lang/String" "value" "[B" u1 := ((F1.keep Kq6 nin0).other W11 (Or.inr (slot_ne (Or.inr (hw _ (List.mem_of_getElem? (i := 30) rfl))) (Or.inr (hw _ (List.mem_of_getElem? (i := 31) rfl))) (by decide) (t := (.array .byte)) (t' := .byte) (by decide) (by decide))))
  have k14 : To p.tables e below S0 (T11.setTop (mkF m 54 #[.val (.ref a), .val (.ref b), .val (.int (0 : Int32)), .val (.int (1 : Int32)), .val .null, .val (.ref t6)] [(.ref t6), (.ref a)])) := fun tt hq => k11 tt (by
    show Steps _ _ _ (T11.setTop (mkF m 51 #[.val (.ref a), .val (.ref b), .val (.int (0 : Int32)), .val (.int (1 : Int32)), .val .null, .val (.ref t6)] [])) _
    refine XS.aloadN X11.here hx rfl (hb hby d_jdk_42_method_149_code_51) rfl rfl ?_
    show Steps _ _ _ (T11.setTop (mkF m 52 #[.val (.ref a), .val (.ref b), .val (.int (0 : Int32)), .val (.int (1 : Int32)), .val .null, .val (.ref t6)] [(.ref a)])) _
    refine XS.aload X11.here hx rfl (hb hby d_jdk_42_method_149_code_52) rfl rfl ?_
    show Steps _ _ _ (T11.setTop (mkF m 54 #[.val (.ref a), .val (.ref b), .val (.int (0 : Int32)), .val (.int (1 : Int32)), .val .null, .val (.ref t6)] [(.ref t6), (.ref a)])) _
    exact hq)
  obtain ⟨T15, h15, X15, e15, W15, st15⟩ := putF X11 hx hZ hown (host := "") (Or.inl (hw _ (List.mem_of_getElem? (i := 34) rfl))) Via.refl e11 f13 f12 (Or.inr ⟨(hw _ (List.mem_of_getElem? (i := 30) rfl)), rfl, hnm⟩) (hw _ (List.mem_of_getElem? (i := 15) rfl)) (ty := (.array .byte)) (by decide) rfl rfl (g := (mkF m 54 #[.val (.ref a), .val (.ref b), .val (.int (0 : Int32)), .val (.int (1 : Int32)), .val .null, .val (.ref t6)] [(.ref t6), (.ref a)])) rfl rfl (hb hby d_jdk_42_method_149_code_54)
  have k15 : To p.tables e below S0 (T15.setTop (mkF m 57 #[.val (.ref a), .val (.ref b), .val (.int (0 : Int32)), .val (.int (1 : Int32)), .val .null, .val (.ref t6)] [])) := fun tt hq => k14 tt (st15 tt hq)
  have z15 : h15.size = h11.size := W15.size
  have F15 := f13.same W15
  have N15 := Fr.snoc X15 N11 (by omega : n0 ≤ a)
  have f16 : Exa Z h15 a "java/lang/String" := (f12.wr W15)
  have f17 : Fld Z h15 a "java/lang/String" "coder" "B" (.int (0 : Int32)) := (F11.other W15 (Or.inr (slot_ne (Or.inr (hw _ (List.mem_of_getElem? (i := 31) rfl))) (Or.inr (hw _ (List.mem_of_getElem? (i := 30) rfl))) (by decide) (t := .byte) (t' := (.array .byte)) (by decide) (by decide))))
  have f18 : Arv Z h15 t6 kt6 .byte (1 : Int32) [(.int (nar .byte (d0.toInt8.toInt32)))] (.int (0 : Int32)) := ((V6.other W11 (adr_ne (by omega))).other W15 (adr_ne (by omega)))
  have hE := e15
  refine retVoid X15 hx hret hlk (hb hby d_jdk_42_method_149_code_57) k15 ?_ (by decide) (by decide)
  try rw [hE]
  exact ⟨rfl, N15, ((((Keep.refl h0 [a]).trans Kq6 all0).wr W11 (Or.inl (by simp))).wr W15 (Or.inl (by simp))), t6, kt6, (by omega), f16, F15, f17, f18⟩
theorem d_jdk_42_method_3_code_0 : decode jdk_42_method_3_code 0 = .ok (.aload_n 0, 1) := by decide +kernel
theorem d_jdk_42_method_3_code_1 : decode jdk_42_method_3_code 1 = .ok (.aload_n 1, 1) := by decide +kernel
theorem d_jdk_42_method_3_code_2 : decode jdk_42_method_3_code 2 = .ok (.iconst 0, 1) := by decide +kernel
theorem d_jdk_42_method_3_code_3 : decode jdk_42_method_3_code 3 = .ok (.aload_n 1, 1) := by decide +kernel
theorem d_jdk_42_method_3_code_4 : decode jdk_42_method_3_code 4 = .ok (.arraylength, 1) := by decide +kernel
theorem d_jdk_42_method_3_code_5 : decode jdk_42_method_3_code 5 = .ok (.aconst_null, 1) := by decide +kernel
theorem d_jdk_42_method_3_code_6 : decode jdk_42_method_3_code 6 = .ok (.invokespecial 27, 3) := by decide +kernel
theorem d_jdk_42_method_3_code_9 : decode jdk_42_method_3_code 9 = .ok (.return_, 1) := by decide +kernel
theorem pd_6 : parseMethodDescriptor "([CIILjava/lang/Void;)V" = some ⟨[(.array .char), .int, .int, (.object "java/lang/Void")], none⟩ := by decide +kernel
set_option maxRecDepth 65536 in
set_option maxHeartbeats 40000000 in
theorem rm_n1_1 (l : Launch) (Z : State) (a0 : Array Value) (hw : ∀ d ∈ tables_1, d.before a0 Z = true) (zc : Int32) (a : Addr) (b : Addr) (kb : ClassId) (u1 : Value) (u2 : Value) (d0 : Int32) (h0 : Heap) (n0 : Nat) (hn0 : n0 ≤ h0.size) (S_c : Sta Z Z.heap "java/lang/String" "COMPACT_STRINGS" "Z" (.int zc)) (hzc : ¬ zc = (0 : Int32)) (O0 : Old Z n0 h0) (E0 : Exa Z h0 a "java/lang/String") (F1 : Fld Z h0 a "java/lang/String" "value" "[B" u1) (F2 : Fld Z h0 a "java/lang/String" "coder" "B" u2) (P0 : Arv Z h0 b kb .char (1 : Int32) [(.int d0)] (.int (0 : Int32))) (ga : n0 ≤ a) (ya : @LT.lt Nat instLTNat a h0.size) (yb : @LT.lt Nat instLTNat b h0.size) (nab : ¬ (@Eq Nat b a)) (hd0 : ¬ d0 < (0 : Int32) ∧ ¬ (255 : Int32) < d0) :
    Con l Z (⟨"java/lang/String", "<init>", "([C)V"⟩ : MethodName) jdk_42_method_3_code 2 none [] ({ frames := 3, cells := 1, slots := 1, locals := 52 } : Room) #[(.ref a), (.ref b)] h0 (fun v h L => v = none ∧ Fr n0 L ∧ Keep h0 h [a] ∧ ∃ (t : Addr) (k : ClassId), h0.size ≤ t ∧ Exa Z h a "java/lang/String" ∧ Fld Z h a "java/lang/String" "value" "[B" (.ref t) ∧ Fld Z h a "java/lang/String" "coder" "B" (.int (0 : Int32)) ∧ Arv Z h t k .byte (1 : Int32) [(.int (nar .byte (d0.toInt8.toInt32)))] (.int (0 : Int32))) := by
  refine enter (Ls := #[.val (.ref a), .val (.ref b)]) (plainFor_of_name pn_2) (fun m => by exact entry_eq rfl) ?_
  intro p e s m below meth cd_ s₁ S0 hx hby hml hret hlk hnm hown hZ X0 e0 k0
  have N0 := Fr.nil n0
  have k1 : To p.tables e below S0 (s₁.setTop (mkF m 4 #[.val (.ref a), .val (.ref b)] [(.ref b), (.int (0 : Int32)), (.ref b), (.ref a)])) := fun tt hq => k0 tt (by
    show Steps _ _ _ (s₁.setTop (mkF m 0 #[.val (.ref a), .val (.ref b)] [])) _
    refine XS.aloadN X0.here hx rfl (hb hby d_jdk_42_method_3_code_0) rfl rfl ?_
    show Steps _ _ _ (s₁.setTop (mkF m 1 #[.val (.ref a), .val (.ref b)] [(.ref a)])) _
    refine XS.aloadN X0.here hx rfl (hb hby d_jdk_42_method_3_code_1) rfl rfl ?_
    show Steps _ _ _ (s₁.setTop (mkF m 2 #[.val (.ref a), .val (.ref b)] [(.ref b), (.ref a)])) _
    refine XS.iconst X0.here hx rfl (hb hby d_jdk_42_method_3_code_2) ?_
    show Steps _ _ _ (s₁.setTop (mkF m 3 #[.val (.ref a), .val (.ref b)] [(.int (0 : Int32)), (.ref b), (.ref a)])) _
    refine XS.aloadN X0.here hx rfl (hb hby d_jdk_42_method_3_code_3) rfl rfl ?_
    show Steps _ _ _ (s₁.setTop (mkF m 4 #[.val (.ref a), .val (.ref b)] [(.ref b), (.int (0 : Int32)), (.ref b), (.ref a)])) _
    exact hq)
  obtain ⟨cl2, Ar2, -, S2, M2, -, -⟩ := id P0
  have st2 := fun tt => X0.arraylength hx (by rw [e0]; exact Ar2.1) (State.isArrayOf_alike hZ.alike Ar2.2.1) (g := (mkF m 4 #[.val (.ref a), .val (.ref b)] [(.ref b), (.int (0 : Int32)), (.ref b), (.ref a)])) rfl rfl (hb hby d_jdk_42_method_3_code_4) tt
  rw [len_of S2 M2] at st2
  have k2 : To p.tables e below S0 (s₁.setTop (mkF m 5 #[.val (.ref a), .val (.ref b)] [(.int (1 : Int32)), (.int (0 : Int32)), (.ref b), (.ref a)])) := fun tt hq => k1 tt (st2 tt hq)
  have k3 : To p.tables e below S0 (s₁.setTop (mkF m 6 #[.val (.ref a), .val (.ref b)] [.null, (.int (1 : Int32)), (.int (0 : Int32)), (.ref b), (.ref a)])) := fun tt hq => k2 tt (by
    show Steps _ _ _ (s₁.setTop (mkF m 5 #[.val (.ref a), .val (.ref b)] [(.int (1 : Int32)), (.int (0 : Int32)), (.ref b), (.ref a)])) _
    refine XS.aconstNull X0.here hx rfl (hb hby d_jdk_42_method_3_code_5) ?_
    show Steps _ _ _ (s₁.setTop (mkF m 6 #[.val (.ref a), .val (.ref b)] [.null, (.int (1 : Int32)), (.int (0 : Int32)), (.ref b), (.ref a)])) _
    exact hq)
  obtain ⟨_, T4, L4, X4, ⟨rfl, Nq4, Kq4, t4, kt4, gt4, P40, P41, P42, P43⟩, k4a⟩ := callC' X0 hx hZ (y := (⟨"java/lang/String", "<init>", "([CIILjava/lang/Void;)V"⟩ : MethodName)) rfl hown (hw _ (List.mem_of_getElem? (i := 21) rfl)) (hw _ (List.mem_of_getElem? (i := 22) rfl)) (hw _ (List.mem_of_getElem? (i := 24) rfl)) (by decide) (backC (W := 0) (rm_n4_1 l Z a0 hw zc a b kb u1 u2 d0 h0 n0 (by omega) S_c hzc O0 E0 F1 F2 P0 (by omega) (by omega) (by omega) (by omega) hd0) hZ (hw _ (List.mem_of_getElem? (i := 24) rfl)) (hw _ (List.mem_of_getElem? (i := 16) rfl)) (by decide) (by decide)) e0 (argsL := [(.ref b), (.int (0 : Int32)), (.int (1 : Int32)), .null]) (rest := []) rfl rfl pd_6 rfl (by rw [hml]; rfl) (hb hby d_jdk_42_method_3_code_6) (Nat.le_of_eq rfl) (by decide) (by decide) k3
  have k4 : To p.tables e below S0 (T4.setTop (mkF m 9 #[.val (.ref a), .val (.ref b)] [])) := k4a
  have N4 := N0.app Nq4
  obtain ⟨h4, e4⟩ : ∃ z, T4.heap = z := ⟨_, rfl⟩
  rw [e4] at Kq4 P40 P41 P42 P43
  have z4 : h0.size ≤ h4.size := Kq4.1
  have y4 : @LT.lt Nat instLTNat t4 h4.size := P43.lt
  have hE := e4
  refine retVoid X4 hx hret hlk (hb hby d_jdk_42_method_3_code_9) k4 ?_ (by decide) (by decide)
  try rw [hE]
  exact ⟨rfl, N4, ((Keep.refl h0 [a]).trans Kq4 (allS (Or.inl (by simp)) all0)), t4, kt4, (by omega), P40, P41, P42, P43⟩
set_option maxRecDepth 65536 in
set_option maxHeartbeats 40000000 in
theorem rm_c5_2 (l : Launch) (Z : State) (a0 : Array Value) (hw : ∀ d ∈ tables_1, d.before a0 Z = true) (b : Addr) (kb : ClassId) (t : Addr) (kt : ClassId) (d0 : Int32) (d1 : Int32) (h0 : Heap) (n0 : Nat) (hn0 : n0 ≤ h0.size) (P0 : Arv Z h0 b kb .char (2 : Int32) [(.int d0), (.int d1)] (.int (0 : Int32))) (P1 : Arv Z h0 t kt .byte (2 : Int32) [(.int (0 : Int32)), (.int (0 : Int32))] (.int (0 : Int32))) (ga : n0 ≤ t) (nbt : ¬ (@Eq Nat b t)) (hd0 : ¬ d0 < (0 : Int32) ∧ ¬ (255 : Int32) < d0) (hd1 : ¬ d1 < (0 : Int32) ∧ ¬ (255 : Int32) < d1) :
    Con l Z (⟨"java/lang/StringUTF16", "compress", "([CI[BII)I"⟩ : MethodName) jdk_52_method_21_code 7 (some .int) [] ({ frames := 0, cells := 0, slots := 0, locals := 0 } : Room) #[(.ref b), (.int (0 : Int32)), (.ref t), (.int (0 : Int32)), (.int (2 : Int32))] h0 (fun v h L => v = some (.int (2 : Int32)) ∧ Fr n0 L ∧ Keep h0 h [t] ∧ Arv Z h t kt .byte (2 : Int32) [(.int (nar .byte (d0.toInt8.toInt32))), (.int (nar .byte (d1.toInt8.toInt32)))] (.int (0 : Int32))) := by
  refine enter (Ls := #[.val (.ref b), .val (.int (0 : Int32)), .val (.ref t), .val (.int (0 : Int32)), .val (.int (2 : Int32)), .unset, .unset]) (plainFor_of_name pn_1) (fun m => by exact entry_eq rfl) ?_
  intro p e s m below meth cd_ s₁ S0 hx hby hml hret hlk hnm hown hZ X0 e0 k0
  have N0 := Fr.nil n0
  have k1 : To p.tables e below S0 (s₁.setTop (mkF m 12 #[.val (.ref b), .val (.int (0 : Int32)), .val (.ref t), .val (.int (0 : Int32)), .val (.int (2 : Int32)), .val (.int (0 : Int32)), .unset] [(.int (0 : Int32)), (.ref b)])) := fun tt hq => k0 tt (by
    show Steps _ _ _ (s₁.setTop (mkF m 0 #[.val (.ref b), .val (.int (0 : Int32)), .val (.ref t), .val (.int (0 : Int32)), .val (.int (2 : Int32)), .unset, .unset] [])) _
    refine XS.iconst X0.here hx rfl (hb hby d_jdk_52_method_21_code_0) ?_
    show Steps _ _ _ (s₁.setTop (mkF m 1 #[.val (.ref b), .val (.int (0 : Int32)), .val (.ref t), .val (.int (0 : Int32)), .val (.int (2 : Int32)), .unset, .unset] [(.int (0 : Int32))])) _
    refine XS.istore X0.here hx rfl (hb hby d_jdk_52_method_21_code_1) rfl (l' := #[.val (.ref b), .val (.int (0 : Int32)), .val (.ref t), .val (.int (0 : Int32)), .val (.int (2 : Int32)), .val (.int (0 : Int32)), .unset]) rfl ?_
    show Steps _ _ _ (s₁.setTop (mkF m 3 #[.val (.ref b), .val (.int (0 : Int32)), .val (.ref t), .val (.int (0 : Int32)), .val (.int (2 : Int32)), .val (.int (0 : Int32)), .unset] [])) _
    refine XS.iload X0.here hx rfl (hb hby d_jdk_52_method_21_code_3) rfl ?_
    show Steps _ _ _ (s₁.setTop (mkF m 5 #[.val (.ref b), .val (.int (0 : Int32)), .val (.ref t), .val (.int (0 : Int32)), .val (.int (2 : Int32)), .val (.int (0 : Int32)), .unset] [(.int (0 : Int32))])) _
    refine XS.iload X0.here hx rfl (hb hby d_jdk_52_method_21_code_5) rfl ?_
    show Steps _ _ _ (s₁.setTop (mkF m 7 #[.val (.ref b), .val (.int (0 : Int32)), .val (.ref t), .val (.int (0 : Int32)), .val (.int (2 : Int32)), .val (.int (0 : Int32)), .unset] [(.int (2 : Int32)), (.int (0 : Int32))])) _
    refine XS.icmpNo X0.here hx rfl (hb hby d_jdk_52_method_21_code_7) rfl (tlt (by decide)).2.1 ?_
    show Steps _ _ _ (s₁.setTop (mkF m 10 #[.val (.ref b), .val (.int (0 : Int32)), .val (.ref t), .val (.int (0 : Int32)), .val (.int (2 : Int32)), .val (.int (0 : Int32)), .unset] [])) _
    refine XS.aloadN X0.here hx rfl (hb hby d_jdk_52_method_21_code_10) rfl rfl ?_
    show Steps _ _ _ (s₁.setTop (mkF m 11 #[.val (.ref b), .val (.int (0 : Int32)), .val (.ref t), .val (.int (0 : Int32)), .val (.int (2 : Int32)), .val (.int (0 : Int32)), .unset] [(.ref b)])) _
    refine XS.iloadN X0.here hx rfl (hb hby d_jdk_52_method_21_code_11) rfl ?_
    show Steps _ _ _ (s₁.setTop (mkF m 12 #[.val (.ref b), .val (.int (0 : Int32)), .val (.ref t), .val (.int (0 : Int32)), .val (.int (2 : Int32)), .val (.int (0 : Int32)), .unset] [(.int (0 : Int32)), (.ref b)])) _
    exact hq)
  obtain ⟨cl2, Ar2, -, S2, -, G2, -⟩ := id P0
  have hi2 := inb_of (j := (0 : Int32)) S2 ⟨by decide, by decide⟩
  have st2 := fun tt => X0.caload hx (j := (0 : Int32)) (v := (.int d0)) (by rw [e0]; exact Ar2.1) (State.isArrayOf_alike hZ.alike Ar2.2.1) Ar2.2.2 hi2 (G2.at hi2 rfl) (g := (mkF m 12 #[.val (.ref b), .val (.int (0 : Int32)), .val (.ref t), .val (.int (0 : Int32)), .val (.int (2 : Int32)), .val (.int (0 : Int32)), .unset] [(.int (0 : Int32)), (.ref b)])) rfl rfl (hb hby d_jdk_52_method_21_code_12) tt
  have k2 : To p.tables e below S0 (s₁.setTop (mkF m 13 #[.val (.ref b), .val (.int (0 : Int32)), .val (.ref t), .val (.int (0 : Int32)), .val (.int (2 : Int32)), .val (.int (0 : Int32)), .unset] [(.int d0)])) := fun tt hq => k1 tt (st2 tt hq)
  have k3 : To p.tables e below S0 (s₁.setTop (mkF m 31 #[.val (.ref b), .val (.int (0 : Int32)), .val (.ref t), .val (.int (0 : Int32)), .val (.int (2 : Int32)), .val (.int (0 : Int32)), .val (.int d0)] [(.int (d0.toInt8.toInt32)), (.int (0 : Int32)), (.ref t)])) := fun tt hq => k2 tt (by
    show Steps _ _ _ (s₁.setTop (mkF m 13 #[.val (.ref b), .val (.int (0 : Int32)), .val (.ref t), .val (.int (0 : Int32)), .val (.int (2 : Int32)), .val (.int (0 : Int32)), .unset] [(.int d0)])) _
    refine XS.istore X0.here hx rfl (hb hby d_jdk_52_method_21_code_13) rfl (l' := #[.val (.ref b), .val (.int (0 : Int32)), .val (.ref t), .val (.int (0 : Int32)), .val (.int (2 : Int32)), .val (.int (0 : Int32)), .val (.int d0)]) rfl ?_
    show Steps _ _ _ (s₁.setTop (mkF m 15 #[.val (.ref b), .val (.int (0 : Int32)), .val (.ref t), .val (.int (0 : Int32)), .val (.int (2 : Int32)), .val (.int (0 : Int32)), .val (.int d0)] [])) _
    refine XS.iload X0.here hx rfl (hb hby d_jdk_52_method_21_code_15) rfl ?_
    show Steps _ _ _ (s₁.setTop (mkF m 17 #[.val (.ref b), .val (.int (0 : Int32)), .val (.ref t), .val (.int (0 : Int32)), .val (.int (2 : Int32)), .val (.int (0 : Int32)), .val (.int d0)] [(.int d0)])) _
    refine XS.sipush X0.here hx rfl (hb hby d_jdk_52_method_21_code_17) ?_
    show Steps _ _ _ (s₁.setTop (mkF m 20 #[.val (.ref b), .val (.int (0 : Int32)), .val (.ref t), .val (.int (0 : Int32)), .val (.int (2 : Int32)), .val (.int (0 : Int32)), .val (.int d0)] [(.int (255 : Int32)), (.int d0)])) _
    refine XS.icmpYes X0.here hx rfl (pc0 := 20) (pc' := 26) rfl (hb hby d_jdk_52_method_21_code_20) rfl (flt hd0.2).2.2.2 (by decide) (by decide) ?_
    show Steps _ _ _ (s₁.setTop (mkF m 26 #[.val (.ref b), .val (.int (0 : Int32)), .val (.ref t), .val (.int (0 : Int32)), .val (.int (2 : Int32)), .val (.int (0 : Int32)), .val (.int d0)] [])) _
    refine XS.aloadN X0.here hx rfl (hb hby d_jdk_52_method_21_code_26) rfl rfl ?_
    show Steps _ _ _ (s₁.setTop (mkF m 27 #[.val (.ref b), .val (.int (0 : Int32)), .val (.ref t), .val (.int (0 : Int32)), .val (.int (2 : Int32)), .val (.int (0 : Int32)), .val (.int d0)] [(.ref t)])) _
    refine XS.iloadN X0.here hx rfl (hb hby d_jdk_52_method_21_code_27) rfl ?_
    show Steps _ _ _ (s₁.setTop (mkF m 28 #[.val (.ref b), .val (.int (0 : Int32)), .val (.ref t), .val (.int (0 : Int32)), .val (.int (2 : Int32)), .val (.int (0 : Int32)), .val (.int d0)] [(.int (0 : Int32)), (.ref t)])) _
    refine XS.iload X0.here hx rfl (hb hby d_jdk_52_method_21_code_28) rfl ?_
    show Steps _ _ _ (s₁.setTop (mkF m 30 #[.val (.ref b), .val (.int (0 : Int32)), .val (.ref t), .val (.int (0 : Int32)), .val (.int (2 : Int32)), .val (.int (0 : Int32)), .val (.int d0)] [(.int d0), (.int (0 : Int32)), (.ref t)])) _
    refine XS.i2b X0.here hx rfl (hb hby d_jdk_52_method_21_code_30) rfl ?_
    show Steps _ _ _ (s₁.setTop (mkF m 31 #[.val (.ref b), .val (.int (0 : Int32)), .val (.ref t), .val (.int (0 : Int32)), .val (.int (2 : Int32)), .val (.int (0 : Int32)), .val (.int d0)] [(.int (d0.toInt8.toInt32)), (.int (0 : Int32)), (.ref t)])) _
    exact hq)
  obtain ⟨cl4, Ar4, q4, S4, M4, G4, J4⟩ := id P1
  obtain ⟨T4, h4, X4, e4, W4, st4⟩ := stB X0 hx hZ e0 Ar4 (j := (0 : Int32)) (inb_of S4 ⟨by decide, by decide⟩) (g := (mkF m 31 #[.val (.ref b), .val (.int (0 : Int32)), .val (.ref t), .val (.int (0 : Int32)), .val (.int (2 : Int32)), .val (.int (0 : Int32)), .val (.int d0)] [(.int (d0.toInt8.toInt32)), (.int (0 : Int32)), (.ref t)])) rfl rfl (hb hby d_jdk_52_method_21_code_31)
  have k4 : To p.tables e below S0 (T4.setTop (mkF m 32 #[.val (.ref b), .val (.int (0 : Int32)), .val (.ref t), .val (.int (0 : Int32)), .val (.int (2 : Int32)), .val (.int (0 : Int32)), .val (.int d0)] [])) := fun tt hq => k3 tt (st4 tt hq)
  have z4 : h4.size = h0.size := W4.size
  have V4 : Arv Z h4 t kt .byte (2 : Int32) [(.int (nar .byte (d0.toInt8.toInt32))), (.int (0 : Int32))] (.int (0 : Int32)) := Arv.set Ar4 q4 S4 M4 G4 J4 (fits_nar_byte _) W4 0 rfl (Nat.le_of_ble_eq_true rfl)
  have N4 := Fr.snoc X4 N0 (by omega : n0 ≤ t)
  have f5 : Arv Z h4 b kb .char (2 : Int32) [(.int d0), (.int d1)] (.int (0 : Int32)) := (P0.other W4 (adr_ne (by omega)))
  have k6 : To p.tables e below S0 (T4.setTop (mkF m 12 #[.val (.ref b), .val (.int (1 : Int32)), .val (.ref t), .val (.int (1 : Int32)), .val (.int (2 : Int32)), .val (.int (1 : Int32)), .val (.int d0)] [(.int (1 : Int32)), (.ref b)])) := fun tt hq => k4 tt (by
    show Steps _ _ _ (T4.setTop (mkF m 32 #[.val (.ref b), .val (.int (0 : Int32)), .val (.ref t), .val (.int (0 : Int32)), .val (.int (2 : Int32)), .val (.int (0 : Int32)), .val (.int d0)] [])) _
    refine XS.iinc X4.here hx rfl (hb hby d_jdk_52_method_21_code_32) rfl (l' := #[.val (.ref b), .val (.int (1 : Int32)), .val (.ref t), .val (.int (0 : Int32)), .val (.int (2 : Int32)), .val (.int (0 : Int32)), .val (.int d0)]) rfl ?_
    show Steps _ _ _ (T4.setTop (mkF m 35 #[.val (.ref b), .val (.int (1 : Int32)), .val (.ref t), .val (.int (0 : Int32)), .val (.int (2 : Int32)), .val (.int (0 : Int32)), .val (.int d0)] [])) _
    refine XS.iinc X4.here hx rfl (hb hby d_jdk_52_method_21_code_35) rfl (l' := #[.val (.ref b), .val (.int (1 : Int32)), .val (.ref t), .val (.int (1 : Int32)), .val (.int (2 : Int32)), .val (.int (0 : Int32)), .val (.int d0)]) rfl ?_
    show Steps _ _ _ (T4.setTop (mkF m 38 #[.val (.ref b), .val (.int (1 : Int32)), .val (.ref t), .val (.int (1 : Int32)), .val (.int (2 : Int32)), .val (.int (0 : Int32)), .val (.int d0)] [])) _
    refine XS.iinc X4.here hx rfl (hb hby d_jdk_52_method_21_code_38) rfl (l' := #[.val (.ref b), .val (.int (1 : Int32)), .val (.ref t), .val (.int (1 : Int32)), .val (.int (2 : Int32)), .val (.int (1 : Int32)), .val (.int d0)]) rfl ?_
    show Steps _ _ _ (T4.setTop (mkF m 41 #[.val (.ref b), .val (.int (1 : Int32)), .val (.ref t), .val (.int (1 : Int32)), .val (.int (2 : Int32)), .val (.int (1 : Int32)), .val (.int d0)] [])) _
    refine XS.goto X4.here hx rfl (pc0 := 41) (pc' := 3) rfl (hb hby d_jdk_52_method_21_code_41) (by decide) (by decide) ?_
    show Steps _ _ _ (T4.setTop (mkF m 3 #[.val (.ref b), .val (.int (1 : Int32)), .val (.ref t), .val (.int (1 : Int32)), .val (.int (2 : Int32)), .val (.int (1 : Int32)), .val (.int d0)] [])) _
    refine XS.iload X4.here hx rfl (hb hby d_jdk_52_method_21_code_3) rfl ?_
    show Steps _ _ _ (T4.setTop (mkF m 5 #[.val (.ref b), .val (.int (1 : Int32)), .val (.ref t), .val (.int (1 : Int32)), .val (.int (2 : Int32)), .val (.int (1 : Int32)), .val (.int d0)] [(.int (1 : Int32))])) _
    refine XS.iload X4.here hx rfl (hb hby d_jdk_52_method_21_code_5) rfl ?_
    show Steps _ _ _ (T4.setTop (mkF m 7 #[.val (.ref b), .val (.int (1 : Int32)), .val (.ref t), .val (.int (1 : Int32)), .val (.int (2 : Int32)), .val (.int (1 : Int32)), .val (.int d0)] [(.int (2 : Int32)), (.int (1 : Int32))])) _
    refine XS.icmpNo X4.here hx rfl (hb hby d_jdk_52_method_21_code_7) rfl (tlt (by decide)).2.1 ?_
    show Steps _ _ _ (T4.setTop (mkF m 10 #[.val (.ref b), .val (.int (1 : Int32)), .val (.ref t), .val (.int (1 : Int32)), .val (.int (2 : Int32)), .val (.int (1 : Int32)), .val (.int d0)] [])) _
    refine XS.aloadN X4.here hx rfl (hb hby d_jdk_52_method_21_code_10) rfl rfl ?_
    show Steps _ _ _ (T4.setTop (mkF m 11 #[.val (.ref b), .val (.int (1 : Int32)), .val (.ref t), .val (.int (1 : Int32)), .val (.int (2 : Int32)), .val (.int (1 : Int32)), .val (.int d0)] [(.ref b)])) _
    refine XS.iloadN X4.here hx rfl (hb hby d_jdk_52_method_21_code_11) rfl ?_
    show Steps _ _ _ (T4.setTop (mkF m 12 #[.val (.ref b), .val (.int (1 : Int32)), .val (.ref t), .val (.int (1 : Int32)), .val (.int (2 : Int32)), .val (.int (1 : Int32)), .val (.int d0)] [(.int (1 : Int32)), (.ref b)])) _
    exact hq)
  obtain ⟨cl7, Ar7, -, S7, -, G7, -⟩ := id f5
  have hi7 := inb_of (j := (1 : Int32)) S7 ⟨by decide, by decide⟩
  have st7 := fun tt => X4.caload hx (j := (1 : Int32)) (v := (.int d1)) (by rw [e4]; exact Ar7.1) (State.isArrayOf_alike hZ.alike Ar7.2.1) Ar7.2.2 hi7 (G7.at hi7 rfl) (g := (mkF m 12 #[.val (.ref b), .val (.int (1 : Int32)), .val (.ref t), .val (.int (1 : Int32)), .val (.int (2 : Int32)), .val (.int (1 : Int32)), .val (.int d0)] [(.int (1 : Int32)), (.ref b)])) rfl rfl (hb hby d_jdk_52_method_21_code_12) tt
  have k7 : To p.tables e below S0 (T4.setTop (mkF m 13 #[.val (.ref b), .val (.int (1 : Int32)), .val (.ref t), .val (.int (1 : Int32)), .val (.int (2 : Int32)), .val (.int (1 : Int32)), .val (.int d0)] [(.int d1)])) := fun tt hq => k6 tt (st7 tt hq)
  have k8 : To p.tables e below S0 (T4.setTop (mkF m 31 #[.val (.ref b), .val (.int (1 : Int32)), .val (.ref t), .val (.int (1 : Int32)), .val (.int (2 : Int32)), .val (.int (1 : Int32)), .val (.int d1)] [(.int (d1.toInt8.toInt32)), (.int (1 : Int32)), (.ref t)])) := fun tt hq => k7 tt (by
    show Steps _ _ _ (T4.setTop (mkF m 13 #[.val (.ref b), .val (.int (1 : Int32)), .val (.ref t), .val (.int (1 : Int32)), .val (.int (2 : Int32)), .val (.int (1 : Int32)), .val (.int d0)] [(.int d1)])) _
    refine XS.istore X4.here hx rfl (hb hby d_jdk_52_method_21_code_13) rfl (l' := #[.val (.ref b), .val (.int (1 : Int32)), .val (.ref t), .val (.int (1 : Int32)), .val (.int (2 : Int32)), .val (.int (1 : Int32)), .val (.int d1)]) rfl ?_
    show Steps _ _ _ (T4.setTop (mkF m 15 #[.val (.ref b), .val (.int (1 : Int32)), .val (.ref t), .val (.int (1 : Int32)), .val (.int (2 : Int32)), .val (.int (1 : Int32)), .val (.int d1)] [])) _
    refine XS.iload X4.here hx rfl (hb hby d_jdk_52_method_21_code_15) rfl ?_
    show Steps _ _ _ (T4.setTop (mkF m 17 #[.val (.ref b), .val (.int (1 : Int32)), .val (.ref t), .val (.int (1 : Int32)), .val (.int (2 : Int32)), .val (.int (1 : Int32)), .val (.int d1)] [(.int d1)])) _
    refine XS.sipush X4.here hx rfl (hb hby d_jdk_52_method_21_code_17) ?_
    show Steps _ _ _ (T4.setTop (mkF m 20 #[.val (.ref b), .val (.int (1 : Int32)), .val (.ref t), .val (.int (1 : Int32)), .val (.int (2 : Int32)), .val (.int (1 : Int32)), .val (.int d1)] [(.int (255 : Int32)), (.int d1)])) _
    refine XS.icmpYes X4.here hx rfl (pc0 := 20) (pc' := 26) rfl (hb hby d_jdk_52_method_21_code_20) rfl (flt hd1.2).2.2.2 (by decide) (by decide) ?_
    show Steps _ _ _ (T4.setTop (mkF m 26 #[.val (.ref b), .val (.int (1 : Int32)), .val (.ref t), .val (.int (1 : Int32)), .val (.int (2 : Int32)), .val (.int (1 : Int32)), .val (.int d1)] [])) _
    refine XS.aloadN X4.here hx rfl (hb hby d_jdk_52_method_21_code_26) rfl rfl ?_
    show Steps _ _ _ (T4.setTop (mkF m 27 #[.val (.ref b), .val (.int (1 : Int32)), .val (.ref t), .val (.int (1 : Int32)), .val (.int (2 : Int32)), .val (.int (1 : Int32)), .val (.int d1)] [(.ref t)])) _
    refine XS.iloadN X4.here hx rfl (hb hby d_jdk_52_method_21_code_27) rfl ?_
    show Steps _ _ _ (T4.setTop (mkF m 28 #[.val (.ref b), .val (.int (1 : Int32)), .val (.ref t), .val (.int (1 : Int32)), .val (.int (2 : Int32)), .val (.int (1 : Int32)), .val (.int d1)] [(.int (1 : Int32)), (.ref t)])) _
    refine XS.iload X4.here hx rfl (hb hby d_jdk_52_method_21_code_28) rfl ?_
    show Steps _ _ _ (T4.setTop (mkF m 30 #[.val (.ref b), .val (.int (1 : Int32)), .val (.ref t), .val (.int (1 : Int32)), .val (.int (2 : Int32)), .val (.int (1 : Int32)), .val (.int d1)] [(.int d1), (.int (1 : Int32)), (.ref t)])) _
    refine XS.i2b X4.here hx rfl (hb hby d_jdk_52_method_21_code_30) rfl ?_
    show Steps _ _ _ (T4.setTop (mkF m 31 #[.val (.ref b), .val (.int (1 : Int32)), .val (.ref t), .val (.int (1 : Int32)), .val (.int (2 : Int32)), .val (.int (1 : Int32)), .val (.int d1)] [(.int (d1.toInt8.toInt32)), (.int (1 : Int32)), (.ref t)])) _
    exact hq)
  obtain ⟨cl9, Ar9, q9, S9, M9, G9, J9⟩ := id V4
  obtain ⟨T9, h9, X9, e9, W9, st9⟩ := stB X4 hx hZ e4 Ar9 (j := (1 : Int32)) (inb_of S9 ⟨by decide, by decide⟩) (g := (mkF m 31 #[.val (.ref b), .val (.int (1 : Int32)), .val (.ref t), .val (.int (1 : Int32)), .val (.int (2 : Int32)), .val (.int (1 : Int32)), .val (.int d1)] [(.int (d1.toInt8.toInt32)), (.int (1 : Int32)), (.ref t)])) rfl rfl (hb hby d_jdk_52_method_21_code_31)
  have k9 : To p.tables e below S0 (T9.setTop (mkF m 32 #[.val (.ref b), .val (.int (1 : Int32)), .val (.ref t), .val (.int (1 : Int32)), .val (.int (2 : Int32)), .val (.int (1 : Int32)), .val (.int d1)] [])) := fun tt hq => k8 tt (st9 tt hq)
  have z9 : h9.size = h4.size := W9.size
  have V9 : Arv Z h9 t kt .byte (2 : Int32) [(.int (nar .byte (d0.toInt8.toInt32))), (.int (nar .byte (d1.toInt8.toInt32)))] (.int (0 : Int32)) := Arv.set Ar9 q9 S9 M9 G9 J9 (fits_nar_byte _) W9 1 rfl (Nat.le_of_ble_eq_true rfl)
  have N9 := Fr.snoc X9 N4 (by omega : n0 ≤ t)
  have k10 : To p.tables e below S0 (T9.setTop (mkF m 46 #[.val (.ref b), .val (.int (2 : Int32)), .val (.ref t), .val (.int (2 : Int32)), .val (.int (2 : Int32)), .val (.int (2 : Int32)), .val (.int d1)] [(.int (2 : Int32))])) := fun tt hq => k9 tt (by
    show Steps _ _ _ (T9.setTop (mkF m 32 #[.val (.ref b), .val (.int (1 : Int32)), .val (.ref t), .val (.int (1 : Int32)), .val (.int (2 : Int32)), .val (.int (1 : Int32)), .val (.int d1)] [])) _
    refine XS.iinc X9.here hx rfl (hb hby d_jdk_52_method_21_code_32) rfl (l' := #[.val (.ref b), .val (.int (2 : Int32)), .val (.ref t), .val (.int (1 : Int32)), .val (.int (2 : Int32)), .val (.int (1 : Int32)), .val (.int d1)]) rfl ?_
    show Steps _ _ _ (T9.setTop (mkF m 35 #[.val (.ref b), .val (.int (2 : Int32)), .val (.ref t), .val (.int (1 : Int32)), .val (.int (2 : Int32)), .val (.int (1 : Int32)), .val (.int d1)] [])) _
    refine XS.iinc X9.here hx rfl (hb hby d_jdk_52_method_21_code_35) rfl (l' := #[.val (.ref b), .val (.int (2 : Int32)), .val (.ref t), .val (.int (2 : Int32)), .val (.int (2 : Int32)), .val (.int (1 : Int32)), .val (.int d1)]) rfl ?_
    show Steps _ _ _ (T9.setTop (mkF m 38 #[.val (.ref b), .val (.int (2 : Int32)), .val (.ref t), .val (.int (2 : Int32)), .val (.int (2 : Int32)), .val (.int (1 : Int32)), .val (.int d1)] [])) _
    refine XS.iinc X9.here hx rfl (hb hby d_jdk_52_method_21_code_38) rfl (l' := #[.val (.ref b), .val (.int (2 : Int32)), .val (.ref t), .val (.int (2 : Int32)), .val (.int (2 : Int32)), .val (.int (2 : Int32)), .val (.int d1)]) rfl ?_
    show Steps _ _ _ (T9.setTop (mkF m 41 #[.val (.ref b), .val (.int (2 : Int32)), .val (.ref t), .val (.int (2 : Int32)), .val (.int (2 : Int32)), .val (.int (2 : Int32)), .val (.int d1)] [])) _
    refine XS.goto X9.here hx rfl (pc0 := 41) (pc' := 3) rfl (hb hby d_jdk_52_method_21_code_41) (by decide) (by decide) ?_
    show Steps _ _ _ (T9.setTop (mkF m 3 #[.val (.ref b), .val (.int (2 : Int32)), .val (.ref t), .val (.int (2 : Int32)), .val (.int (2 : Int32)), .val (.int (2 : Int32)), .val (.int d1)] [])) _
    refine XS.iload X9.here hx rfl (hb hby d_jdk_52_method_21_code_3) rfl ?_
    show Steps _ _ _ (T9.setTop (mkF m 5 #[.val (.ref b), .val (.int (2 : Int32)), .val (.ref t), .val (.int (2 : Int32)), .val (.int (2 : Int32)), .val (.int (2 : Int32)), .val (.int d1)] [(.int (2 : Int32))])) _
    refine XS.iload X9.here hx rfl (hb hby d_jdk_52_method_21_code_5) rfl ?_
    show Steps _ _ _ (T9.setTop (mkF m 7 #[.val (.ref b), .val (.int (2 : Int32)), .val (.ref t), .val (.int (2 : Int32)), .val (.int (2 : Int32)), .val (.int (2 : Int32)), .val (.int d1)] [(.int (2 : Int32)), (.int (2 : Int32))])) _
    refine XS.icmpYes X9.here hx rfl (pc0 := 7) (pc' := 44) rfl (hb hby d_jdk_52_method_21_code_7) rfl (flt (by decide)).2.1 (by decide) (by decide) ?_
    show Steps _ _ _ (T9.setTop (mkF m 44 #[.val (.ref b), .val (.int (2 : Int32)), .val (.ref t), .val (.int (2 : Int32)), .val (.int (2 : Int32)), .val (.int (2 : Int32)), .val (.int d1)] [])) _
    refine XS.iload X9.here hx rfl (hb hby d_jdk_52_method_21_code_44) rfl ?_
    show Steps _ _ _ (T9.setTop (mkF m 46 #[.val (.ref b), .val (.int (2 : Int32)), .val (.ref t), .val (.int (2 : Int32)), .val (.int (2 : Int32)), .val (.int (2 : Int32)), .val (.int d1)] [(.int (2 : Int32))])) _
    exact hq)
  have hE := e9
  refine retInt X9 hx hret hlk (by simp) rfl (hb hby d_jdk_52_method_21_code_46) k10 ?_ (by decide) (by decide)
  try rw [hE]
  exact ⟨rfl, N9, (((Keep.refl h0 [t]).wr W4 (Or.inl (by simp))).wr W9 (Or.inl (by simp))), V9⟩
set_option maxRecDepth 65536 in
set_option maxHeartbeats 40000000 in
theorem rm_c3_2 (l : Launch) (Z : State) (a0 : Array Value) (hw : ∀ d ∈ tables_1, d.before a0 Z = true) (b : Addr) (kb : ClassId) (d0 : Int32) (d1 : Int32) (h0 : Heap) (n0 : Nat) (hn0 : n0 ≤ h0.size) (P0 : Arv Z h0 b kb .char (2 : Int32) [(.int d0), (.int d1)] (.int (0 : Int32))) (yb : @LT.lt Nat instLTNat b h0.size) (hd0 : ¬ d0 < (0 : Int32) ∧ ¬ (255 : Int32) < d0) (hd1 : ¬ d1 < (0 : Int32) ∧ ¬ (255 : Int32) < d1) :
    Con l Z (⟨"java/lang/StringUTF16", "compress", "([CII)[B"⟩ : MethodName) jdk_52_method_16_code 6 (some (.array .byte)) [] ({ frames := 1, cells := 1, slots := 2, locals := 18 } : Room) #[(.ref b), (.int (0 : Int32)), (.int (2 : Int32))] h0 (fun v h L => ∃ (t : Addr) (k : ClassId), v = some (.ref t) ∧ Fr n0 L ∧ h0.size ≤ t ∧ Keep h0 h [] ∧ Arv Z h t k .byte (2 : Int32) [(.int (nar .byte (d0.toInt8.toInt32))), (.int (nar .byte (d1.toInt8.toInt32)))] (.int (0 : Int32))) := by
  refine enter (Ls := #[.val (.ref b), .val (.int (0 : Int32)), .val (.int (2 : Int32)), .unset, .unset, .unset]) (plainFor_of_name pn_1) (fun m => by exact entry_eq rfl) ?_
  intro p e s m below meth cd_ s₁ S0 hx hby hml hret hlk hnm hown hZ X0 e0 k0
  have N0 := Fr.nil n0
  have k1 : To p.tables e below S0 (s₁.setTop (mkF m 1 #[.val (.ref b), .val (.int (0 : Int32)), .val (.int (2 : Int32)), .unset, .unset, .unset] [(.int (2 : Int32))])) := fun tt hq => k0 tt (by
    show Steps _ _ _ (s₁.setTop (mkF m 0 #[.val (.ref b), .val (.int (0 : Int32)), .val (.int (2 : Int32)), .unset, .unset, .unset] [])) _
    refine XS.iloadN X0.here hx rfl (hb hby d_jdk_52_method_16_code_0) rfl ?_
    show Steps _ _ _ (s₁.setTop (mkF m 1 #[.val (.ref b), .val (.int (0 : Int32)), .val (.int (2 : Int32)), .unset, .unset, .unset] [(.int (2 : Int32))])) _
    exact hq)
  obtain ⟨T2, h2, c2, X2, e2, E2, A2, st2⟩ := newP X0 hx hZ (hw _ (List.mem_of_getElem? (i := 29) rfl)) e0 (g := (mkF m 1 #[.val (.ref b), .val (.int (0 : Int32)), .val (.int (2 : Int32)), .unset, .unset, .unset] [(.int (2 : Int32))])) rfl (hb hby d_jdk_52_method_16_code_1) rfl (by decide) (cap := 2) (by decide) (by decide) (by decide) (by decide)
  obtain ⟨b2, g2⟩ : ∃ z, z = h0.size := ⟨_, rfl⟩
  rw [← g2] at A2 st2
  have k2 : To p.tables e below S0 (T2.setTop (mkF m 3 #[.val (.ref b), .val (.int (0 : Int32)), .val (.int (2 : Int32)), .unset, .unset, .unset] [(.ref b2)])) := fun tt hq => k1 tt (st2 tt hq)
  have z2 : h0.size ≤ h2.size := E2.1
  have V2 : Arv Z h2 b2 c2 .byte (2 : Int32) [(.int (0 : Int32)), (.int (0 : Int32))] (.int (0 : Int32)) := (Arv.new A2 (by decide)).pad (pad_rep [] (.int (0 : Int32)) 2)
  have y2 : @LT.lt Nat instLTNat b2 h2.size := V2.lt
  have k3 : To p.tables e below S0 (T2.setTop (mkF m 9 #[.val (.ref b), .val (.int (0 : Int32)), .val (.int (2 : Int32)), .val (.ref b2), .unset, .unset] [(.int (2 : Int32)), (.int (0 : Int32)), (.ref b2), (.int (0 : Int32)), (.ref b)])) := fun tt hq => k2 tt (by
    show Steps _ _ _ (T2.setTop (mkF m 3 #[.val (.ref b), .val (.int (0 : Int32)), .val (.int (2 : Int32)), .unset, .unset, .unset] [(.ref b2)])) _
    refine XS.astoreN X2.here hx rfl (hb hby d_jdk_52_method_16_code_3) rfl rfl (l' := #[.val (.ref b), .val (.int (0 : Int32)), .val (.int (2 : Int32)), .val (.ref b2), .unset, .unset]) rfl ?_
    show Steps _ _ _ (T2.setTop (mkF m 4 #[.val (.ref b), .val (.int (0 : Int32)), .val (.int (2 : Int32)), .val (.ref b2), .unset, .unset] [])) _
    refine XS.aloadN X2.here hx rfl (hb hby d_jdk_52_method_16_code_4) rfl rfl ?_
    show Steps _ _ _ (T2.setTop (mkF m 5 #[.val (.ref b), .val (.int (0 : Int32)), .val (.int (2 : Int32)), .val (.ref b2), .unset, .unset] [(.ref b)])) _
    refine XS.iloadN X2.here hx rfl (hb hby d_jdk_52_method_16_code_5) rfl ?_
    show Steps _ _ _ (T2.setTop (mkF m 6 #[.val (.ref b), .val (.int (0 : Int32)), .val (.int (2 : Int32)), .val (.ref b2), .unset, .unset] [(.int (0 : Int32)), (.ref b)])) _
    refine XS.aloadN X2.here hx rfl (hb hby d_jdk_52_method_16_code_6) rfl rfl ?_
    show Steps _ _ _ (T2.setTop (mkF m 7 #[.val (.ref b), .val (.int (0 : Int32)), .val (.int (2 : Int32)), .val (.ref b2), .unset, .unset] [(.ref b2), (.int (0 : Int32)), (.ref b)])) _
    refine XS.iconst X2.here hx rfl (hb hby d_jdk_52_method_16_code_7) ?_
    show Steps _ _ _ (T2.setTop (mkF m 8 #[.val (.ref b), .val (.int (0 : Int32)), .val (.int (2 : Int32)), .val (.ref b2), .unset, .unset] [(.int (0 : Int32)), (.ref b2), (.int (0 : Int32)), (.ref b)])) _
    refine XS.iloadN X2.here hx rfl (hb hby d_jdk_52_method_16_code_8) rfl ?_
    show Steps _ _ _ (T2.setTop (mkF m 9 #[.val (.ref b), .val (.int (0 : Int32)), .val (.int (2 : Int32)), .val (.ref b2), .unset, .unset] [(.int (2 : Int32)), (.int (0 : Int32)), (.ref b2), (.int (0 : Int32)), (.ref b)])) _
    exact hq)
  have f4 : Arv Z h2 b kb .char (2 : Int32) [(.int d0), (.int d1)] (.int (0 : Int32)) := (P0.ext E2)
  obtain ⟨_, T5, L5, X5, ⟨rfl, Nq5, Kq5, V5⟩, k5a⟩ := callS' X2 hx hZ (y := (⟨"java/lang/StringUTF16", "compress", "([CI[BII)I"⟩ : MethodName)) hown (hw _ (List.mem_of_getElem? (i := 47) rfl)) (hw _ (List.mem_of_getElem? (i := 48) rfl)) (hw _ (List.mem_of_getElem? (i := 45) rfl)) (hw _ (List.mem_of_getElem? (i := 49) rfl)) (by decide) (backC (W := 0) (rm_c5_2 l Z a0 hw b kb b2 c2 d0 d1 h2 n0 (by omega) f4 V2 (by omega) (by omega) hd0 hd1) hZ (hw _ (List.mem_of_getElem? (i := 49) rfl)) (hw _ (List.mem_of_getElem? (i := 45) rfl)) (by decide) (by decide)) e2 (argsL := [(.ref b), (.int (0 : Int32)), (.ref b2), (.int (0 : Int32)), (.int (2 : Int32))]) (rest := []) rfl rfl pd_3 rfl (by rw [hml]; rfl) (hb hby d_jdk_52_method_16_code_9) (Nat.le_of_eq rfl) (by decide) (by decide) k3
  have k5 : To p.tables e below S0 (T5.setTop (mkF m 12 #[.val (.ref b), .val (.int (0 : Int32)), .val (.int (2 : Int32)), .val (.ref b2), .unset, .unset] [(.int (2 : Int32))])) := k5a
  have N5 := N0.app Nq5
  obtain ⟨h5, e5⟩ : ∃ z, T5.heap = z := ⟨_, rfl⟩
  rw [e5] at Kq5 V5
  have z5 : h2.size ≤ h5.size := Kq5.1
  have k6 : To p.tables e below S0 (T5.setTop (mkF m 58 #[.val (.ref b), .val (.int (0 : Int32)), .val (.int (2 : Int32)), .val (.ref b2), .val (.int (2 : Int32)), .unset] [(.ref b2)])) := fun tt hq => k5 tt (by
    show Steps _ _ _ (T5.setTop (mkF m 12 #[.val (.ref b), .val (.int (0 : Int32)), .val (.int (2 : Int32)), .val (.ref b2), .unset, .unset] [(.int (2 : Int32))])) _
    refine XS.istore X5.here hx rfl (hb hby d_jdk_52_method_16_code_12) rfl (l' := #[.val (.ref b), .val (.int (0 : Int32)), .val (.int (2 : Int32)), .val (.ref b2), .val (.int (2 : Int32)), .unset]) rfl ?_
    show Steps _ _ _ (T5.setTop (mkF m 14 #[.val (.ref b), .val (.int (0 : Int32)), .val (.int (2 : Int32)), .val (.ref b2), .val (.int (2 : Int32)), .unset] [])) _
    refine XS.iload X5.here hx rfl (hb hby d_jdk_52_method_16_code_14) rfl ?_
    show Steps _ _ _ (T5.setTop (mkF m 16 #[.val (.ref b), .val (.int (0 : Int32)), .val (.int (2 : Int32)), .val (.ref b2), .val (.int (2 : Int32)), .unset] [(.int (2 : Int32))])) _
    refine XS.iloadN X5.here hx rfl (hb hby d_jdk_52_method_16_code_16) rfl ?_
    show Steps _ _ _ (T5.setTop (mkF m 17 #[.val (.ref b), .val (.int (0 : Int32)), .val (.int (2 : Int32)), .val (.ref b2), .val (.int (2 : Int32)), .unset] [(.int (2 : Int32)), (.int (2 : Int32))])) _
    refine XS.icmpYes X5.here hx rfl (pc0 := 17) (pc' := 57) rfl (hb hby d_jdk_52_method_16_code_17) rfl (teq (by decide)).1 (by decide) (by decide) ?_
    show Steps _ _ _ (T5.setTop (mkF m 57 #[.val (.ref b), .val (.int (0 : Int32)), .val (.int (2 : Int32)), .val (.ref b2), .val (.int (2 : Int32)), .unset] [])) _
    refine XS.aloadN X5.here hx rfl (hb hby d_jdk_52_method_16_code_57) rfl rfl ?_
    show Steps _ _ _ (T5.setTop (mkF m 58 #[.val (.ref b), .val (.int (0 : Int32)), .val (.int (2 : Int32)), .val (.ref b2), .val (.int (2 : Int32)), .unset] [(.ref b2)])) _
    exact hq)
  have hE := e5
  refine retRef X5 hx hret hlk rfl rfl (hb hby d_jdk_52_method_16_code_58) k6 ?_ (by decide) (by decide)
  try rw [hE]
  exact ⟨b2, _, rfl, N5, (by omega), (((Keep.refl h0 []).ext E2).trans Kq5 (allS (Or.inr (by omega)) all0)), V5⟩
set_option maxRecDepth 65536 in
set_option maxHeartbeats 40000000 in
theorem rm_cl_2 (l : Launch) (Z : State) (a0 : Array Value) (hw : ∀ d ∈ tables_1, d.before a0 Z = true) (t : Addr) (kt : ClassId) (d0 : Int32) (d1 : Int32) (h0 : Heap) (n0 : Nat) (hn0 : n0 ≤ h0.size) (P0 : Arv Z h0 t kt .byte (2 : Int32) [(.int d0), (.int d1)] (.int (0 : Int32))) :
    Con l Z (⟨"java/lang/StringUTF16", "coderFromArrayLen", "([BI)B"⟩ : MethodName) jdk_52_method_15_code 2 (some .byte) [] ({ frames := 0, cells := 0, slots := 0, locals := 0 } : Room) #[(.ref t), (.int (2 : Int32))] h0 (fun v h L => v = some (.int (0 : Int32)) ∧ Fr n0 L ∧ h = h0) := by
  refine enter (Ls := #[.val (.ref t), .val (.int (2 : Int32))]) (plainFor_of_name pn_1) (fun m => by exact entry_eq rfl) ?_
  intro p e s m below meth cd_ s₁ S0 hx hby hml hret hlk hnm hown hZ X0 e0 k0
  have N0 := Fr.nil n0
  have k1 : To p.tables e below S0 (s₁.setTop (mkF m 2 #[.val (.ref t), .val (.int (2 : Int32))] [(.ref t), (.int (2 : Int32))])) := fun tt hq => k0 tt (by
    show Steps _ _ _ (s₁.setTop (mkF m 0 #[.val (.ref t), .val (.int (2 : Int32))] [])) _
    refine XS.iloadN X0.here hx rfl (hb hby d_jdk_52_method_15_code_0) rfl ?_
    show Steps _ _ _ (s₁.setTop (mkF m 1 #[.val (.ref t), .val (.int (2 : Int32))] [(.int (2 : Int32))])) _
    refine XS.aloadN X0.here hx rfl (hb hby d_jdk_52_method_15_code_1) rfl rfl ?_
    show Steps _ _ _ (s₁.setTop (mkF m 2 #[.val (.ref t), .val (.int (2 : Int32))] [(.ref t), (.int (2 : Int32))])) _
    exact hq)
  obtain ⟨cl2, Ar2, -, S2, M2, -, -⟩ := id P0
  have st2 := fun tt => X0.arraylength hx (by rw [e0]; exact Ar2.1) (State.isArrayOf_alike hZ.alike Ar2.2.1) (g := (mkF m 2 #[.val (.ref t), .val (.int (2 : Int32))] [(.ref t), (.int (2 : Int32))])) rfl rfl (hb hby d_jdk_52_method_15_code_2) tt
  rw [len_of S2 M2] at st2
  have k2 : To p.tables e below S0 (s₁.setTop (mkF m 3 #[.val (.ref t), .val (.int (2 : Int32))] [(.int (2 : Int32)), (.int (2 : Int32))])) := fun tt hq => k1 tt (st2 tt hq)
  have k3 : To p.tables e below S0 (s₁.setTop (mkF m 8 #[.val (.ref t), .val (.int (2 : Int32))] [(.int (0 : Int32))])) := fun tt hq => k2 tt (by
    show Steps _ _ _ (s₁.setTop (mkF m 3 #[.val (.ref t), .val (.int (2 : Int32))] [(.int (2 : Int32)), (.int (2 : Int32))])) _
    refine XS.isub X0.here hx rfl (hb hby d_jdk_52_method_15_code_3) rfl ?_
    show Steps _ _ _ (s₁.setTop (mkF m 4 #[.val (.ref t), .val (.int (2 : Int32))] [(.int (0 : Int32))])) _
    refine XS.bipush X0.here hx rfl (hb hby d_jdk_52_method_15_code_4) ?_
    show Steps _ _ _ (s₁.setTop (mkF m 6 #[.val (.ref t), .val (.int (2 : Int32))] [(.int (31 : Int32)), (.int (0 : Int32))])) _
    refine XS.iushr X0.here hx rfl (hb hby d_jdk_52_method_15_code_6) rfl ?_
    show Steps _ _ _ (s₁.setTop (mkF m 7 #[.val (.ref t), .val (.int (2 : Int32))] [(.int (0 : Int32))])) _
    refine XS.i2b X0.here hx rfl (hb hby d_jdk_52_method_15_code_7) rfl ?_
    show Steps _ _ _ (s₁.setTop (mkF m 8 #[.val (.ref t), .val (.int (2 : Int32))] [(.int (0 : Int32))])) _
    exact hq)
  have hE := e0
  refine retInt X0 hx hret hlk (by simp) rfl (hb hby d_jdk_52_method_15_code_8) k3 ?_ (by decide) (by decide)
  try rw [hE]
  exact ⟨rfl, N0, rfl⟩
set_option maxRecDepth 65536 in
set_option maxHeartbeats 40000000 in
theorem rm_n4_2 (l : Launch) (Z : State) (a0 : Array Value) (hw : ∀ d ∈ tables_1, d.before a0 Z = true) (zc : Int32) (a : Addr) (b : Addr) (kb : ClassId) (u1 : Value) (u2 : Value) (d0 : Int32) (d1 : Int32) (h0 : Heap) (n0 : Nat) (hn0 : n0 ≤ h0.size) (S_c : Sta Z Z.heap "java/lang/String" "COMPACT_STRINGS" "Z" (.int zc)) (hzc : ¬ zc = (0 : Int32)) (O0 : Old Z n0 h0) (E0 : Exa Z h0 a "java/lang/String") (F1 : Fld Z h0 a "java/lang/String" "value" "[B" u1) (F2 : Fld Z h0 a "java/lang/String" "coder" "B" u2) (P0 : Arv Z h0 b kb .char (2 : Int32) [(.int d0), (.int d1)] (.int (0 : Int32))) (ga : n0 ≤ a) (ya : @LT.lt Nat instLTNat a h0.size) (yb : @LT.lt Nat instLTNat b h0.size) (nab : ¬ (@Eq Nat b a)) (hd0 : ¬ d0 < (0 : Int32) ∧ ¬ (255 : Int32) < d0) (hd1 : ¬ d1 < (0 : Int32) ∧ ¬ (255 : Int32) < d1) :
    Con l Z (⟨"java/lang/String", "<init>", "([CIILjava/lang/Void;)V"⟩ : MethodName) jdk_42_method_149_code 6 none [] ({ frames := 2, cells := 1, slots := 2, locals := 35 } : Room) #[(.ref a), (.ref b), (.int (0 : Int32)), (.int (2 : Int32)), .null] h0 (fun v h L => v = none ∧ Fr n0 L ∧ Keep h0 h [a] ∧ ∃ (t : Addr) (k : ClassId), h0.size ≤ t ∧ Exa Z h a "java/lang/String" ∧ Fld Z h a "java/lang/String" "value" "[B" (.ref t) ∧ Fld Z h a "java/lang/String" "coder" "B" (.int (0 : Int32)) ∧ Arv Z h t k .byte (2 : Int32) [(.int (nar .byte (d0.toInt8.toInt32))), (.int (nar .byte (d1.toInt8.toInt32)))] (.int (0 : Int32))) := by
  refine enter (Ls := #[.val (.ref a), .val (.ref b), .val (.int (0 : Int32)), .val (.int (2 : Int32)), .val .null, .unset]) (plainFor_of_name pn_2) (fun m => by exact entry_eq rfl) ?_
  intro p e s m below meth cd_ s₁ S0 hx hby hml hret hlk hnm hown hZ X0 e0 k0
  have N0 := Fr.nil n0
  have k1 : To p.tables e below S0 (s₁.setTop (mkF m 1 #[.val (.ref a), .val (.ref b), .val (.int (0 : Int32)), .val (.int (2 : Int32)), .val .null, .unset] [(.ref a)])) := fun tt hq => k0 tt (by
    show Steps _ _ _ (s₁.setTop (mkF m 0 #[.val (.ref a), .val (.ref b), .val (.int (0 : Int32)), .val (.int (2 : Int32)), .val .null, .unset] [])) _
    refine XS.aloadN X0.here hx rfl (hb hby d_jdk_42_method_149_code_0) rfl rfl ?_
    show Steps _ _ _ (s₁.setTop (mkF m 1 #[.val (.ref a), .val (.ref b), .val (.int (0 : Int32)), .val (.int (2 : Int32)), .val .null, .unset] [(.ref a)])) _
    exact hq)
  obtain ⟨T2, X2, e2, st2⟩ := initO X0 hx hZ hown (hw _ (List.mem_of_getElem? (i := 25) rfl)) (hw _ (List.mem_of_getElem? (i := 26) rfl)) (hw _ (List.mem_of_getElem? (i := 27) rfl)) e0 (g := (mkF m 1 #[.val (.ref a), .val (.ref b), .val (.int (0 : Int32)), .val (.int (2 : Int32)), .val .null, .unset] [(.ref a)])) rfl (by rw [hml]; rfl) rfl (hb hby d_jdk_42_method_149_code_1) (by decide) (W := 0) (by show 2 * 0 + _ ≤ _; exact Nat.le_of_eq rfl) (by decide)
  have k2 : To p.tables e below S0 (T2.setTop (mkF m 4 #[.val (.ref a), .val (.ref b), .val (.int (0 : Int32)), .val (.int (2 : Int32)), .val .null, .unset] [])) := fun tt hq => k1 tt (st2 tt hq)
  have k3 : To p.tables e below S0 (T2.setTop (mkF m 27 #[.val (.ref a), .val (.ref b), .val (.int (0 : Int32)), .val (.int (2 : Int32)), .val .null, .unset] [])) := fun tt hq => k2 tt (by
    show Steps _ _ _ (T2.setTop (mkF m 4 #[.val (.ref a), .val (.ref b), .val (.int (0 : Int32)), .val (.int (2 : Int32)), .val .null, .unset] [])) _
    refine XS.iloadN X2.here hx rfl (hb hby d_jdk_42_method_149_code_4) rfl ?_
    show Steps _ _ _ (T2.setTop (mkF m 5 #[.val (.ref a), .val (.ref b), .val (.int (0 : Int32)), .val (.int (2 : Int32)), .val .null, .unset] [(.int (2 : Int32))])) _
    refine XS.ifYes X2.here hx rfl (pc0 := 5) (pc' := 27) rfl (hb hby d_jdk_42_method_149_code_5) rfl ((if0 _ _).trans (feq (by decide)).2) (by decide) (by decide) ?_
    show Steps _ _ _ (T2.setTop (mkF m 27 #[.val (.ref a), .val (.ref b), .val (.int (0 : Int32)), .val (.int (2 : Int32)), .val .null, .unset] [])) _
    exact hq)
  obtain ⟨T4, X4, e4, st4⟩ := getS2 X2 hx hZ hown (host := "") (Or.inl (hw _ (List.mem_of_getElem? (i := 42) rfl))) Via.refl e2 (staOld S_c O0) (g := (mkF m 27 #[.val (.ref a), .val (.ref b), .val (.int (0 : Int32)), .val (.int (2 : Int32)), .val .null, .unset] [])) rfl (hb hby d_jdk_42_method_149_code_27)
  have k4 : To p.tables e below S0 (T4.setTop (mkF m 30 #[.val (.ref a), .val (.ref b), .val (.int (0 : Int32)), .val (.int (2 : Int32)), .val .null, .unset] [(.int zc)])) := fun tt hq => k3 tt (st4 tt hq)
  have k5 : To p.tables e below S0 (T4.setTop (mkF m 36 #[.val (.ref a), .val (.ref b), .val (.int (0 : Int32)), .val (.int (2 : Int32)), .val .null, .unset] [(.int (2 : Int32)), (.int (0 : Int32)), (.ref b)])) := fun tt hq => k4 tt (by
    show Steps _ _ _ (T4.setTop (mkF m 30 #[.val (.ref a), .val (.ref b), .val (.int (0 : Int32)), .val (.int (2 : Int32)), .val .null, .unset] [(.int zc)])) _
    refine XS.ifNo X4.here hx rfl (hb hby d_jdk_42_method_149_code_30) rfl ((if0 _ _).trans (feq hzc).1) ?_
    show Steps _ _ _ (T4.setTop (mkF m 33 #[.val (.ref a), .val (.ref b), .val (.int (0 : Int32)), .val (.int (2 : Int32)), .val .null, .unset] [])) _
    refine XS.aloadN X4.here hx rfl (hb hby d_jdk_42_method_149_code_33) rfl rfl ?_
    show Steps _ _ _ (T4.setTop (mkF m 34 #[.val (.ref a), .val (.ref b), .val (.int (0 : Int32)), .val (.int (2 : Int32)), .val .null, .unset] [(.ref b)])) _
    refine XS.iloadN X4.here hx rfl (hb hby d_jdk_42_method_149_code_34) rfl ?_
    show Steps _ _ _ (T4.setTop (mkF m 35 #[.val (.ref a), .val (.ref b), .val (.int (0 : Int32)), .val (.int (2 : Int32)), .val .null, .unset] [(.int (0 : Int32)), (.ref b)])) _
    refine XS.iloadN X4.here hx rfl (hb hby d_jdk_42_method_149_code_35) rfl ?_
    show Steps _ _ _ (T4.setTop (mkF m 36 #[.val (.ref a), .val (.ref b), .val (.int (0 : Int32)), .val (.int (2 : Int32)), .val .null, .unset] [(.int (2 : Int32)), (.int (0 : Int32)), (.ref b)])) _
    exact hq)
  obtain ⟨_, T6, L6, X6, ⟨t6, kt6, rfl, Nq6, gt6, Kq6, V6⟩, k6a⟩ := callS' X4 hx hZ (y := (⟨"java/lang/StringUTF16", "compress", "([CII)[B"⟩ : MethodName)) hown (hw _ (List.mem_of_getElem? (i := 43) rfl)) (hw _ (List.mem_of_getElem? (i := 44) rfl)) (hw _ (List.mem_of_getElem? (i := 45) rfl)) (hw _ (List.mem_of_getElem? (i := 46) rfl)) (by decide) (backC (W := 0) (rm_c3_2 l Z a0 hw b kb d0 d1 h0 n0 (by omega) P0 (by omega) hd0 hd1) hZ (hw _ (List.mem_of_getElem? (i := 46) rfl)) (hw _ (List.mem_of_getElem? (i := 45) rfl)) (by decide) (by decide)) e4 (argsL := [(.ref b), (.int (0 : Int32)), (.int (2 : Int32))]) (rest := []) rfl rfl pd_4 rfl (by rw [hml]; rfl) (hb hby d_jdk_42_method_149_code_36) (Nat.le_of_eq rfl) (by decide) (by decide) k5
  have k6 : To p.tables e below S0 (T6.setTop (mkF m 39 #[.val (.ref a), .val (.ref b), .val (.int (0 : Int32)), .val (.int (2 : Int32)), .val .null, .unset] [(.ref t6)])) := k6a
  have N6 := N0.app Nq6
  obtain ⟨h6, e6⟩ : ∃ z, T6.heap = z := ⟨_, rfl⟩
  rw [e6] at Kq6 V6
  have z6 : h0.size ≤ h6.size := Kq6.1
  have y6 : @LT.lt Nat instLTNat t6 h6.size := V6.lt
  have k7 : To p.tables e below S0 (T6.setTop (mkF m 45 #[.val (.ref a), .val (.ref b), .val (.int (0 : Int32)), .val (.int (2 : Int32)), .val .null, .val (.ref t6)] [(.int (2 : Int32)), (.ref t6), (.ref a)])) := fun tt hq => k6 tt (by
    show Steps _ _ _ (T6.setTop (mkF m 39 #[.val (.ref a), .val (.ref b), .val (.int (0 : Int32)), .val (.int (2 : Int32)), .val .null, .unset] [(.ref t6)])) _
    refine XS.astore X6.here hx rfl (hb hby d_jdk_42_method_149_code_39) rfl rfl (l' := #[.val (.ref a), .val (.ref b), .val (.int (0 : Int32)), .val (.int (2 : Int32)), .val .null, .val (.ref t6)]) rfl ?_
    show Steps _ _ _ (T6.setTop (mkF m 41 #[.val (.ref a), .val (.ref b), .val (.int (0 : Int32)), .val (.int (2 : Int32)), .val .null, .val (.ref t6)] [])) _
    refine XS.aloadN X6.here hx rfl (hb hby d_jdk_42_method_149_code_41) rfl rfl ?_
    show Steps _ _ _ (T6.setTop (mkF m 42 #[.val (.ref a), .val (.ref b), .val (.int (0 : Int32)), .val (.int (2 : Int32)), .val .null, .val (.ref t6)] [(.ref a)])) _
    refine XS.aload X6.here hx rfl (hb hby d_jdk_42_method_149_code_42) rfl rfl ?_
    show Steps _ _ _ (T6.setTop (mkF m 44 #[.val (.ref a), .val (.ref b), .val (.int (0 : Int32)), .val (.int (2 : Int32)), .val .null, .val (.ref t6)] [(.ref t6), (.ref a)])) _
    refine XS.iloadN X6.here hx rfl (hb hby d_jdk_42_method_149_code_44) rfl ?_
    show Steps _ _ _ (T6.setTop (mkF m 45 #[.val (.ref a), .val (.ref b), .val (.int (0 : Int32)), .val (.int (2 : Int32)), .val .null, .val (.ref t6)] [(.int (2 : Int32)), (.ref t6), (.ref a)])) _
    exact hq)
  obtain ⟨_, T8, L8, X8, ⟨rfl, Nq8, eq8⟩, k8a⟩ := callS' X6 hx hZ (y := (⟨"java/lang/StringUTF16", "coderFromArrayLen", "([BI)B"⟩ : MethodName)) hown (hw _ (List.mem_of_getElem? (i := 50) rfl)) (hw _ (List.mem_of_getElem? (i := 51) rfl)) (hw _ (List.mem_of_getElem? (i := 45) rfl)) (hw _ (List.mem_of_getElem? (i := 52) rfl)) (by decide) (backC (W := 1) (rm_cl_2 l Z a0 hw t6 kt6 (nar .byte (d0.toInt8.toInt32)) (nar .byte (d1.toInt8.toInt32)) h6 n0 (by omega) V6) hZ (hw _ (List.mem_of_getElem? (i := 52) rfl)) (hw _ (List.mem_of_getElem? (i := 45) rfl)) (by decide) (by decide)) e6 (argsL := [(.ref t6), (.int (2 : Int32))]) (rest := [(.ref a)]) rfl rfl pd_5 rfl (by rw [hml]; rfl) (hb hby d_jdk_42_method_149_code_45) (Nat.le_of_eq rfl) (by decide) (by decide) k7
  have k8 : To p.tables e below S0 (T8.setTop (mkF m 48 #[.val (.ref a), .val (.ref b), .val (.int (0 : Int32)), .val (.int (2 : Int32)), .val .null, .val (.ref t6)] [(.int (0 : Int32)), (.ref a)])) := k8a
  have N8 := N6.app Nq8
  have e8 : T8.heap = h6 := eq8
  have f9 : Exa Z h6 a "java/lang/String" := (E0.keep Kq6)
  have f10 : Fld Z h6 a "java/lang/String" "coder" "B" u2 := (F2.keep Kq6 nin0)
  obtain ⟨T11, h11, X11, e11, W11, st11⟩ := putF X8 hx hZ hown (host := "") (Or.inl (hw _ (List.mem_of_getElem? (i := 35) rfl))) Via.refl e8 f10 f9 (Or.inr ⟨(hw _ (List.mem_of_getElem? (i := 31) rfl)), rfl, hnm⟩) (hw _ (List.mem_of_getElem? (i := 15) rfl)) (ty := .byte) (by decide) rfl rfl (g := (mkF m 48 #[.val (.ref a), .val (.ref b), .val (.int (0 : Int32)), .val (.int (2 : Int32)), .val .null, .val (.ref t6)] [(.int (0 : Int32)), (.ref a)])) rfl rfl (hb hby d_jdk_42_method_149_code_48)
  have k11 : To p.tables e below S0 (T11.setTop (mkF m 51 #[.val (.ref a), .val (.ref b), .val (.int (0 : Int32)), .val (.int (2 : Int32)), .val .null, .val (.ref t6)] [])) := fun tt hq => k8 tt (st11 tt hq)
  have z11 : h11.size = h6.size := W11.size
  have F11 := f10.same W11
  have N11 := Fr.snoc X11 N8 (by omega : n0 ≤ a)
  have f12 : Exa Z h11 a "java/lang/String" := (f9.wr W11)
  have f13 : Fld Z h11 a "java/lang/String" "value" "[B" u1 := ((F1.keep Kq6 nin0).other W11 (Or.inr (slot_ne (Or.inr (hw _ (List.mem_of_getElem? (i := 30) rfl))) (Or.inr (hw _ (List.mem_of_getElem? (i := 31) rfl))) (by decide) (t := (.array .byte)) (t' := .byte) (by decide) (by decide))))
  have k14 : To p.tables e below S0 (T11.setTop (mkF m 54 #[.val (.ref a), .val (.ref b), .val (.int (0 : Int32)), .val (.int (2 : Int32)), .val .null, .val (.ref t6)] [(.ref t6), (.ref a)])) := fun tt hq => k11 tt (by
    show Steps _ _ _ (T11.setTop (mkF m 51 #[.val (.ref a), .val (.ref b), .val (.int (0 : Int32)), .val (.int (2 : Int32)), .val .null, .val (.ref t6)] [])) _
    refine XS.aloadN X11.here hx rfl (hb hby d_jdk_42_method_149_code_51) rfl rfl ?_
    show Steps _ _ _ (T11.setTop (mkF m 52 #[.val (.ref a), .val (.ref b), .val (.int (0 : Int32)), .val (.int (2 : Int32)), .val .null, .val (.ref t6)] [(.ref a)])) _
    refine XS.aload X11.here hx rfl (hb hby d_jdk_42_method_149_code_52) rfl rfl ?_
    show Steps _ _ _ (T11.setTop (mkF m 54 #[.val (.ref a), .val (.ref b), .val (.int (0 : Int32)), .val (.int (2 : Int32)), .val .null, .val (.ref t6)] [(.ref t6), (.ref a)])) _
    exact hq)
  obtain ⟨T15, h15, X15, e15, W15, st15⟩ := putF X11 hx hZ hown (host := "") (Or.inl (hw _ (List.mem_of_getElem? (i := 34) rfl))) Via.refl e11 f13 f12 (Or.inr ⟨(hw _ (List.mem_of_getElem? (i := 30) rfl)), rfl, hnm⟩) (hw _ (List.mem_of_getElem? (i := 15) rfl)) (ty := (.array .byte)) (by decide) rfl rfl (g := (mkF m 54 #[.val (.ref a), .val (.ref b), .val (.int (0 : Int32)), .val (.int (2 : Int32)), .val .null, .val (.ref t6)] [(.ref t6), (.ref a)])) rfl rfl (hb hby d_jdk_42_method_149_code_54)
  have k15 : To p.tables e below S0 (T15.setTop (mkF m 57 #[.val (.ref a), .val (.ref b), .val (.int (0 : Int32)), .val (.int (2 : Int32)), .val .null, .val (.ref t6)] [])) := fun tt hq => k14 tt (st15 tt hq)
  have z15 : h15.size = h11.size := W15.size
  have F15 := f13.same W15
  have N15 := Fr.snoc X15 N11 (by omega : n0 ≤ a)
  have f16 : Exa Z h15 a "java/lang/String" := (f12.wr W15)
  have f17 : Fld Z h15 a "java/lang/String" "coder" "B" (.int (0 : Int32)) := (F11.other W15 (Or.inr (slot_ne (Or.inr (hw _ (List.mem_of_getElem? (i := 31) rfl))) (Or.inr (hw _ (List.mem_of_getElem? (i := 30) rfl))) (by decide) (t := .byte) (t' := (.array .byte)) (by decide) (by decide))))
  have f18 : Arv Z h15 t6 kt6 .byte (2 : Int32) [(.int (nar .byte (d0.toInt8.toInt32))), (.int (nar .byte (d1.toInt8.toInt32)))] (.int (0 : Int32)) := ((V6.other W11 (adr_ne (by omega))).other W15 (adr_ne (by omega)))
  have hE := e15
  refine retVoid X15 hx hret hlk (hb hby d_jdk_42_method_149_code_57) k15 ?_ (by decide) (by decide)
  try rw [hE]
  exact ⟨rfl, N15, ((((Keep.refl h0 [a]).trans Kq6 all0).wr W11 (Or.inl (by simp))).wr W15 (Or.inl (by simp))), t6, kt6, (by omega), f16, F15, f17, f18⟩
set_option maxRecDepth 65536 in
set_option maxHeartbeats 40000000 in
theorem rm_n1_2 (l : Launch) (Z : State) (a0 : Array Value) (hw : ∀ d ∈ tables_1, d.before a0 Z = true) (zc : Int32) (a : Addr) (b : Addr) (kb : ClassId) (u1 : Value) (u2 : Value) (d0 : Int32) (d1 : Int32) (h0 : Heap) (n0 : Nat) (hn0 : n0 ≤ h0.size) (S_c : Sta Z Z.heap "java/lang/String" "COMPACT_STRINGS" "Z" (.int zc)) (hzc : ¬ zc = (0 : Int32)) (O0 : Old Z n0 h0) (E0 : Exa Z h0 a "java/lang/String") (F1 : Fld Z h0 a "java/lang/String" "value" "[B" u1) (F2 : Fld Z h0 a "java/lang/String" "coder" "B" u2) (P0 : Arv Z h0 b kb .char (2 : Int32) [(.int d0), (.int d1)] (.int (0 : Int32))) (ga : n0 ≤ a) (ya : @LT.lt Nat instLTNat a h0.size) (yb : @LT.lt Nat instLTNat b h0.size) (nab : ¬ (@Eq Nat b a)) (hd0 : ¬ d0 < (0 : Int32) ∧ ¬ (255 : Int32) < d0) (hd1 : ¬ d1 < (0 : Int32) ∧ ¬ (255 : Int32) < d1) :
    Con l Z (⟨"java/lang/String", "<init>", "([C)V"⟩ : MethodName) jdk_42_method_3_code 2 none [] ({ frames := 3, cells := 1, slots := 2, locals := 52 } : Room) #[(.ref a), (.ref b)] h0 (fun v h L => v = none ∧ Fr n0 L ∧ Keep h0 h [a] ∧ ∃ (t : Addr) (k : ClassId), h0.size ≤ t ∧ Exa Z h a "java/lang/String" ∧ Fld Z h a "java/lang/String" "value" "[B" (.ref t) ∧ Fld Z h a "java/lang/String" "coder" "B" (.int (0 : Int32)) ∧ Arv Z h t k .byte (2 : Int32) [(.int (nar .byte (d0.toInt8.toInt32))), (.int (nar .byte (d1.toInt8.toInt32)))] (.int (0 : Int32))) := by
  refine enter (Ls := #[.val (.ref a), .val (.ref b)]) (plainFor_of_name pn_2) (fun m => by exact entry_eq rfl) ?_
  intro p e s m below meth cd_ s₁ S0 hx hby hml hret hlk hnm hown hZ X0 e0 k0
  have N0 := Fr.nil n0
  have k1 : To p.tables e below S0 (s₁.setTop (mkF m 4 #[.val (.ref a), .val (.ref b)] [(.ref b), (.int (0 : Int32)), (.ref b), (.ref a)])) := fun tt hq => k0 tt (by
    show Steps _ _ _ (s₁.setTop (mkF m 0 #[.val (.ref a), .val (.ref b)] [])) _
    refine XS.aloadN X0.here hx rfl (hb hby d_jdk_42_method_3_code_0) rfl rfl ?_
    show Steps _ _ _ (s₁.setTop (mkF m 1 #[.val (.ref a), .val (.ref b)] [(.ref a)])) _
    refine XS.aloadN X0.here hx rfl (hb hby d_jdk_42_method_3_code_1) rfl rfl ?_
    show Steps _ _ _ (s₁.setTop (mkF m 2 #[.val (.ref a), .val (.ref b)] [(.ref b), (.ref a)])) _
    refine XS.iconst X0.here hx rfl (hb hby d_jdk_42_method_3_code_2) ?_
    show Steps _ _ _ (s₁.setTop (mkF m 3 #[.val (.ref a), .val (.ref b)] [(.int (0 : Int32)), (.ref b), (.ref a)])) _
    refine XS.aloadN X0.here hx rfl (hb hby d_jdk_42_method_3_code_3) rfl rfl ?_
    show Steps _ _ _ (s₁.setTop (mkF m 4 #[.val (.ref a), .val (.ref b)] [(.ref b), (.int (0 : Int32)), (.ref b), (.ref a)])) _
    exact hq)
  obtain ⟨cl2, Ar2, -, S2, M2, -, -⟩ := id P0
  have st2 := fun tt => X0.arraylength hx (by rw [e0]; exact Ar2.1) (State.isArrayOf_alike hZ.alike Ar2.2.1) (g := (mkF m 4 #[.val (.ref a), .val (.ref b)] [(.ref b), (.int (0 : Int32)), (.ref b), (.ref a)])) rfl rfl (hb hby d_jdk_42_method_3_code_4) tt
  rw [len_of S2 M2] at st2
  have k2 : To p.tables e below S0 (s₁.setTop (mkF m 5 #[.val (.ref a), .val (.ref b)] [(.int (2 : Int32)), (.int (0 : Int32)), (.ref b), (.ref a)])) := fun tt hq => k1 tt (st2 tt hq)
  have k3 : To p.tables e below S0 (s₁.setTop (mkF m 6 #[.val (.ref a), .val (.ref b)] [.null, (.int (2 : Int32)), (.int (0 : Int32)), (.ref b), (.ref a)])) := fun tt hq => k2 tt (by
    show Steps _ _ _ (s₁.setTop (mkF m 5 #[.val (.ref a), .val (.ref b)] [(.int (2 : Int32)), (.int (0 : Int32)), (.ref b), (.ref a)])) _
    refine XS.aconstNull X0.here hx rfl (hb hby d_jdk_42_method_3_code_5) ?_
    show Steps _ _ _ (s₁.setTop (mkF m 6 #[.val (.ref a), .val (.ref b)] [.null, (.int (2 : Int32)), (.int (0 : Int32)), (.ref b), (.ref a)])) _
    exact hq)
  obtain ⟨_, T4, L4, X4, ⟨rfl, Nq4, Kq4, t4, kt4, gt4, P40, P41, P42, P43⟩, k4a⟩ := callC' X0 hx hZ (y := (⟨"java/lang/String", "<init>", "([CIILjava/lang/Void;)V"⟩ : MethodName)) rfl hown (hw _ (List.mem_of_getElem? (i := 21) rfl)) (hw _ (List.mem_of_getElem? (i := 22) rfl)) (hw _ (List.mem_of_getElem? (i := 24) rfl)) (by decide) (backC (W := 0) (rm_n4_2 l Z a0 hw zc a b kb u1 u2 d0 d1 h0 n0 (by omega) S_c hzc O0 E0 F1 F2 P0 (by omega) (by omega) (by omega) (by omega) hd0 hd1) hZ (hw _ (List.mem_of_getElem? (i := 24) rfl)) (hw _ (List.mem_of_getElem? (i := 16) rfl)) (by decide) (by decide)) e0 (argsL := [(.ref b), (.int (0 : Int32)), (.int (2 : Int32)), .null]) (rest := []) rfl rfl pd_6 rfl (by rw [hml]; rfl) (hb hby d_jdk_42_method_3_code_6) (Nat.le_of_eq rfl) (by decide) (by decide) k3
  have k4 : To p.tables e below S0 (T4.setTop (mkF m 9 #[.val (.ref a), .val (.ref b)] [])) := k4a
  have N4 := N0.app Nq4
  obtain ⟨h4, e4⟩ : ∃ z, T4.heap = z := ⟨_, rfl⟩
  rw [e4] at Kq4 P40 P41 P42 P43
  have z4 : h0.size ≤ h4.size := Kq4.1
  have y4 : @LT.lt Nat instLTNat t4 h4.size := P43.lt
  have hE := e4
  refine retVoid X4 hx hret hlk (hb hby d_jdk_42_method_3_code_9) k4 ?_ (by decide) (by decide)
  try rw [hE]
  exact ⟨rfl, N4, ((Keep.refl h0 [a]).trans Kq4 (allS (Or.inl (by simp)) all0)), t4, kt4, (by omega), P40, P41, P42, P43⟩
set_option maxRecDepth 65536 in
set_option maxHeartbeats 40000000 in
theorem rm_n4_0 (l : Launch) (Z : State) (a0 : Array Value) (hw : ∀ d ∈ tables_1, d.before a0 Z = true) (a : Addr) (b : Addr) (kb : ClassId) (u1 : Value) (u2 : Value) (h0 : Heap) (n0 : Nat) (hn0 : n0 ≤ h0.size) (E0 : Exa Z h0 a "java/lang/String") (F1 : Fld Z h0 a "java/lang/String" "value" "[B" u1) (F2 : Fld Z h0 a "java/lang/String" "coder" "B" u2) (P0 : Arv Z h0 b kb .char (0 : Int32) [] (.int (0 : Int32))) (ga : n0 ≤ a) (ya : @LT.lt Nat instLTNat a h0.size) :
    ConW l Z own_EL (⟨"java/lang/String", "<init>", "([CIILjava/lang/Void;)V"⟩ : MethodName) jdk_42_method_149_code 6 none [] ({ frames := 1, cells := 4, slots := 8, locals := 12 } : Room) #[(.ref a), (.ref b), (.int (0 : Int32)), (.int (0 : Int32)), .null] h0 [a] (fun v h L => v = none ∧ Fr n0 L ∧ Keep h0 h [a] ∧ ∃ (t : Addr) (k : ClassId), (@LT.lt Nat instLTNat t h.size) ∧ Exa Z h a "java/lang/String" ∧ Fld Z h a "java/lang/String" "value" "[B" (.ref t) ∧ Fld Z h a "java/lang/String" "coder" "B" (.int (0 : Int32)) ∧ Arv Z h t k .byte (0 : Int32) [] (.int 0)) := by
  refine enterW (Ls := #[.val (.ref a), .val (.ref b), .val (.int (0 : Int32)), .val (.int (0 : Int32)), .val .null, .unset]) (plainFor_of_name pn_2) (fun m => by exact entry_eq rfl) ?_
  intro p e s m below meth cd_ s₁ S0 vm0 hx hby hml hret hlk hnm hown hZ X0 e0 k0 C0 hsf hS0
  have N0 := Fr.nil n0
  have Sf_a : Safe Z own_EL vm0 h0 a := hsf _ (List.mem_of_getElem? (i := 0) rfl)
  have k1 : To p.tables e below S0 (s₁.setTop (mkF m 1 #[.val (.ref a), .val (.ref b), .val (.int (0 : Int32)), .val (.int (0 : Int32)), .val .null, .unset] [(.ref a)])) := fun tt hq => k0 tt (by
    show Steps _ _ _ (s₁.setTop (mkF m 0 #[.val (.ref a), .val (.ref b), .val (.int (0 : Int32)), .val (.int (0 : Int32)), .val .null, .unset] [])) _
    refine XS.aloadN X0.here hx rfl (hb hby d_jdk_42_method_149_code_0) rfl rfl ?_
    show Steps _ _ _ (s₁.setTop (mkF m 1 #[.val (.ref a), .val (.ref b), .val (.int (0 : Int32)), .val (.int (0 : Int32)), .val .null, .unset] [(.ref a)])) _
    exact hq)
  obtain ⟨T2, X2, e2, st2⟩ := initO X0 hx hZ hown (hw _ (List.mem_of_getElem? (i := 25) rfl)) (hw _ (List.mem_of_getElem? (i := 26) rfl)) (hw _ (List.mem_of_getElem? (i := 27) rfl)) e0 (g := (mkF m 1 #[.val (.ref a), .val (.ref b), .val (.int (0 : Int32)), .val (.int (0 : Int32)), .val .null, .unset] [(.ref a)])) rfl (by rw [hml]; rfl) rfl (hb hby d_jdk_42_method_149_code_1) (by decide) (W := 0) (by show 2 * 0 + _ ≤ _; exact Nat.le_of_eq rfl) (by decide)
  have k2 : To p.tables e below S0 (T2.setTop (mkF m 4 #[.val (.ref a), .val (.ref b), .val (.int (0 : Int32)), .val (.int (0 : Int32)), .val .null, .unset] [])) := fun tt hq => k1 tt (st2 tt hq)
  have k3 : To p.tables e below S0 (T2.setTop (mkF m 9 #[.val (.ref a), .val (.ref b), .val (.int (0 : Int32)), .val (.int (0 : Int32)), .val .null, .unset] [(.ref a)])) := fun tt hq => k2 tt (by
    show Steps _ _ _ (T2.setTop (mkF m 4 #[.val (.ref a), .val (.ref b), .val (.int (0 : Int32)), .val (.int (0 : Int32)), .val .null, .unset] [])) _
    refine XS.iloadN X2.here hx rfl (hb hby d_jdk_42_method_149_code_4) rfl ?_
    show Steps _ _ _ (T2.setTop (mkF m 5 #[.val (.ref a), .val (.ref b), .val (.int (0 : Int32)), .val (.int (0 : Int32)), .val .null, .unset] [(.int (0 : Int32))])) _
    refine XS.ifNo X2.here hx rfl (hb hby d_jdk_42_method_149_code_5) rfl ((if0 _ _).trans (teq (by decide)).2) ?_
    show Steps _ _ _ (T2.setTop (mkF m 8 #[.val (.ref a), .val (.ref b), .val (.int (0 : Int32)), .val (.int (0 : Int32)), .val .null, .unset] [])) _
    refine XS.aloadN X2.here hx rfl (hb hby d_jdk_42_method_149_code_8) rfl rfl ?_
    show Steps _ _ _ (T2.setTop (mkF m 9 #[.val (.ref a), .val (.ref b), .val (.int (0 : Int32)), .val (.int (0 : Int32)), .val .null, .unset] [(.ref a)])) _
    exact hq)
  obtain ⟨a4, T4, h4, kk4, b4, c4, X4, e4, E4, hS4, hk4, hZ4a, hown4a, A4, Fc4, Fv4, V4, ya4, yb4, Cq4, -, hne4, st4⟩ := ldcCH X2 hx hZ hown (hw _ (List.mem_of_getElem? (i := 28) rfl)) (own_wS hw) e2 hS0 (by omega) (own_EW hw) (List.mem_of_getElem? (i := 2) rfl) C0.1 (vs := []) (z := (0 : Int32)) ⟨by decide, by decide⟩ (by decide) (by decide) (g := (mkF m 9 #[.val (.ref a), .val (.ref b), .val (.int (0 : Int32)), .val (.int (0 : Int32)), .val .null, .unset] [(.ref a)])) rfl (hb hby d_jdk_42_method_149_code_9) (n := 0) (by decide) (by decide) (by decide) (by decide)
  have k4 : To p.tables e below S0 (T4.setTop (mkF m 11 #[.val (.ref a), .val (.ref b), .val (.int (0 : Int32)), .val (.int (0 : Int32)), .val .null, .unset] [(.ref a4), (.ref a)])) := fun tt hq => k3 tt (st4 tt hq)
  have hZ4 : Z.Warmed39 T4.vm := hZ4a
  have hown4 : T4.vm.findClass "java/lang/String" = some m.cls := hown4a
  have z4 : h0.size ≤ h4.size := E4.1
  have C4 := C0.trans Cq4
  have f5 : Safe Z own_EL T4.vm h4 a := (Cq4.safe (adr_lt (by omega)) Sf_a)
  have nx4_a : ¬ (@Eq Nat a a4) ∧ ¬ (@Eq Nat a b4) := hne4 a f5
  obtain ⟨T6, X6, e6, st6⟩ := getF X4 hx hZ4 hown4 (host := "") (Or.inl (hw _ (List.mem_of_getElem? (i := 34) rfl))) Via.refl e4 Fv4 (g := (mkF m 11 #[.val (.ref a), .val (.ref b), .val (.int (0 : Int32)), .val (.int (0 : Int32)), .val .null, .unset] [(.ref a4), (.ref a)])) rfl rfl (hb hby d_jdk_42_method_149_code_11)
  have k6 : To p.tables e below S0 (T6.setTop (mkF m 14 #[.val (.ref a), .val (.ref b), .val (.int (0 : Int32)), .val (.int (0 : Int32)), .val .null, .unset] [(.ref b4), (.ref a)])) := fun tt hq => k4 tt (st6 tt hq)
  have f7 : Exa Z h4 a "java/lang/String" := (E0.ext E4)
  have f8 : Fld Z h4 a "java/lang/String" "value" "[B" u1 := (F1.ext E4)
  obtain ⟨T9, h9, X9, e9, W9, st9⟩ := putF X6 hx hZ4 hown4 (host := "") (Or.inl (hw _ (List.mem_of_getElem? (i := 34) rfl))) Via.refl e6 f8 f7 (Or.inr ⟨(hw _ (List.mem_of_getElem? (i := 30) rfl)), rfl, hnm⟩) (hw _ (List.mem_of_getElem? (i := 15) rfl)) (ty := (.array .byte)) (by decide) rfl rfl (g := (mkF m 14 #[.val (.ref a), .val (.ref b), .val (.int (0 : Int32)), .val (.int (0 : Int32)), .val .null, .unset] [(.ref b4), (.ref a)])) rfl rfl (hb hby d_jdk_42_method_149_code_14)
  have k9 : To p.tables e below S0 (T9.setTop (mkF m 17 #[.val (.ref a), .val (.ref b), .val (.int (0 : Int32)), .val (.int (0 : Int32)), .val .null, .unset] [])) := fun tt hq => k6 tt (st9 tt hq)
  have z9 : h9.size = h4.size := W9.size
  have F9 := f8.same W9
  have N9 := Fr.snoc X9 N0 (by omega : n0 ≤ a)
  have C9 := C4.trans (CHr.wr W9 f5 C4.1)
  have k10 : To p.tables e below S0 (T9.setTop (mkF m 18 #[.val (.ref a), .val (.ref b), .val (.int (0 : Int32)), .val (.int (0 : Int32)), .val .null, .unset] [(.ref a)])) := fun tt hq => k9 tt (by
    show Steps _ _ _ (T9.setTop (mkF m 17 #[.val (.ref a), .val (.ref b), .val (.int (0 : Int32)), .val (.int (0 : Int32)), .val .null, .unset] [])) _
    refine XS.aloadN X9.here hx rfl (hb hby d_jdk_42_method_149_code_17) rfl rfl ?_
    show Steps _ _ _ (T9.setTop (mkF m 18 #[.val (.ref a), .val (.ref b), .val (.int (0 : Int32)), .val (.int (0 : Int32)), .val .null, .unset] [(.ref a)])) _
    exact hq)
  obtain ⟨a11, T11, h11, kk11, b11, c11, X11, e11, E11, hS11, hk11, hZ11a, hown11a, A11, Fc11, Fv11, V11, ya11, yb11, Cq11, -, hne11, st11⟩ := ldcCH X9 hx hZ4 hown4 (hw _ (List.mem_of_getElem? (i := 28) rfl)) (own_wS hw) e9 hS4 (by omega) (own_EW hw) (List.mem_of_getElem? (i := 2) rfl) C9.1 (vs := []) (z := (0 : Int32)) ⟨by decide, by decide⟩ (by decide) (by decide) (g := (mkF m 18 #[.val (.ref a), .val (.ref b), .val (.int (0 : Int32)), .val (.int (0 : Int32)), .val .null, .unset] [(.ref a)])) rfl (hb hby d_jdk_42_method_149_code_18) (n := 0) (by decide) (by decide) (by decide) (by decide)
  have k11 : To p.tables e below S0 (T11.setTop (mkF m 20 #[.val (.ref a), .val (.ref b), .val (.int (0 : Int32)), .val (.int (0 : Int32)), .val .null, .unset] [(.ref a11), (.ref a)])) := fun tt hq => k10 tt (st11 tt hq)
  have hZ11 : Z.Warmed39 T11.vm := hZ11a
  have hown11 : T11.vm.findClass "java/lang/String" = some m.cls := hown11a
  have z11 : h9.size ≤ h11.size := E11.1
  have C11 := C9.trans Cq11
  have f12 : Safe Z own_EL T11.vm h11 a := (Cq11.safe (adr_lt (by omega)) (Safe.wr W9 f5 C4.1 f5))
  have nx11_a : ¬ (@Eq Nat a a11) ∧ ¬ (@Eq Nat a b11) := hne11 a f12
  obtain ⟨T13, X13, e13, st13⟩ := getF X11 hx hZ11 hown11 (host := "") (Or.inl (hw _ (List.mem_of_getElem? (i := 35) rfl))) Via.refl e11 Fc11 (g := (mkF m 20 #[.val (.ref a), .val (.ref b), .val (.int (0 : Int32)), .val (.int (0 : Int32)), .val .null, .unset] [(.ref a11), (.ref a)])) rfl rfl (hb hby d_jdk_42_method_149_code_20)
  have k13 : To p.tables e below S0 (T13.setTop (mkF m 23 #[.val (.ref a), .val (.ref b), .val (.int (0 : Int32)), .val (.int (0 : Int32)), .val .null, .unset] [(.int (0 : Int32)), (.ref a)])) := fun tt hq => k11 tt (st13 tt hq)
  have f14 : Exa Z h11 a "java/lang/String" := ((f7.wr W9).ext E11)
  have f15 : Fld Z h11 a "java/lang/String" "coder" "B" u2 := (((F2.ext E4).other W9 (Or.inr (slot_ne (Or.inr (hw _ (List.mem_of_getElem? (i := 31) rfl))) (Or.inr (hw _ (List.mem_of_getElem? (i := 30) rfl))) (by decide) (t := .byte) (t' := (.array .byte)) (by decide) (by decide)))).ext E11)
  obtain ⟨T16, h16, X16, e16, W16, st16⟩ := putF X13 hx hZ11 hown11 (host := "") (Or.inl (hw _ (List.mem_of_getElem? (i := 35) rfl))) Via.refl e13 f15 f14 (Or.inr ⟨(hw _ (List.mem_of_getElem? (i := 31) rfl)), rfl, hnm⟩) (hw _ (List.mem_of_getElem? (i := 15) rfl)) (ty := .byte) (by decide) rfl rfl (g := (mkF m 23 #[.val (.ref a), .val (.ref b), .val (.int (0 : Int32)), .val (.int (0 : Int32)), .val .null, .unset] [(.int (0 : Int32)), (.ref a)])) rfl rfl (hb hby d_jdk_42_method_149_code_23)
  have k16 : To p.tables e below S0 (T16.setTop (mkF m 26 #[.val (.ref a), .val (.ref b), .val (.int (0 : Int32)), .val (.int (0 : Int32)), .val .null, .unset] [])) := fun tt hq => k13 tt (st16 tt hq)
  have z16 : h16.size = h11.size := W16.size
  have F16 := f15.same W16
  have N16 := Fr.snoc X16 N9 (by omega : n0 ≤ a)
  have C16 := C11.trans (CHr.wr W16 f12 C11.1)
  have f17 : Arv Z h16 b4 c4 .byte (0 : Int32) [] (.int 0) := (((V4.other W9 (adr_ne (by omega))).ext E11).other W16 (adr_ne (by omega)))
  have f18 : Exa Z h16 a "java/lang/String" := (f14.wr W16)
  have f19 : Fld Z h16 a "java/lang/String" "value" "[B" (.ref b4) := ((F9.ext E11).other W16 (Or.inr (slot_ne (Or.inr (hw _ (List.mem_of_getElem? (i := 30) rfl))) (Or.inr (hw _ (List.mem_of_getElem? (i := 31) rfl))) (by decide) (t := (.array .byte)) (t' := .byte) (by decide) (by decide))))
  refine retVoidW X16 hx hZ11 (own_EW hw) hS11 (by omega) C16 e16 hret hlk (hb hby d_jdk_42_method_149_code_26) k16 ?_ (by decide) (by decide)
  exact ⟨rfl, N16, (((((Keep.refl h0 [a]).ext E4).wr W9 (Or.inl (by simp))).ext E11).wr W16 (Or.inl (by simp))), b4, c4, f17.lt, f18, f19, F16, f17⟩
set_option maxRecDepth 65536 in
set_option maxHeartbeats 40000000 in
theorem rm_n1_0 (l : Launch) (Z : State) (a0 : Array Value) (hw : ∀ d ∈ tables_1, d.before a0 Z = true) (a : Addr) (b : Addr) (kb : ClassId) (u1 : Value) (u2 : Value) (h0 : Heap) (n0 : Nat) (hn0 : n0 ≤ h0.size) (E0 : Exa Z h0 a "java/lang/String") (F1 : Fld Z h0 a "java/lang/String" "value" "[B" u1) (F2 : Fld Z h0 a "java/lang/String" "coder" "B" u2) (P0 : Arv Z h0 b kb .char (0 : Int32) [] (.int (0 : Int32))) (ga : n0 ≤ a) (ya : @LT.lt Nat instLTNat a h0.size) :
    ConW l Z own_EL (⟨"java/lang/String", "<init>", "([C)V"⟩ : MethodName) jdk_42_method_3_code 2 none [] ({ frames := 2, cells := 4, slots := 8, locals := 29 } : Room) #[(.ref a), (.ref b)] h0 [a] (fun v h L => v = none ∧ Fr n0 L ∧ Keep h0 h [a] ∧ ∃ (t : Addr) (k : ClassId), (@LT.lt Nat instLTNat t h.size) ∧ Exa Z h a "java/lang/String" ∧ Fld Z h a "java/lang/String" "value" "[B" (.ref t) ∧ Fld Z h a "java/lang/String" "coder" "B" (.int (0 : Int32)) ∧ Arv Z h t k .byte (0 : Int32) [] (.int 0)) := by
  refine enterW (Ls := #[.val (.ref a), .val (.ref b)]) (plainFor_of_name pn_2) (fun m => by exact entry_eq rfl) ?_
  intro p e s m below meth cd_ s₁ S0 vm0 hx hby hml hret hlk hnm hown hZ X0 e0 k0 C0 hsf hS0
  have N0 := Fr.nil n0
  have Sf_a : Safe Z own_EL vm0 h0 a := hsf _ (List.mem_of_getElem? (i := 0) rfl)
  have k1 : To p.tables e below S0 (s₁.setTop (mkF m 4 #[.val (.ref a), .val (.ref b)] [(.ref b), (.int (0 : Int32)), (.ref b), (.ref a)])) := fun tt hq => k0 tt (by
    show Steps _ _ _ (s₁.setTop (mkF m 0 #[.val (.ref a), .val (.ref b)] [])) _
    refine XS.aloadN X0.here hx rfl (hb hby d_jdk_42_method_3_code_0) rfl rfl ?_
    show Steps _ _ _ (s₁.setTop (mkF m 1 #[.val (.ref a), .val (.ref b)] [(.ref a)])) _
    refine XS.aloadN X0.here hx rfl (hb hby d_jdk_42_method_3_code_1) rfl rfl ?_
    show Steps _ _ _ (s₁.setTop (mkF m 2 #[.val (.ref a), .val (.ref b)] [(.ref b), (.ref a)])) _
    refine XS.iconst X0.here hx rfl (hb hby d_jdk_42_method_3_code_2) ?_
    show Steps _ _ _ (s₁.setTop (mkF m 3 #[.val (.ref a), .val (.ref b)] [(.int (0 : Int32)), (.ref b), (.ref a)])) _
    refine XS.aloadN X0.here hx rfl (hb hby d_jdk_42_method_3_code_3) rfl rfl ?_
    show Steps _ _ _ (s₁.setTop (mkF m 4 #[.val (.ref a), .val (.ref b)] [(.ref b), (.int (0 : Int32)), (.ref b), (.ref a)])) _
    exact hq)
  obtain ⟨cl2, Ar2, -, S2, M2, -, -⟩ := id P0
  have st2 := fun tt => X0.arraylength hx (by rw [e0]; exact Ar2.1) (State.isArrayOf_alike hZ.alike Ar2.2.1) (g := (mkF m 4 #[.val (.ref a), .val (.ref b)] [(.ref b), (.int (0 : Int32)), (.ref b), (.ref a)])) rfl rfl (hb hby d_jdk_42_method_3_code_4) tt
  rw [len_of S2 M2] at st2
  have k2 : To p.tables e below S0 (s₁.setTop (mkF m 5 #[.val (.ref a), .val (.ref b)] [(.int (0 : Int32)), (.int (0 : Int32)), (.ref b), (.ref a)])) := fun tt hq => k1 tt (st2 tt hq)
  have k3 : To p.tables e below S0 (s₁.setTop (mkF m 6 #[.val (.ref a), .val (.ref b)] [.null, (.int (0 : Int32)), (.int (0 : Int32)), (.ref b), (.ref a)])) := fun tt hq => k2 tt (by
    show Steps _ _ _ (s₁.setTop (mkF m 5 #[.val (.ref a), .val (.ref b)] [(.int (0 : Int32)), (.int (0 : Int32)), (.ref b), (.ref a)])) _
    refine XS.aconstNull X0.here hx rfl (hb hby d_jdk_42_method_3_code_5) ?_
    show Steps _ _ _ (s₁.setTop (mkF m 6 #[.val (.ref a), .val (.ref b)] [.null, (.int (0 : Int32)), (.int (0 : Int32)), (.ref b), (.ref a)])) _
    exact hq)
  obtain ⟨_, T4, L4, X4, ⟨rfl, Nq4, Kq4, t4, kt4, gt4, P40, P41, P42, P43⟩, k4a, Cq4, hS4, hZ4, hown4⟩ := callCW X0 hx hZ (y := (⟨"java/lang/String", "<init>", "([CIILjava/lang/Void;)V"⟩ : MethodName)) rfl hown hS0 (by omega) (hw _ (List.mem_of_getElem? (i := 21) rfl)) (hw _ (List.mem_of_getElem? (i := 22) rfl)) (hw _ (List.mem_of_getElem? (i := 24) rfl)) (by decide) (backOfW (W := 0) (rm_n4_0 l Z a0 hw a b kb u1 u2 h0 n0 (by omega) E0 F1 F2 P0 (by omega) (by omega)) hZ (hw _ (List.mem_of_getElem? (i := 24) rfl)) (hw _ (List.mem_of_getElem? (i := 16) rfl)) (by decide) (by decide) (own_EW hw) C0.1 (allS ⟨adr_lt (by omega), Sf_a⟩ all0)) e0 (argsL := [(.ref b), (.int (0 : Int32)), (.int (0 : Int32)), .null]) (rest := []) rfl rfl pd_6 rfl (by rw [hml]; rfl) (hb hby d_jdk_42_method_3_code_6) (Nat.le_of_eq rfl) (by decide) (by decide) k3
  have k4 : To p.tables e below S0 (T4.setTop (mkF m 9 #[.val (.ref a), .val (.ref b)] [])) := k4a
  have N4 := N0.app Nq4
  obtain ⟨h4, e4⟩ : ∃ z, T4.heap = z := ⟨_, rfl⟩
  rw [e4] at Kq4 gt4 P40 P41 P42 P43 Cq4 hS4
  have z4 : h0.size ≤ h4.size := Kq4.1
  have C4 := C0.trans Cq4
  refine retVoidW X4 hx hZ4 (own_EW hw) hS4 (by omega) C4 e4 hret hlk (hb hby d_jdk_42_method_3_code_9) k4 ?_ (by decide) (by decide)
  exact ⟨rfl, N4, ((Keep.refl h0 [a]).trans Kq4 (allS (Or.inl (by simp)) all0)), t4, kt4, P43.lt, P40, P41, P42, P43⟩
theorem d_method_5_code_0 : decode method_5_code 0 = .ok (.iload_n 0, 1) := by decide +kernel
theorem d_method_5_code_1 : decode method_5_code 1 = .ok (.invokestatic 13, 3) := by decide +kernel
theorem d_method_5_code_4 : decode method_5_code 4 = .ok (.istore_n 1, 1) := by decide +kernel
theorem d_method_5_code_5 : decode method_5_code 5 = .ok (.iload_n 1, 1) := by decide +kernel
theorem d_method_5_code_6 : decode method_5_code 6 = .ok (.ifCond .ne 14, 3) := by decide +kernel
theorem d_method_5_code_9 : decode method_5_code 9 = .ok (.new 19, 3) := by decide +kernel
theorem d_method_5_code_12 : decode method_5_code 12 = .ok (.dup, 1) := by decide +kernel
theorem d_method_5_code_13 : decode method_5_code 13 = .ok (.iconst 0, 1) := by decide +kernel
theorem d_method_5_code_14 : decode method_5_code 14 = .ok (.newarray .char, 2) := by decide +kernel
theorem d_method_5_code_16 : decode method_5_code 16 = .ok (.invokespecial 21, 3) := by decide +kernel
theorem d_method_5_code_19 : decode method_5_code 19 = .ok (.areturn, 1) := by decide +kernel
theorem d_method_5_code_20 : decode method_5_code 20 = .ok (.iload_n 1, 1) := by decide +kernel
theorem d_method_5_code_21 : decode method_5_code 21 = .ok (.iconst 1, 1) := by decide +kernel
theorem d_method_5_code_22 : decode method_5_code 22 = .ok (.if_icmp .ne 21, 3) := by decide +kernel
theorem d_method_5_code_25 : decode method_5_code 25 = .ok (.new 19, 3) := by decide +kernel
theorem d_method_5_code_28 : decode method_5_code 28 = .ok (.dup, 1) := by decide +kernel
theorem d_method_5_code_29 : decode method_5_code 29 = .ok (.iconst 1, 1) := by decide +kernel
theorem d_method_5_code_30 : decode method_5_code 30 = .ok (.newarray .char, 2) := by decide +kernel
theorem d_method_5_code_32 : decode method_5_code 32 = .ok (.dup, 1) := by decide +kernel
theorem d_method_5_code_33 : decode method_5_code 33 = .ok (.iconst 0, 1) := by decide +kernel
theorem d_method_5_code_34 : decode method_5_code 34 = .ok (.iload_n 0, 1) := by decide +kernel
theorem d_method_5_code_35 : decode method_5_code 35 = .ok (.invokestatic 24, 3) := by decide +kernel
theorem d_method_5_code_38 : decode method_5_code 38 = .ok (.castore, 1) := by decide +kernel
theorem d_method_5_code_39 : decode method_5_code 39 = .ok (.invokespecial 21, 3) := by decide +kernel
theorem d_method_5_code_42 : decode method_5_code 42 = .ok (.areturn, 1) := by decide +kernel
theorem d_method_5_code_43 : decode method_5_code 43 = .ok (.new 19, 3) := by decide +kernel
theorem d_method_5_code_46 : decode method_5_code 46 = .ok (.dup, 1) := by decide +kernel
theorem d_method_5_code_47 : decode method_5_code 47 = .ok (.iconst 2, 1) := by decide +kernel
theorem d_method_5_code_48 : decode method_5_code 48 = .ok (.newarray .char, 2) := by decide +kernel
theorem d_method_5_code_50 : decode method_5_code 50 = .ok (.dup, 1) := by decide +kernel
theorem d_method_5_code_51 : decode method_5_code 51 = .ok (.iconst 0, 1) := by decide +kernel
theorem d_method_5_code_52 : decode method_5_code 52 = .ok (.iload_n 0, 1) := by decide +kernel
theorem d_method_5_code_53 : decode method_5_code 53 = .ok (.invokestatic 24, 3) := by decide +kernel
theorem d_method_5_code_56 : decode method_5_code 56 = .ok (.castore, 1) := by decide +kernel
theorem d_method_5_code_57 : decode method_5_code 57 = .ok (.dup, 1) := by decide +kernel
theorem d_method_5_code_58 : decode method_5_code 58 = .ok (.iconst 1, 1) := by decide +kernel
theorem d_method_5_code_59 : decode method_5_code 59 = .ok (.iload_n 0, 1) := by decide +kernel
theorem d_method_5_code_60 : decode method_5_code 60 = .ok (.invokestatic 28, 3) := by decide +kernel
theorem d_method_5_code_63 : decode method_5_code 63 = .ok (.castore, 1) := by decide +kernel
theorem d_method_5_code_64 : decode method_5_code 64 = .ok (.invokespecial 21, 3) := by decide +kernel
theorem d_method_5_code_67 : decode method_5_code 67 = .ok (.areturn, 1) := by decide +kernel
theorem pd_7 : parseMethodDescriptor "([C)V" = some ⟨[(.array .char)], none⟩ := by decide +kernel
set_option maxRecDepth 65536 in
set_option maxHeartbeats 40000000 in
theorem rm_mk (l : Launch) (Z : State) (a0 : Array Value) (hw : ∀ d ∈ tables_1, d.before a0 Z = true) (zc : Int32) (z : Int32) (h0 : Heap) (n0 : Nat) (hn0 : n0 ≤ h0.size) (S_c : Sta Z Z.heap "java/lang/String" "COMPACT_STRINGS" "Z" (.int zc)) (hzc : ¬ zc = (0 : Int32)) (O0 : Old Z n0 h0) :
    ConW l Z own_EL (⟨"com/example/huntaway/huntaway/ObligationEqualsPinLaw", "mk", "(I)Ljava/lang/String;"⟩ : MethodName) method_5_code 2 (some (.object "java/lang/String")) [] ({ frames := 4, cells := 6, slots := 12, locals := 66 } : Room) #[(.int z)] h0 [] (fun v h L => ∃ a : Addr, v = some (.ref a) ∧ Fr n0 L ∧ h0.size ≤ a ∧ Keep h0 h [] ∧ Tx Z h a (own_T z)) := by
  refine enterW (Ls := #[.val (.int z), .unset]) (plainFor_of_name pn_0) (fun m => by exact entry_eq rfl) ?_
  intro p e s m below meth cd_ s₁ S0 vm0 hx hby hml hret hlk hnm hown hZ X0 e0 k0 C0 hsf hS0
  have N0 := Fr.nil n0
  have k1 : To p.tables e below S0 (s₁.setTop (mkF m 1 #[.val (.int z), .unset] [(.int z)])) := fun tt hq => k0 tt (by
    show Steps _ _ _ (s₁.setTop (mkF m 0 #[.val (.int z), .unset] [])) _
    refine XS.iloadN X0.here hx rfl (hb hby d_method_5_code_0) rfl ?_
    show Steps _ _ _ (s₁.setTop (mkF m 1 #[.val (.int z), .unset] [(.int z)])) _
    exact hq)
  obtain ⟨_, T2, L2, X2, ⟨rfl, Nq2, eq2⟩, k2a⟩ := callS' X0 hx hZ (y := (⟨"com/example/huntaway/huntaway/ObligationEqualsPinLaw", "len", "(I)I"⟩ : MethodName)) hown (hw _ (List.mem_of_getElem? (i := 7) rfl)) (hw _ (List.mem_of_getElem? (i := 8) rfl)) (hw _ (List.mem_of_getElem? (i := 5) rfl)) (hw _ (List.mem_of_getElem? (i := 9) rfl)) (by decide) (backC (W := 0) (rm_len l Z a0 hw z h0 n0 (by omega)) hZ (hw _ (List.mem_of_getElem? (i := 9) rfl)) (hw _ (List.mem_of_getElem? (i := 5) rfl)) (by decide) (by decide)) e0 (argsL := [(.int z)]) (rest := []) rfl rfl pd_1 rfl (by rw [hml]; rfl) (hb hby d_method_5_code_1) (Nat.le_of_eq rfl) (by decide) (by decide) k1
  have k2 : To p.tables e below S0 (T2.setTop (mkF m 4 #[.val (.int z), .unset] [(.int (own_len z))])) := k2a
  have N2 := N0.app Nq2
  have e2 : T2.heap = h0 := eq2
  rcases own_lenc z with ht3 | ht3 | ht3
  · -- pc 4: (0 : Int32)
    have k4 : To p.tables e below S0 (T2.setTop (mkF m 4 #[.val (.int z), .unset] [(.int (0 : Int32))])) := by have hq := k2; rw [ht3] at hq; exact hq
    have k5 : To p.tables e below S0 (T2.setTop (mkF m 9 #[.val (.int z), .val (.int (0 : Int32))] [])) := fun tt hq => k4 tt (by
      show Steps _ _ _ (T2.setTop (mkF m 4 #[.val (.int z), .unset] [(.int (0 : Int32))])) _
      refine XS.istoreN X2.here hx rfl (hb hby d_method_5_code_4) rfl (l' := #[.val (.int z), .val (.int (0 : Int32))]) rfl ?_
      show Steps _ _ _ (T2.setTop (mkF m 5 #[.val (.int z), .val (.int (0 : Int32))] [])) _
      refine XS.iloadN X2.here hx rfl (hb hby d_method_5_code_5) rfl ?_
      show Steps _ _ _ (T2.setTop (mkF m 6 #[.val (.int z), .val (.int (0 : Int32))] [(.int (0 : Int32))])) _
      refine XS.ifNo X2.here hx rfl (hb hby d_method_5_code_6) rfl ((if0 _ _).trans (teq (by decide)).2) ?_
      show Steps _ _ _ (T2.setTop (mkF m 9 #[.val (.int z), .val (.int (0 : Int32))] [])) _
      exact hq)
    obtain ⟨T6, h6, X6, e6, E6, A6, D6, -, st6⟩ := newO X2 hx hZ hown (hw _ (List.mem_of_getElem? (i := 14) rfl)) (hw _ (List.mem_of_getElem? (i := 15) rfl)) (hw _ (List.mem_of_getElem? (i := 16) rfl)) e2 (g := (mkF m 9 #[.val (.int z), .val (.int (0 : Int32))] [])) rfl (hb hby d_method_5_code_9) (by decide) (by decide)
    obtain ⟨b6, g6⟩ : ∃ z, z = h0.size := ⟨_, rfl⟩
    rw [← g6] at A6 D6 st6
    have k6 : To p.tables e below S0 (T6.setTop (mkF m 12 #[.val (.int z), .val (.int (0 : Int32))] [(.ref b6)])) := fun tt hq => k5 tt (st6 tt hq)
    have z6 : h0.size ≤ h6.size := E6.1
    have y6 : @LT.lt Nat instLTNat b6 h6.size := A6.lt
    have C6 := C0.trans (CHr.ext E6 C0.1)
    have Sf6 : Safe Z own_EL vm0 h6 b6 := Safe.ext E6 C0.1 (Safe.new (by omega))
    have F6_value : Fld Z h6 b6 "java/lang/String" "value" "[B" .null := D6 (Or.inr (hw _ (List.mem_of_getElem? (i := 30) rfl))) (ty := (.array .byte)) (by decide)
    have F6_coder : Fld Z h6 b6 "java/lang/String" "coder" "B" (.int (0 : Int32)) := D6 (Or.inr (hw _ (List.mem_of_getElem? (i := 31) rfl))) (ty := .byte) (by decide)
    have k7 : To p.tables e below S0 (T6.setTop (mkF m 14 #[.val (.int z), .val (.int (0 : Int32))] [(.int (0 : Int32)), (.ref b6), (.ref b6)])) := fun tt hq => k6 tt (by
      show Steps _ _ _ (T6.setTop (mkF m 12 #[.val (.int z), .val (.int (0 : Int32))] [(.ref b6)])) _
      refine XS.dup X6.here hx rfl (hb hby d_method_5_code_12) rfl rfl ?_
      show Steps _ _ _ (T6.setTop (mkF m 13 #[.val (.int z), .val (.int (0 : Int32))] [(.ref b6), (.ref b6)])) _
      refine XS.iconst X6.here hx rfl (hb hby d_method_5_code_13) ?_
      show Steps _ _ _ (T6.setTop (mkF m 14 #[.val (.int z), .val (.int (0 : Int32))] [(.int (0 : Int32)), (.ref b6), (.ref b6)])) _
      exact hq)
    obtain ⟨T8, h8, c8, X8, e8, E8, A8, st8⟩ := newP X6 hx hZ (hw _ (List.mem_of_getElem? (i := 17) rfl)) e6 (g := (mkF m 14 #[.val (.int z), .val (.int (0 : Int32))] [(.int (0 : Int32)), (.ref b6), (.ref b6)])) rfl (hb hby d_method_5_code_14) rfl (by decide) (cap := 0) (by decide) (by decide) (by decide) (by decide)
    obtain ⟨b8, g8⟩ : ∃ z, z = h6.size := ⟨_, rfl⟩
    rw [← g8] at A8 st8
    have k8 : To p.tables e below S0 (T8.setTop (mkF m 16 #[.val (.int z), .val (.int (0 : Int32))] [(.ref b8), (.ref b6), (.ref b6)])) := fun tt hq => k7 tt (st8 tt hq)
    have z8 : h6.size ≤ h8.size := E8.1
    have C8 := C6.trans (CHr.ext E8 C6.1)
    have V8 : Arv Z h8 b8 c8 .char (0 : Int32) [] (.int (0 : Int32)) := (Arv.new A8 (by decide)).pad (pad_rep [] (.int (0 : Int32)) 0)
    have y8 : @LT.lt Nat instLTNat b8 h8.size := V8.lt
    have f9 : Exa Z h8 b6 "java/lang/String" := (A6.ext E8)
    have f10 : Fld Z h8 b6 "java/lang/String" "value" "[B" .null := (F6_value.ext E8)
    have f11 : Fld Z h8 b6 "java/lang/String" "coder" "B" (.int (0 : Int32)) := (F6_coder.ext E8)
    have f13 : Safe Z own_EL vm0 h8 b6 := (Safe.ext E8 C6.1 Sf6)
    obtain ⟨_, T12, L12, X12, ⟨rfl, Nq12, Kq12, t12, kt12, gt12, P120, P121, P122, P123⟩, k12a, Cq12, hS12, hZ12, hown12⟩ := callCW X8 hx hZ (y := (⟨"java/lang/String", "<init>", "([C)V"⟩ : MethodName)) rfl hown hS0 (by omega) (hw _ (List.mem_of_getElem? (i := 18) rfl)) (hw _ (List.mem_of_getElem? (i := 19) rfl)) (hw _ (List.mem_of_getElem? (i := 20) rfl)) (by decide) (backOfW (W := 1) (rm_n1_0 l Z a0 hw b6 b8 c8 .null (.int (0 : Int32)) h8 n0 (by omega) f9 f10 f11 V8 (by omega) (by omega)) hZ (hw _ (List.mem_of_getElem? (i := 20) rfl)) (hw _ (List.mem_of_getElem? (i := 16) rfl)) (by decide) (by decide) (own_EW hw) C8.1 (allS ⟨adr_lt (by omega), f13⟩ all0)) e8 (argsL := [(.ref b8)]) (rest := [(.ref b6)]) rfl rfl pd_7 rfl (by rw [hml]; rfl) (hb hby d_method_5_code_16) (Nat.le_of_eq rfl) (by decide) (by decide) k8
    have k12 : To p.tables e below S0 (T12.setTop (mkF m 19 #[.val (.int z), .val (.int (0 : Int32))] [(.ref b6)])) := k12a
    have N12 := N2.app Nq12
    obtain ⟨h12, e12⟩ : ∃ z, T12.heap = z := ⟨_, rfl⟩
    rw [e12] at Kq12 gt12 P120 P121 P122 P123 Cq12 hS12
    have z12 : h8.size ≤ h12.size := Kq12.1
    have C12 := C8.trans Cq12
    refine retRefW X12 hx hZ12 (own_EW hw) hS12 (by omega) C12 e12 hret hlk rfl rfl (hb hby d_method_5_code_19) k12 ?_ (by decide) (by decide)
    exact ⟨_, rfl, N12, (by omega), ((((Keep.refl h0 []).ext E6).ext E8).trans Kq12 (allS (Or.inr (by omega)) all0)), P120, _, _, P121, P122, Or.inl ⟨own_T0 ht3, P123⟩⟩
  · -- pc 4: (1 : Int32)
    have k14 : To p.tables e below S0 (T2.setTop (mkF m 4 #[.val (.int z), .unset] [(.int (1 : Int32))])) := by have hq := k2; rw [ht3] at hq; exact hq
    have k15 : To p.tables e below S0 (T2.setTop (mkF m 25 #[.val (.int z), .val (.int (1 : Int32))] [])) := fun tt hq => k14 tt (by
      show Steps _ _ _ (T2.setTop (mkF m 4 #[.val (.int z), .unset] [(.int (1 : Int32))])) _
      refine XS.istoreN X2.here hx rfl (hb hby d_method_5_code_4) rfl (l' := #[.val (.int z), .val (.int (1 : Int32))]) rfl ?_
      show Steps _ _ _ (T2.setTop (mkF m 5 #[.val (.int z), .val (.int (1 : Int32))] [])) _
      refine XS.iloadN X2.here hx rfl (hb hby d_method_5_code_5) rfl ?_
      show Steps _ _ _ (T2.setTop (mkF m 6 #[.val (.int z), .val (.int (1 : Int32))] [(.int (1 : Int32))])) _
      refine XS.ifYes X2.here hx rfl (pc0 := 6) (pc' := 20) rfl (hb hby d_method_5_code_6) rfl ((if0 _ _).trans (feq (by decide)).2) (by decide) (by decide) ?_
      show Steps _ _ _ (T2.setTop (mkF m 20 #[.val (.int z), .val (.int (1 : Int32))] [])) _
      refine XS.iloadN X2.here hx rfl (hb hby d_method_5_code_20) rfl ?_
      show Steps _ _ _ (T2.setTop (mkF m 21 #[.val (.int z), .val (.int (1 : Int32))] [(.int (1 : Int32))])) _
      refine XS.iconst X2.here hx rfl (hb hby d_method_5_code_21) ?_
      show Steps _ _ _ (T2.setTop (mkF m 22 #[.val (.int z), .val (.int (1 : Int32))] [(.int (1 : Int32)), (.int (1 : Int32))])) _
      refine XS.icmpNo X2.here hx rfl (hb hby d_method_5_code_22) rfl (teq (by decide)).2 ?_
      show Steps _ _ _ (T2.setTop (mkF m 25 #[.val (.int z), .val (.int (1 : Int32))] [])) _
      exact hq)
    obtain ⟨T16, h16, X16, e16, E16, A16, D16, -, st16⟩ := newO X2 hx hZ hown (hw _ (List.mem_of_getElem? (i := 14) rfl)) (hw _ (List.mem_of_getElem? (i := 15) rfl)) (hw _ (List.mem_of_getElem? (i := 16) rfl)) e2 (g := (mkF m 25 #[.val (.int z), .val (.int (1 : Int32))] [])) rfl (hb hby d_method_5_code_25) (by decide) (by decide)
    obtain ⟨b16, g16⟩ : ∃ z, z = h0.size := ⟨_, rfl⟩
    rw [← g16] at A16 D16 st16
    have k16 : To p.tables e below S0 (T16.setTop (mkF m 28 #[.val (.int z), .val (.int (1 : Int32))] [(.ref b16)])) := fun tt hq => k15 tt (st16 tt hq)
    have z16 : h0.size ≤ h16.size := E16.1
    have y16 : @LT.lt Nat instLTNat b16 h16.size := A16.lt
    have C16 := C0.trans (CHr.ext E16 C0.1)
    have Sf16 : Safe Z own_EL vm0 h16 b16 := Safe.ext E16 C0.1 (Safe.new (by omega))
    have F16_value : Fld Z h16 b16 "java/lang/String" "value" "[B" .null := D16 (Or.inr (hw _ (List.mem_of_getElem? (i := 30) rfl))) (ty := (.array .byte)) (by decide)
    have F16_coder : Fld Z h16 b16 "java/lang/String" "coder" "B" (.int (0 : Int32)) := D16 (Or.inr (hw _ (List.mem_of_getElem? (i := 31) rfl))) (ty := .byte) (by decide)
    have k17 : To p.tables e below S0 (T16.setTop (mkF m 30 #[.val (.int z), .val (.int (1 : Int32))] [(.int (1 : Int32)), (.ref b16), (.ref b16)])) := fun tt hq => k16 tt (by
      show Steps _ _ _ (T16.setTop (mkF m 28 #[.val (.int z), .val (.int (1 : Int32))] [(.ref b16)])) _
      refine XS.dup X16.here hx rfl (hb hby d_method_5_code_28) rfl rfl ?_
      show Steps _ _ _ (T16.setTop (mkF m 29 #[.val (.int z), .val (.int (1 : Int32))] [(.ref b16), (.ref b16)])) _
      refine XS.iconst X16.here hx rfl (hb hby d_method_5_code_29) ?_
      show Steps _ _ _ (T16.setTop (mkF m 30 #[.val (.int z), .val (.int (1 : Int32))] [(.int (1 : Int32)), (.ref b16), (.ref b16)])) _
      exact hq)
    obtain ⟨T18, h18, c18, X18, e18, E18, A18, st18⟩ := newP X16 hx hZ (hw _ (List.mem_of_getElem? (i := 17) rfl)) e16 (g := (mkF m 30 #[.val (.int z), .val (.int (1 : Int32))] [(.int (1 : Int32)), (.ref b16), (.ref b16)])) rfl (hb hby d_method_5_code_30) rfl (by decide) (cap := 1) (by decide) (by decide) (by decide) (by decide)
    obtain ⟨b18, g18⟩ : ∃ z, z = h16.size := ⟨_, rfl⟩
    rw [← g18] at A18 st18
    have k18 : To p.tables e below S0 (T18.setTop (mkF m 32 #[.val (.int z), .val (.int (1 : Int32))] [(.ref b18), (.ref b16), (.ref b16)])) := fun tt hq => k17 tt (st18 tt hq)
    have z18 : h16.size ≤ h18.size := E18.1
    have C18 := C16.trans (CHr.ext E18 C16.1)
    have V18 : Arv Z h18 b18 c18 .char (1 : Int32) [(.int (0 : Int32))] (.int (0 : Int32)) := (Arv.new A18 (by decide)).pad (pad_rep [] (.int (0 : Int32)) 1)
    have y18 : @LT.lt Nat instLTNat b18 h18.size := V18.lt
    have k19 : To p.tables e below S0 (T18.setTop (mkF m 35 #[.val (.int z), .val (.int (1 : Int32))] [(.int z), (.int (0 : Int32)), (.ref b18), (.ref b18), (.ref b16), (.ref b16)])) := fun tt hq => k18 tt (by
      show Steps _ _ _ (T18.setTop (mkF m 32 #[.val (.int z), .val (.int (1 : Int32))] [(.ref b18), (.ref b16), (.ref b16)])) _
      refine XS.dup X18.here hx rfl (hb hby d_method_5_code_32) rfl rfl ?_
      show Steps _ _ _ (T18.setTop (mkF m 33 #[.val (.int z), .val (.int (1 : Int32))] [(.ref b18), (.ref b18), (.ref b16), (.ref b16)])) _
      refine XS.iconst X18.here hx rfl (hb hby d_method_5_code_33) ?_
      show Steps _ _ _ (T18.setTop (mkF m 34 #[.val (.int z), .val (.int (1 : Int32))] [(.int (0 : Int32)), (.ref b18), (.ref b18), (.ref b16), (.ref b16)])) _
      refine XS.iloadN X18.here hx rfl (hb hby d_method_5_code_34) rfl ?_
      show Steps _ _ _ (T18.setTop (mkF m 35 #[.val (.int z), .val (.int (1 : Int32))] [(.int z), (.int (0 : Int32)), (.ref b18), (.ref b18), (.ref b16), (.ref b16)])) _
      exact hq)
    obtain ⟨_, T20, L20, X20, ⟨rfl, Nq20, eq20⟩, k20a⟩ := callS' X18 hx hZ (y := (⟨"com/example/huntaway/huntaway/ObligationEqualsPinLaw", "c0", "(I)C"⟩ : MethodName)) hown (hw _ (List.mem_of_getElem? (i := 36) rfl)) (hw _ (List.mem_of_getElem? (i := 37) rfl)) (hw _ (List.mem_of_getElem? (i := 5) rfl)) (hw _ (List.mem_of_getElem? (i := 38) rfl)) (by decide) (backC (W := 5) (rm_c0 l Z a0 hw z h18 n0 (by omega)) hZ (hw _ (List.mem_of_getElem? (i := 38) rfl)) (hw _ (List.mem_of_getElem? (i := 5) rfl)) (by decide) (by decide)) e18 (argsL := [(.int z)]) (rest := [(.int (0 : Int32)), (.ref b18), (.ref b18), (.ref b16), (.ref b16)]) rfl rfl pd_2 rfl (by rw [hml]; rfl) (hb hby d_method_5_code_35) (Nat.le_of_eq rfl) (by decide) (by decide) k19
    have k20 : To p.tables e below S0 (T20.setTop (mkF m 38 #[.val (.int z), .val (.int (1 : Int32))] [(.int (own_c0 z)), (.int (0 : Int32)), (.ref b18), (.ref b18), (.ref b16), (.ref b16)])) := k20a
    have N20 := N2.app Nq20
    have e20 : T20.heap = h18 := eq20
    obtain ⟨cl21, Ar21, q21, S21, M21, G21, J21⟩ := id V18
    obtain ⟨T21, h21, X21, e21, W21, st21⟩ := stC X20 hx hZ e20 Ar21 (j := (0 : Int32)) (inb_of S21 ⟨by decide, by decide⟩) (g := (mkF m 38 #[.val (.int z), .val (.int (1 : Int32))] [(.int (own_c0 z)), (.int (0 : Int32)), (.ref b18), (.ref b18), (.ref b16), (.ref b16)])) rfl rfl (hb hby d_method_5_code_38)
    have k21 : To p.tables e below S0 (T21.setTop (mkF m 39 #[.val (.int z), .val (.int (1 : Int32))] [(.ref b18), (.ref b16), (.ref b16)])) := fun tt hq => k20 tt (st21 tt hq)
    have z21 : h21.size = h18.size := W21.size
    have C21 := C18.trans (CHr.wr W21 (Safe.arv hZ.alike V18 (by decide)) C18.1)
    rw [own_narc (own_c0m z)] at W21
    have V21 : Arv Z h21 b18 c18 .char (1 : Int32) [(.int (own_c0 z))] (.int (0 : Int32)) := Arv.set Ar21 q21 S21 M21 G21 J21 (own_fitc (own_c0m z)) W21 0 rfl (Nat.le_of_ble_eq_true rfl)
    have N21 := Fr.snoc X21 N20 (by omega : n0 ≤ b18)
    have f22 : Old Z n0 h21 := (((O0.ext E16).ext E18).wr W21 (by omega))
    have f23 : Exa Z h21 b16 "java/lang/String" := ((A16.ext E18).wr W21)
    have f24 : Fld Z h21 b16 "java/lang/String" "value" "[B" .null := ((F16_value.ext E18).other W21 (Or.inl (adr_ne (by omega))))
    have f25 : Fld Z h21 b16 "java/lang/String" "coder" "B" (.int (0 : Int32)) := ((F16_coder.ext E18).other W21 (Or.inl (adr_ne (by omega))))
    obtain ⟨_, T26, L26, X26, ⟨rfl, Nq26, Kq26, t26, kt26, gt26, P260, P261, P262, P263⟩, k26a⟩ := callC' X21 hx hZ (y := (⟨"java/lang/String", "<init>", "([C)V"⟩ : MethodName)) rfl hown (hw _ (List.mem_of_getElem? (i := 18) rfl)) (hw _ (List.mem_of_getElem? (i := 19) rfl)) (hw _ (List.mem_of_getElem? (i := 20) rfl)) (by decide) (backC (W := 1) (rm_n1_1 l Z a0 hw zc b16 b18 c18 .null (.int (0 : Int32)) (own_c0 z) h21 n0 (by omega) S_c hzc f22 f23 f24 f25 V21 (by omega) (by omega) (by omega) (by omega) (own_c0m z)) hZ (hw _ (List.mem_of_getElem? (i := 20) rfl)) (hw _ (List.mem_of_getElem? (i := 16) rfl)) (by decide) (by decide)) e21 (argsL := [(.ref b18)]) (rest := [(.ref b16)]) rfl rfl pd_7 rfl (by rw [hml]; rfl) (hb hby d_method_5_code_39) (Nat.le_of_eq rfl) (by decide) (by decide) k21
    have k26 : To p.tables e below S0 (T26.setTop (mkF m 42 #[.val (.int z), .val (.int (1 : Int32))] [(.ref b16)])) := k26a
    have N26 := N21.app Nq26
    obtain ⟨h26, e26⟩ : ∃ z, T26.heap = z := ⟨_, rfl⟩
    rw [e26] at Kq26 P260 P261 P262 P263
    have z26 : h21.size ≤ h26.size := Kq26.1
    have f27 : Safe Z own_EL vm0 h21 b16 := (Safe.wr W21 (Safe.arv hZ.alike V18 (by decide)) C18.1 (Safe.ext E18 C16.1 Sf16))
    have C26 := C21.trans (CHr.keep Kq26 (sfS f27 sf0) C21.1)
    have y26 : @LT.lt Nat instLTNat t26 h26.size := P263.lt
    refine retRefW X26 hx hZ (own_EW hw) hS0 (by omega) C26 e26 hret hlk rfl rfl (hb hby d_method_5_code_42) k26 ?_ (by decide) (by decide)
    exact ⟨_, rfl, N26, (by omega), (((((Keep.refl h0 []).ext E16).ext E18).wr W21 (Or.inr (by omega))).trans Kq26 (allS (Or.inr (by omega)) all0)), P260, _, _, P261, P262, Or.inr (Or.inl ⟨_, own_T1 ht3, P263⟩)⟩
  · -- pc 4: (2 : Int32)
    have k28 : To p.tables e below S0 (T2.setTop (mkF m 4 #[.val (.int z), .unset] [(.int (2 : Int32))])) := by have hq := k2; rw [ht3] at hq; exact hq
    have k29 : To p.tables e below S0 (T2.setTop (mkF m 43 #[.val (.int z), .val (.int (2 : Int32))] [])) := fun tt hq => k28 tt (by
      show Steps _ _ _ (T2.setTop (mkF m 4 #[.val (.int z), .unset] [(.int (2 : Int32))])) _
      refine XS.istoreN X2.here hx rfl (hb hby d_method_5_code_4) rfl (l' := #[.val (.int z), .val (.int (2 : Int32))]) rfl ?_
      show Steps _ _ _ (T2.setTop (mkF m 5 #[.val (.int z), .val (.int (2 : Int32))] [])) _
      refine XS.iloadN X2.here hx rfl (hb hby d_method_5_code_5) rfl ?_
      show Steps _ _ _ (T2.setTop (mkF m 6 #[.val (.int z), .val (.int (2 : Int32))] [(.int (2 : Int32))])) _
      refine XS.ifYes X2.here hx rfl (pc0 := 6) (pc' := 20) rfl (hb hby d_method_5_code_6) rfl ((if0 _ _).trans (feq (by decide)).2) (by decide) (by decide) ?_
      show Steps _ _ _ (T2.setTop (mkF m 20 #[.val (.int z), .val (.int (2 : Int32))] [])) _
      refine XS.iloadN X2.here hx rfl (hb hby d_method_5_code_20) rfl ?_
      show Steps _ _ _ (T2.setTop (mkF m 21 #[.val (.int z), .val (.int (2 : Int32))] [(.int (2 : Int32))])) _
      refine XS.iconst X2.here hx rfl (hb hby d_method_5_code_21) ?_
      show Steps _ _ _ (T2.setTop (mkF m 22 #[.val (.int z), .val (.int (2 : Int32))] [(.int (1 : Int32)), (.int (2 : Int32))])) _
      refine XS.icmpYes X2.here hx rfl (pc0 := 22) (pc' := 43) rfl (hb hby d_method_5_code_22) rfl (feq (by decide)).2 (by decide) (by decide) ?_
      show Steps _ _ _ (T2.setTop (mkF m 43 #[.val (.int z), .val (.int (2 : Int32))] [])) _
      exact hq)
    obtain ⟨T30, h30, X30, e30, E30, A30, D30, -, st30⟩ := newO X2 hx hZ hown (hw _ (List.mem_of_getElem? (i := 14) rfl)) (hw _ (List.mem_of_getElem? (i := 15) rfl)) (hw _ (List.mem_of_getElem? (i := 16) rfl)) e2 (g := (mkF m 43 #[.val (.int z), .val (.int (2 : Int32))] [])) rfl (hb hby d_method_5_code_43) (by decide) (by decide)
    obtain ⟨b30, g30⟩ : ∃ z, z = h0.size := ⟨_, rfl⟩
    rw [← g30] at A30 D30 st30
    have k30 : To p.tables e below S0 (T30.setTop (mkF m 46 #[.val (.int z), .val (.int (2 : Int32))] [(.ref b30)])) := fun tt hq => k29 tt (st30 tt hq)
    have z30 : h0.size ≤ h30.size := E30.1
    have y30 : @LT.lt Nat instLTNat b30 h30.size := A30.lt
    have C30 := C0.trans (CHr.ext E30 C0.1)
    have Sf30 : Safe Z own_EL vm0 h30 b30 := Safe.ext E30 C0.1 (Safe.new (by omega))
    have F30_value : Fld Z h30 b30 "java/lang/String" "value" "[B" .null := D30 (Or.inr (hw _ (List.mem_of_getElem? (i := 30) rfl))) (ty := (.array .byte)) (by decide)
    have F30_coder : Fld Z h30 b30 "java/lang/String" "coder" "B" (.int (0 : Int32)) := D30 (Or.inr (hw _ (List.mem_of_getElem? (i := 31) rfl))) (ty := .byte) (by decide)
    have k31 : To p.tables e below S0 (T30.setTop (mkF m 48 #[.val (.int z), .val (.int (2 : Int32))] [(.int (2 : Int32)), (.ref b30), (.ref b30)])) := fun tt hq => k30 tt (by
      show Steps _ _ _ (T30.setTop (mkF m 46 #[.val (.int z), .val (.int (2 : Int32))] [(.ref b30)])) _
      refine XS.dup X30.here hx rfl (hb hby d_method_5_code_46) rfl rfl ?_
      show Steps _ _ _ (T30.setTop (mkF m 47 #[.val (.int z), .val (.int (2 : Int32))] [(.ref b30), (.ref b30)])) _
      refine XS.iconst X30.here hx rfl (hb hby d_method_5_code_47) ?_
      show Steps _ _ _ (T30.setTop (mkF m 48 #[.val (.int z), .val (.int (2 : Int32))] [(.int (2 : Int32)), (.ref b30), (.ref b30)])) _
      exact hq)
    obtain ⟨T32, h32, c32, X32, e32, E32, A32, st32⟩ := newP X30 hx hZ (hw _ (List.mem_of_getElem? (i := 17) rfl)) e30 (g := (mkF m 48 #[.val (.int z), .val (.int (2 : Int32))] [(.int (2 : Int32)), (.ref b30), (.ref b30)])) rfl (hb hby d_method_5_code_48) rfl (by decide) (cap := 2) (by decide) (by decide) (by decide) (by decide)
    obtain ⟨b32, g32⟩ : ∃ z, z = h30.size := ⟨_, rfl⟩
    rw [← g32] at A32 st32
    have k32 : To p.tables e below S0 (T32.setTop (mkF m 50 #[.val (.int z), .val (.int (2 : Int32))] [(.ref b32), (.ref b30), (.ref b30)])) := fun tt hq => k31 tt (st32 tt hq)
    have z32 : h30.size ≤ h32.size := E32.1
    have C32 := C30.trans (CHr.ext E32 C30.1)
    have V32 : Arv Z h32 b32 c32 .char (2 : Int32) [(.int (0 : Int32)), (.int (0 : Int32))] (.int (0 : Int32)) := (Arv.new A32 (by decide)).pad (pad_rep [] (.int (0 : Int32)) 2)
    have y32 : @LT.lt Nat instLTNat b32 h32.size := V32.lt
    have k33 : To p.tables e below S0 (T32.setTop (mkF m 53 #[.val (.int z), .val (.int (2 : Int32))] [(.int z), (.int (0 : Int32)), (.ref b32), (.ref b32), (.ref b30), (.ref b30)])) := fun tt hq => k32 tt (by
      show Steps _ _ _ (T32.setTop (mkF m 50 #[.val (.int z), .val (.int (2 : Int32))] [(.ref b32), (.ref b30), (.ref b30)])) _
      refine XS.dup X32.here hx rfl (hb hby d_method_5_code_50) rfl rfl ?_
      show Steps _ _ _ (T32.setTop (mkF m 51 #[.val (.int z), .val (.int (2 : Int32))] [(.ref b32), (.ref b32), (.ref b30), (.ref b30)])) _
      refine XS.iconst X32.here hx rfl (hb hby d_method_5_code_51) ?_
      show Steps _ _ _ (T32.setTop (mkF m 52 #[.val (.int z), .val (.int (2 : Int32))] [(.int (0 : Int32)), (.ref b32), (.ref b32), (.ref b30), (.ref b30)])) _
      refine XS.iloadN X32.here hx rfl (hb hby d_method_5_code_52) rfl ?_
      show Steps _ _ _ (T32.setTop (mkF m 53 #[.val (.int z), .val (.int (2 : Int32))] [(.int z), (.int (0 : Int32)), (.ref b32), (.ref b32), (.ref b30), (.ref b30)])) _
      exact hq)
    obtain ⟨_, T34, L34, X34, ⟨rfl, Nq34, eq34⟩, k34a⟩ := callS' X32 hx hZ (y := (⟨"com/example/huntaway/huntaway/ObligationEqualsPinLaw", "c0", "(I)C"⟩ : MethodName)) hown (hw _ (List.mem_of_getElem? (i := 36) rfl)) (hw _ (List.mem_of_getElem? (i := 37) rfl)) (hw _ (List.mem_of_getElem? (i := 5) rfl)) (hw _ (List.mem_of_getElem? (i := 38) rfl)) (by decide) (backC (W := 5) (rm_c0 l Z a0 hw z h32 n0 (by omega)) hZ (hw _ (List.mem_of_getElem? (i := 38) rfl)) (hw _ (List.mem_of_getElem? (i := 5) rfl)) (by decide) (by decide)) e32 (argsL := [(.int z)]) (rest := [(.int (0 : Int32)), (.ref b32), (.ref b32), (.ref b30), (.ref b30)]) rfl rfl pd_2 rfl (by rw [hml]; rfl) (hb hby d_method_5_code_53) (Nat.le_of_eq rfl) (by decide) (by decide) k33
    have k34 : To p.tables e below S0 (T34.setTop (mkF m 56 #[.val (.int z), .val (.int (2 : Int32))] [(.int (own_c0 z)), (.int (0 : Int32)), (.ref b32), (.ref b32), (.ref b30), (.ref b30)])) := k34a
    have N34 := N2.app Nq34
    have e34 : T34.heap = h32 := eq34
    obtain ⟨cl35, Ar35, q35, S35, M35, G35, J35⟩ := id V32
    obtain ⟨T35, h35, X35, e35, W35, st35⟩ := stC X34 hx hZ e34 Ar35 (j := (0 : Int32)) (inb_of S35 ⟨by decide, by decide⟩) (g := (mkF m 56 #[.val (.int z), .val (.int (2 : Int32))] [(.int (own_c0 z)), (.int (0 : Int32)), (.ref b32), (.ref b32), (.ref b30), (.ref b30)])) rfl rfl (hb hby d_method_5_code_56)
    have k35 : To p.tables e below S0 (T35.setTop (mkF m 57 #[.val (.int z), .val (.int (2 : Int32))] [(.ref b32), (.ref b30), (.ref b30)])) := fun tt hq => k34 tt (st35 tt hq)
    have z35 : h35.size = h32.size := W35.size
    have C35 := C32.trans (CHr.wr W35 (Safe.arv hZ.alike V32 (by decide)) C32.1)
    rw [own_narc (own_c0m z)] at W35
    have V35 : Arv Z h35 b32 c32 .char (2 : Int32) [(.int (own_c0 z)), (.int (0 : Int32))] (.int (0 : Int32)) := Arv.set Ar35 q35 S35 M35 G35 J35 (own_fitc (own_c0m z)) W35 0 rfl (Nat.le_of_ble_eq_true rfl)
    have N35 := Fr.snoc X35 N34 (by omega : n0 ≤ b32)
    have k36 : To p.tables e below S0 (T35.setTop (mkF m 60 #[.val (.int z), .val (.int (2 : Int32))] [(.int z), (.int (1 : Int32)), (.ref b32), (.ref b32), (.ref b30), (.ref b30)])) := fun tt hq => k35 tt (by
      show Steps _ _ _ (T35.setTop (mkF m 57 #[.val (.int z), .val (.int (2 : Int32))] [(.ref b32), (.ref b30), (.ref b30)])) _
      refine XS.dup X35.here hx rfl (hb hby d_method_5_code_57) rfl rfl ?_
      show Steps _ _ _ (T35.setTop (mkF m 58 #[.val (.int z), .val (.int (2 : Int32))] [(.ref b32), (.ref b32), (.ref b30), (.ref b30)])) _
      refine XS.iconst X35.here hx rfl (hb hby d_method_5_code_58) ?_
      show Steps _ _ _ (T35.setTop (mkF m 59 #[.val (.int z), .val (.int (2 : Int32))] [(.int (1 : Int32)), (.ref b32), (.ref b32), (.ref b30), (.ref b30)])) _
      refine XS.iloadN X35.here hx rfl (hb hby d_method_5_code_59) rfl ?_
      show Steps _ _ _ (T35.setTop (mkF m 60 #[.val (.int z), .val (.int (2 : Int32))] [(.int z), (.int (1 : Int32)), (.ref b32), (.ref b32), (.ref b30), (.ref b30)])) _
      exact hq)
    obtain ⟨_, T37, L37, X37, ⟨rfl, Nq37, eq37⟩, k37a⟩ := callS' X35 hx hZ (y := (⟨"com/example/huntaway/huntaway/ObligationEqualsPinLaw", "c1", "(I)C"⟩ : MethodName)) hown (hw _ (List.mem_of_getElem? (i := 39) rfl)) (hw _ (List.mem_of_getElem? (i := 40) rfl)) (hw _ (List.mem_of_getElem? (i := 5) rfl)) (hw _ (List.mem_of_getElem? (i := 41) rfl)) (by decide) (backC (W := 5) (rm_c1 l Z a0 hw z h35 n0 (by omega)) hZ (hw _ (List.mem_of_getElem? (i := 41) rfl)) (hw _ (List.mem_of_getElem? (i := 5) rfl)) (by decide) (by decide)) e35 (argsL := [(.int z)]) (rest := [(.int (1 : Int32)), (.ref b32), (.ref b32), (.ref b30), (.ref b30)]) rfl rfl pd_2 rfl (by rw [hml]; rfl) (hb hby d_method_5_code_60) (Nat.le_of_eq rfl) (by decide) (by decide) k36
    have k37 : To p.tables e below S0 (T37.setTop (mkF m 63 #[.val (.int z), .val (.int (2 : Int32))] [(.int (own_c1 z)), (.int (1 : Int32)), (.ref b32), (.ref b32), (.ref b30), (.ref b30)])) := k37a
    have N37 := N35.app Nq37
    have e37 : T37.heap = h35 := eq37
    obtain ⟨cl38, Ar38, q38, S38, M38, G38, J38⟩ := id V35
    obtain ⟨T38, h38, X38, e38, W38, st38⟩ := stC X37 hx hZ e37 Ar38 (j := (1 : Int32)) (inb_of S38 ⟨by decide, by decide⟩) (g := (mkF m 63 #[.val (.int z), .val (.int (2 : Int32))] [(.int (own_c1 z)), (.int (1 : Int32)), (.ref b32), (.ref b32), (.ref b30), (.ref b30)])) rfl rfl (hb hby d_method_5_code_63)
    have k38 : To p.tables e below S0 (T38.setTop (mkF m 64 #[.val (.int z), .val (.int (2 : Int32))] [(.ref b32), (.ref b30), (.ref b30)])) := fun tt hq => k37 tt (st38 tt hq)
    have z38 : h38.size = h35.size := W38.size
    have C38 := C35.trans (CHr.wr W38 (Safe.arv hZ.alike V35 (by decide)) C35.1)
    rw [own_narc (own_c1m z)] at W38
    have V38 : Arv Z h38 b32 c32 .char (2 : Int32) [(.int (own_c0 z)), (.int (own_c1 z))] (.int (0 : Int32)) := Arv.set Ar38 q38 S38 M38 G38 J38 (own_fitc (own_c1m z)) W38 1 rfl (Nat.le_of_ble_eq_true rfl)
    have N38 := Fr.snoc X38 N37 (by omega : n0 ≤ b32)
    have f39 : Old Z n0 h38 := ((((O0.ext E30).ext E32).wr W35 (by omega)).wr W38 (by omega))
    have f40 : Exa Z h38 b30 "java/lang/String" := (((A30.ext E32).wr W35).wr W38)
    have f41 : Fld Z h38 b30 "java/lang/String" "value" "[B" .null := (((F30_value.ext E32).other W35 (Or.inl (adr_ne (by omega)))).other W38 (Or.inl (adr_ne (by omega))))
    have f42 : Fld Z h38 b30 "java/lang/String" "coder" "B" (.int (0 : Int32)) := (((F30_coder.ext E32).other W35 (Or.inl (adr_ne (by omega)))).other W38 (Or.inl (adr_ne (by omega))))
    obtain ⟨_, T43, L43, X43, ⟨rfl, Nq43, Kq43, t43, kt43, gt43, P430, P431, P432, P433⟩, k43a⟩ := callC' X38 hx hZ (y := (⟨"java/lang/String", "<init>", "([C)V"⟩ : MethodName)) rfl hown (hw _ (List.mem_of_getElem? (i := 18) rfl)) (hw _ (List.mem_of_getElem? (i := 19) rfl)) (hw _ (List.mem_of_getElem? (i := 20) rfl)) (by decide) (backC (W := 1) (rm_n1_2 l Z a0 hw zc b30 b32 c32 .null (.int (0 : Int32)) (own_c0 z) (own_c1 z) h38 n0 (by omega) S_c hzc f39 f40 f41 f42 V38 (by omega) (by omega) (by omega) (by omega) (own_c0m z) (own_c1m z)) hZ (hw _ (List.mem_of_getElem? (i := 20) rfl)) (hw _ (List.mem_of_getElem? (i := 16) rfl)) (by decide) (by decide)) e38 (argsL := [(.ref b32)]) (rest := [(.ref b30)]) rfl rfl pd_7 rfl (by rw [hml]; rfl) (hb hby d_method_5_code_64) (Nat.le_of_eq rfl) (by decide) (by decide) k38
    have k43 : To p.tables e below S0 (T43.setTop (mkF m 67 #[.val (.int z), .val (.int (2 : Int32))] [(.ref b30)])) := k43a
    have N43 := N38.app Nq43
    obtain ⟨h43, e43⟩ : ∃ z, T43.heap = z := ⟨_, rfl⟩
    rw [e43] at Kq43 P430 P431 P432 P433
    have z43 : h38.size ≤ h43.size := Kq43.1
    have f44 : Safe Z own_EL vm0 h38 b30 := (Safe.wr W38 (Safe.arv hZ.alike V35 (by decide)) C35.1 (Safe.wr W35 (Safe.arv hZ.alike V32 (by decide)) C32.1 (Safe.ext E32 C30.1 Sf30)))
    have C43 := C38.trans (CHr.keep Kq43 (sfS f44 sf0) C38.1)
    have y43 : @LT.lt Nat instLTNat t43 h43.size := P433.lt
    refine retRefW X43 hx hZ (own_EW hw) hS0 (by omega) C43 e43 hret hlk rfl rfl (hb hby d_method_5_code_67) k43 ?_ (by decide) (by decide)
    exact ⟨_, rfl, N43, (by omega), ((((((Keep.refl h0 []).ext E30).ext E32).wr W35 (Or.inr (by omega))).wr W38 (Or.inr (by omega))).trans Kq43 (allS (Or.inr (by omega)) all0)), P430, _, _, P431, P432, Or.inr (Or.inr ⟨_, _, own_T2 ht3, P433⟩)⟩
theorem d_jdk_43_method_13_code_0 : decode jdk_43_method_13_code 0 = .ok (.aload_n 0, 1) := by decide +kernel
theorem d_jdk_43_method_13_code_1 : decode jdk_43_method_13_code 1 = .ok (.arraylength, 1) := by decide +kernel
theorem d_jdk_43_method_13_code_2 : decode jdk_43_method_13_code 2 = .ok (.aload_n 1, 1) := by decide +kernel
theorem d_jdk_43_method_13_code_3 : decode jdk_43_method_13_code 3 = .ok (.arraylength, 1) := by decide +kernel
theorem d_jdk_43_method_13_code_4 : decode jdk_43_method_13_code 4 = .ok (.if_icmp .ne 30, 3) := by decide +kernel
theorem d_jdk_43_method_13_code_7 : decode jdk_43_method_13_code 7 = .ok (.iconst 0, 1) := by decide +kernel
theorem d_jdk_43_method_13_code_8 : decode jdk_43_method_13_code 8 = .ok (.istore_n 2, 1) := by decide +kernel
theorem d_jdk_43_method_13_code_9 : decode jdk_43_method_13_code 9 = .ok (.iload_n 2, 1) := by decide +kernel
theorem d_jdk_43_method_13_code_10 : decode jdk_43_method_13_code 10 = .ok (.aload_n 0, 1) := by decide +kernel
theorem d_jdk_43_method_13_code_11 : decode jdk_43_method_13_code 11 = .ok (.arraylength, 1) := by decide +kernel
theorem d_jdk_43_method_13_code_12 : decode jdk_43_method_13_code 12 = .ok (.if_icmp .ge 20, 3) := by decide +kernel
theorem d_jdk_43_method_13_code_15 : decode jdk_43_method_13_code 15 = .ok (.aload_n 0, 1) := by decide +kernel
theorem d_jdk_43_method_13_code_16 : decode jdk_43_method_13_code 16 = .ok (.iload_n 2, 1) := by decide +kernel
theorem d_jdk_43_method_13_code_17 : decode jdk_43_method_13_code 17 = .ok (.baload, 1) := by decide +kernel
theorem d_jdk_43_method_13_code_18 : decode jdk_43_method_13_code 18 = .ok (.aload_n 1, 1) := by decide +kernel
theorem d_jdk_43_method_13_code_19 : decode jdk_43_method_13_code 19 = .ok (.iload_n 2, 1) := by decide +kernel
theorem d_jdk_43_method_13_code_20 : decode jdk_43_method_13_code 20 = .ok (.baload, 1) := by decide +kernel
theorem d_jdk_43_method_13_code_21 : decode jdk_43_method_13_code 21 = .ok (.if_icmp .eq 5, 3) := by decide +kernel
theorem d_jdk_43_method_13_code_24 : decode jdk_43_method_13_code 24 = .ok (.iconst 0, 1) := by decide +kernel
theorem d_jdk_43_method_13_code_25 : decode jdk_43_method_13_code 25 = .ok (.ireturn, 1) := by decide +kernel
theorem d_jdk_43_method_13_code_26 : decode jdk_43_method_13_code 26 = .ok (.iinc 2 1, 3) := by decide +kernel
theorem d_jdk_43_method_13_code_29 : decode jdk_43_method_13_code 29 = .ok (.goto (-20), 3) := by decide +kernel
theorem d_jdk_43_method_13_code_32 : decode jdk_43_method_13_code 32 = .ok (.iconst 1, 1) := by decide +kernel
theorem d_jdk_43_method_13_code_33 : decode jdk_43_method_13_code 33 = .ok (.ireturn, 1) := by decide +kernel
theorem d_jdk_43_method_13_code_34 : decode jdk_43_method_13_code 34 = .ok (.iconst 0, 1) := by decide +kernel
theorem d_jdk_43_method_13_code_35 : decode jdk_43_method_13_code 35 = .ok (.ireturn, 1) := by decide +kernel
theorem pn_3 : plainName "java/lang/StringLatin1" = true := by first | (simp [plainName, overriddenIn]; done) | decide +kernel
set_option maxRecDepth 65536 in
set_option maxHeartbeats 40000000 in
theorem rm_lq22 (l : Launch) (Z : State) (a0 : Array Value) (hw : ∀ d ∈ tables_1, d.before a0 Z = true) (ta : Addr) (ka : ClassId) (c0 : Int32) (c1 : Int32) (tb : Addr) (kb : ClassId) (d0 : Int32) (d1 : Int32) (h0 : Heap) (n0 : Nat) (hn0 : n0 ≤ h0.size) (P0 : Arv Z h0 ta ka .byte (2 : Int32) [(.int c0), (.int c1)] (.int 0)) (P1 : Arv Z h0 tb kb .byte (2 : Int32) [(.int d0), (.int d1)] (.int 0)) :
    Con l Z (⟨"java/lang/StringLatin1", "equals", "([B[B)Z"⟩ : MethodName) jdk_43_method_13_code 3 (some .boolean) [] ({ frames := 0, cells := 0, slots := 0, locals := 0 } : Room) #[(.ref ta), (.ref tb)] h0 (fun v h L => v = some (.int (if ([c0, c1] : List Int32) = [d0, d1] then (1 : Int32) else (0 : Int32))) ∧ Fr n0 L ∧ h = h0) := by
  refine enter (Ls := #[.val (.ref ta), .val (.ref tb), .unset]) (plainFor_of_name pn_3) (fun m => by exact entry_eq rfl) ?_
  intro p e s m below meth cd_ s₁ S0 hx hby hml hret hlk hnm hown hZ X0 e0 k0
  have N0 := Fr.nil n0
  have k1 : To p.tables e below S0 (s₁.setTop (mkF m 1 #[.val (.ref ta), .val (.ref tb), .unset] [(.ref ta)])) := fun tt hq => k0 tt (by
    show Steps _ _ _ (s₁.setTop (mkF m 0 #[.val (.ref ta), .val (.ref tb), .unset] [])) _
    refine XS.aloadN X0.here hx rfl (hb hby d_jdk_43_method_13_code_0) rfl rfl ?_
    show Steps _ _ _ (s₁.setTop (mkF m 1 #[.val (.ref ta), .val (.ref tb), .unset] [(.ref ta)])) _
    exact hq)
  obtain ⟨cl2, Ar2, -, S2, M2, -, -⟩ := id P0
  have st2 := fun tt => X0.arraylength hx (by rw [e0]; exact Ar2.1) (State.isArrayOf_alike hZ.alike Ar2.2.1) (g := (mkF m 1 #[.val (.ref ta), .val (.ref tb), .unset] [(.ref ta)])) rfl rfl (hb hby d_jdk_43_method_13_code_1) tt
  rw [len_of S2 M2] at st2
  have k2 : To p.tables e below S0 (s₁.setTop (mkF m 2 #[.val (.ref ta), .val (.ref tb), .unset] [(.int (2 : Int32))])) := fun tt hq => k1 tt (st2 tt hq)
  have k3 : To p.tables e below S0 (s₁.setTop (mkF m 3 #[.val (.ref ta), .val (.ref tb), .unset] [(.ref tb), (.int (2 : Int32))])) := fun tt hq => k2 tt (by
    show Steps _ _ _ (s₁.setTop (mkF m 2 #[.val (.ref ta), .val (.ref tb), .unset] [(.int (2 : Int32))])) _
    refine XS.aloadN X0.here hx rfl (hb hby d_jdk_43_method_13_code_2) rfl rfl ?_
    show Steps _ _ _ (s₁.setTop (mkF m 3 #[.val (.ref ta), .val (.ref tb), .unset] [(.ref tb), (.int (2 : Int32))])) _
    exact hq)
  obtain ⟨cl4, Ar4, -, S4, M4, -, -⟩ := id P1
  have st4 := fun tt => X0.arraylength hx (by rw [e0]; exact Ar4.1) (State.isArrayOf_alike hZ.alike Ar4.2.1) (g := (mkF m 3 #[.val (.ref ta), .val (.ref tb), .unset] [(.ref tb), (.int (2 : Int32))])) rfl rfl (hb hby d_jdk_43_method_13_code_3) tt
  rw [len_of S4 M4] at st4
  have k4 : To p.tables e below S0 (s₁.setTop (mkF m 4 #[.val (.ref ta), .val (.ref tb), .unset] [(.int (2 : Int32)), (.int (2 : Int32))])) := fun tt hq => k3 tt (st4 tt hq)
  have k5 : To p.tables e below S0 (s₁.setTop (mkF m 11 #[.val (.ref ta), .val (.ref tb), .val (.int (0 : Int32))] [(.ref ta), (.int (0 : Int32))])) := fun tt hq => k4 tt (by
    show Steps _ _ _ (s₁.setTop (mkF m 4 #[.val (.ref ta), .val (.ref tb), .unset] [(.int (2 : Int32)), (.int (2 : Int32))])) _
    refine XS.icmpNo X0.here hx rfl (hb hby d_jdk_43_method_13_code_4) rfl (teq (by decide)).2 ?_
    show Steps _ _ _ (s₁.setTop (mkF m 7 #[.val (.ref ta), .val (.ref tb), .unset] [])) _
    refine XS.iconst X0.here hx rfl (hb hby d_jdk_43_method_13_code_7) ?_
    show Steps _ _ _ (s₁.setTop (mkF m 8 #[.val (.ref ta), .val (.ref tb), .unset] [(.int (0 : Int32))])) _
    refine XS.istoreN X0.here hx rfl (hb hby d_jdk_43_method_13_code_8) rfl (l' := #[.val (.ref ta), .val (.ref tb), .val (.int (0 : Int32))]) rfl ?_
    show Steps _ _ _ (s₁.setTop (mkF m 9 #[.val (.ref ta), .val (.ref tb), .val (.int (0 : Int32))] [])) _
    refine XS.iloadN X0.here hx rfl (hb hby d_jdk_43_method_13_code_9) rfl ?_
    show Steps _ _ _ (s₁.setTop (mkF m 10 #[.val (.ref ta), .val (.ref tb), .val (.int (0 : Int32))] [(.int (0 : Int32))])) _
    refine XS.aloadN X0.here hx rfl (hb hby d_jdk_43_method_13_code_10) rfl rfl ?_
    show Steps _ _ _ (s₁.setTop (mkF m 11 #[.val (.ref ta), .val (.ref tb), .val (.int (0 : Int32))] [(.ref ta), (.int (0 : Int32))])) _
    exact hq)
  obtain ⟨cl6, Ar6, -, S6, M6, -, -⟩ := id P0
  have st6 := fun tt => X0.arraylength hx (by rw [e0]; exact Ar6.1) (State.isArrayOf_alike hZ.alike Ar6.2.1) (g := (mkF m 11 #[.val (.ref ta), .val (.ref tb), .val (.int (0 : Int32))] [(.ref ta), (.int (0 : Int32))])) rfl rfl (hb hby d_jdk_43_method_13_code_11) tt
  rw [len_of S6 M6] at st6
  have k6 : To p.tables e below S0 (s₁.setTop (mkF m 12 #[.val (.ref ta), .val (.ref tb), .val (.int (0 : Int32))] [(.int (2 : Int32)), (.int (0 : Int32))])) := fun tt hq => k5 tt (st6 tt hq)
  have k7 : To p.tables e below S0 (s₁.setTop (mkF m 17 #[.val (.ref ta), .val (.ref tb), .val (.int (0 : Int32))] [(.int (0 : Int32)), (.ref ta)])) := fun tt hq => k6 tt (by
    show Steps _ _ _ (s₁.setTop (mkF m 12 #[.val (.ref ta), .val (.ref tb), .val (.int (0 : Int32))] [(.int (2 : Int32)), (.int (0 : Int32))])) _
    refine XS.icmpNo X0.here hx rfl (hb hby d_jdk_43_method_13_code_12) rfl (tlt (by decide)).2.1 ?_
    show Steps _ _ _ (s₁.setTop (mkF m 15 #[.val (.ref ta), .val (.ref tb), .val (.int (0 : Int32))] [])) _
    refine XS.aloadN X0.here hx rfl (hb hby d_jdk_43_method_13_code_15) rfl rfl ?_
    show Steps _ _ _ (s₁.setTop (mkF m 16 #[.val (.ref ta), .val (.ref tb), .val (.int (0 : Int32))] [(.ref ta)])) _
    refine XS.iloadN X0.here hx rfl (hb hby d_jdk_43_method_13_code_16) rfl ?_
    show Steps _ _ _ (s₁.setTop (mkF m 17 #[.val (.ref ta), .val (.ref tb), .val (.int (0 : Int32))] [(.int (0 : Int32)), (.ref ta)])) _
    exact hq)
  obtain ⟨cl8, Ar8, -, S8, -, G8, -⟩ := id P0
  have hi8 := inb_of (j := (0 : Int32)) S8 ⟨by decide, by decide⟩
  have st8 := fun tt => X0.baloadBytes hx (j := (0 : Int32)) (v := (.int c0)) (by rw [e0]; exact Ar8.1) (State.isArrayOf_alike hZ.alike Ar8.2.1) Ar8.2.2 hi8 (G8.at hi8 rfl) (g := (mkF m 17 #[.val (.ref ta), .val (.ref tb), .val (.int (0 : Int32))] [(.int (0 : Int32)), (.ref ta)])) rfl rfl (hb hby d_jdk_43_method_13_code_17) tt
  have k8 : To p.tables e below S0 (s₁.setTop (mkF m 18 #[.val (.ref ta), .val (.ref tb), .val (.int (0 : Int32))] [(.int c0)])) := fun tt hq => k7 tt (st8 tt hq)
  have k9 : To p.tables e below S0 (s₁.setTop (mkF m 20 #[.val (.ref ta), .val (.ref tb), .val (.int (0 : Int32))] [(.int (0 : Int32)), (.ref tb), (.int c0)])) := fun tt hq => k8 tt (by
    show Steps _ _ _ (s₁.setTop (mkF m 18 #[.val (.ref ta), .val (.ref tb), .val (.int (0 : Int32))] [(.int c0)])) _
    refine XS.aloadN X0.here hx rfl (hb hby d_jdk_43_method_13_code_18) rfl rfl ?_
    show Steps _ _ _ (s₁.setTop (mkF m 19 #[.val (.ref ta), .val (.ref tb), .val (.int (0 : Int32))] [(.ref tb), (.int c0)])) _
    refine XS.iloadN X0.here hx rfl (hb hby d_jdk_43_method_13_code_19) rfl ?_
    show Steps _ _ _ (s₁.setTop (mkF m 20 #[.val (.ref ta), .val (.ref tb), .val (.int (0 : Int32))] [(.int (0 : Int32)), (.ref tb), (.int c0)])) _
    exact hq)
  obtain ⟨cl10, Ar10, -, S10, -, G10, -⟩ := id P1
  have hi10 := inb_of (j := (0 : Int32)) S10 ⟨by decide, by decide⟩
  have st10 := fun tt => X0.baloadBytes hx (j := (0 : Int32)) (v := (.int d0)) (by rw [e0]; exact Ar10.1) (State.isArrayOf_alike hZ.alike Ar10.2.1) Ar10.2.2 hi10 (G10.at hi10 rfl) (g := (mkF m 20 #[.val (.ref ta), .val (.ref tb), .val (.int (0 : Int32))] [(.int (0 : Int32)), (.ref tb), (.int c0)])) rfl rfl (hb hby d_jdk_43_method_13_code_20) tt
  have k10 : To p.tables e below S0 (s₁.setTop (mkF m 21 #[.val (.ref ta), .val (.ref tb), .val (.int (0 : Int32))] [(.int d0), (.int c0)])) := fun tt hq => k9 tt (st10 tt hq)
  by_cases hc21_11 : c0 = d0
  · -- pc 21, holds
    have k12 : To p.tables e below S0 (s₁.setTop (mkF m 11 #[.val (.ref ta), .val (.ref tb), .val (.int (1 : Int32))] [(.ref ta), (.int (1 : Int32))])) := fun tt hq => k10 tt (by
      show Steps _ _ _ (s₁.setTop (mkF m 21 #[.val (.ref ta), .val (.ref tb), .val (.int (0 : Int32))] [(.int d0), (.int c0)])) _
      refine XS.icmpYes X0.here hx rfl (pc0 := 21) (pc' := 26) rfl (hb hby d_jdk_43_method_13_code_21) rfl (teq hc21_11).1 (by decide) (by decide) ?_
      show Steps _ _ _ (s₁.setTop (mkF m 26 #[.val (.ref ta), .val (.ref tb), .val (.int (0 : Int32))] [])) _
      refine XS.iinc X0.here hx rfl (hb hby d_jdk_43_method_13_code_26) rfl (l' := #[.val (.ref ta), .val (.ref tb), .val (.int (1 : Int32))]) rfl ?_
      show Steps _ _ _ (s₁.setTop (mkF m 29 #[.val (.ref ta), .val (.ref tb), .val (.int (1 : Int32))] [])) _
      refine XS.goto X0.here hx rfl (pc0 := 29) (pc' := 9) rfl (hb hby d_jdk_43_method_13_code_29) (by decide) (by decide) ?_
      show Steps _ _ _ (s₁.setTop (mkF m 9 #[.val (.ref ta), .val (.ref tb), .val (.int (1 : Int32))] [])) _
      refine XS.iloadN X0.here hx rfl (hb hby d_jdk_43_method_13_code_9) rfl ?_
      show Steps _ _ _ (s₁.setTop (mkF m 10 #[.val (.ref ta), .val (.ref tb), .val (.int (1 : Int32))] [(.int (1 : Int32))])) _
      refine XS.aloadN X0.here hx rfl (hb hby d_jdk_43_method_13_code_10) rfl rfl ?_
      show Steps _ _ _ (s₁.setTop (mkF m 11 #[.val (.ref ta), .val (.ref tb), .val (.int (1 : Int32))] [(.ref ta), (.int (1 : Int32))])) _
      exact hq)
    obtain ⟨cl13, Ar13, -, S13, M13, -, -⟩ := id P0
    have st13 := fun tt => X0.arraylength hx (by rw [e0]; exact Ar13.1) (State.isArrayOf_alike hZ.alike Ar13.2.1) (g := (mkF m 11 #[.val (.ref ta), .val (.ref tb), .val (.int (1 : Int32))] [(.ref ta), (.int (1 : Int32))])) rfl rfl (hb hby d_jdk_43_method_13_code_11) tt
    rw [len_of S13 M13] at st13
    have k13 : To p.tables e below S0 (s₁.setTop (mkF m 12 #[.val (.ref ta), .val (.ref tb), .val (.int (1 : Int32))] [(.int (2 : Int32)), (.int (1 : Int32))])) := fun tt hq => k12 tt (st13 tt hq)
    have k14 : To p.tables e below S0 (s₁.setTop (mkF m 17 #[.val (.ref ta), .val (.ref tb), .val (.int (1 : Int32))] [(.int (1 : Int32)), (.ref ta)])) := fun tt hq => k13 tt (by
      show Steps _ _ _ (s₁.setTop (mkF m 12 #[.val (.ref ta), .val (.ref tb), .val (.int (1 : Int32))] [(.int (2 : Int32)), (.int (1 : Int32))])) _
      refine XS.icmpNo X0.here hx rfl (hb hby d_jdk_43_method_13_code_12) rfl (tlt (by decide)).2.1 ?_
      show Steps _ _ _ (s₁.setTop (mkF m 15 #[.val (.ref ta), .val (.ref tb), .val (.int (1 : Int32))] [])) _
      refine XS.aloadN X0.here hx rfl (hb hby d_jdk_43_method_13_code_15) rfl rfl ?_
      show Steps _ _ _ (s₁.setTop (mkF m 16 #[.val (.ref ta), .val (.ref tb), .val (.int (1 : Int32))] [(.ref ta)])) _
      refine XS.iloadN X0.here hx rfl (hb hby d_jdk_43_method_13_code_16) rfl ?_
      show Steps _ _ _ (s₁.setTop (mkF m 17 #[.val (.ref ta), .val (.ref tb), .val (.int (1 : Int32))] [(.int (1 : Int32)), (.ref ta)])) _
      exact hq)
    obtain ⟨cl15, Ar15, -, S15, -, G15, -⟩ := id P0
    have hi15 := inb_of (j := (1 : Int32)) S15 ⟨by decide, by decide⟩
    have st15 := fun tt => X0.baloadBytes hx (j := (1 : Int32)) (v := (.int c1)) (by rw [e0]; exact Ar15.1) (State.isArrayOf_alike hZ.alike Ar15.2.1) Ar15.2.2 hi15 (G15.at hi15 rfl) (g := (mkF m 17 #[.val (.ref ta), .val (.ref tb), .val (.int (1 : Int32))] [(.int (1 : Int32)), (.ref ta)])) rfl rfl (hb hby d_jdk_43_method_13_code_17) tt
    have k15 : To p.tables e below S0 (s₁.setTop (mkF m 18 #[.val (.ref ta), .val (.ref tb), .val (.int (1 : Int32))] [(.int c1)])) := fun tt hq => k14 tt (st15 tt hq)
    have k16 : To p.tables e below S0 (s₁.setTop (mkF m 20 #[.val (.ref ta), .val (.ref tb), .val (.int (1 : Int32))] [(.int (1 : Int32)), (.ref tb), (.int c1)])) := fun tt hq => k15 tt (by
      show Steps _ _ _ (s₁.setTop (mkF m 18 #[.val (.ref ta), .val (.ref tb), .val (.int (1 : Int32))] [(.int c1)])) _
      refine XS.aloadN X0.here hx rfl (hb hby d_jdk_43_method_13_code_18) rfl rfl ?_
      show Steps _ _ _ (s₁.setTop (mkF m 19 #[.val (.ref ta), .val (.ref tb), .val (.int (1 : Int32))] [(.ref tb), (.int c1)])) _
      refine XS.iloadN X0.here hx rfl (hb hby d_jdk_43_method_13_code_19) rfl ?_
      show Steps _ _ _ (s₁.setTop (mkF m 20 #[.val (.ref ta), .val (.ref tb), .val (.int (1 : Int32))] [(.int (1 : Int32)), (.ref tb), (.int c1)])) _
      exact hq)
    obtain ⟨cl17, Ar17, -, S17, -, G17, -⟩ := id P1
    have hi17 := inb_of (j := (1 : Int32)) S17 ⟨by decide, by decide⟩
    have st17 := fun tt => X0.baloadBytes hx (j := (1 : Int32)) (v := (.int d1)) (by rw [e0]; exact Ar17.1) (State.isArrayOf_alike hZ.alike Ar17.2.1) Ar17.2.2 hi17 (G17.at hi17 rfl) (g := (mkF m 20 #[.val (.ref ta), .val (.ref tb), .val (.int (1 : Int32))] [(.int (1 : Int32)), (.ref tb), (.int c1)])) rfl rfl (hb hby d_jdk_43_method_13_code_20) tt
    have k17 : To p.tables e below S0 (s₁.setTop (mkF m 21 #[.val (.ref ta), .val (.ref tb), .val (.int (1 : Int32))] [(.int d1), (.int c1)])) := fun tt hq => k16 tt (st17 tt hq)
    by_cases hc21_18 : c1 = d1
    · -- pc 21, holds
      have k19 : To p.tables e below S0 (s₁.setTop (mkF m 11 #[.val (.ref ta), .val (.ref tb), .val (.int (2 : Int32))] [(.ref ta), (.int (2 : Int32))])) := fun tt hq => k17 tt (by
        show Steps _ _ _ (s₁.setTop (mkF m 21 #[.val (.ref ta), .val (.ref tb), .val (.int (1 : Int32))] [(.int d1), (.int c1)])) _
        refine XS.icmpYes X0.here hx rfl (pc0 := 21) (pc' := 26) rfl (hb hby d_jdk_43_method_13_code_21) rfl (teq hc21_18).1 (by decide) (by decide) ?_
        show Steps _ _ _ (s₁.setTop (mkF m 26 #[.val (.ref ta), .val (.ref tb), .val (.int (1 : Int32))] [])) _
        refine XS.iinc X0.here hx rfl (hb hby d_jdk_43_method_13_code_26) rfl (l' := #[.val (.ref ta), .val (.ref tb), .val (.int (2 : Int32))]) rfl ?_
        show Steps _ _ _ (s₁.setTop (mkF m 29 #[.val (.ref ta), .val (.ref tb), .val (.int (2 : Int32))] [])) _
        refine XS.goto X0.here hx rfl (pc0 := 29) (pc' := 9) rfl (hb hby d_jdk_43_method_13_code_29) (by decide) (by decide) ?_
        show Steps _ _ _ (s₁.setTop (mkF m 9 #[.val (.ref ta), .val (.ref tb), .val (.int (2 : Int32))] [])) _
        refine XS.iloadN X0.here hx rfl (hb hby d_jdk_43_method_13_code_9) rfl ?_
        show Steps _ _ _ (s₁.setTop (mkF m 10 #[.val (.ref ta), .val (.ref tb), .val (.int (2 : Int32))] [(.int (2 : Int32))])) _
        refine XS.aloadN X0.here hx rfl (hb hby d_jdk_43_method_13_code_10) rfl rfl ?_
        show Steps _ _ _ (s₁.setTop (mkF m 11 #[.val (.ref ta), .val (.ref tb), .val (.int (2 : Int32))] [(.ref ta), (.int (2 : Int32))])) _
        exact hq)
      obtain ⟨cl20, Ar20, -, S20, M20, -, -⟩ := id P0
      have st20 := fun tt => X0.arraylength hx (by rw [e0]; exact Ar20.1) (State.isArrayOf_alike hZ.alike Ar20.2.1) (g := (mkF m 11 #[.val (.ref ta), .val (.ref tb), .val (.int (2 : Int32))] [(.ref ta), (.int (2 : Int32))])) rfl rfl (hb hby d_jdk_43_method_13_code_11) tt
      rw [len_of S20 M20] at st20
      have k20 : To p.tables e below S0 (s₁.setTop (mkF m 12 #[.val (.ref ta), .val (.ref tb), .val (.int (2 : Int32))] [(.int (2 : Int32)), (.int (2 : Int32))])) := fun tt hq => k19 tt (st20 tt hq)
      have k21 : To p.tables e below S0 (s₁.setTop (mkF m 33 #[.val (.ref ta), .val (.ref tb), .val (.int (2 : Int32))] [(.int (1 : Int32))])) := fun tt hq => k20 tt (by
        show Steps _ _ _ (s₁.setTop (mkF m 12 #[.val (.ref ta), .val (.ref tb), .val (.int (2 : Int32))] [(.int (2 : Int32)), (.int (2 : Int32))])) _
        refine XS.icmpYes X0.here hx rfl (pc0 := 12) (pc' := 32) rfl (hb hby d_jdk_43_method_13_code_12) rfl (flt (by decide)).2.1 (by decide) (by decide) ?_
        show Steps _ _ _ (s₁.setTop (mkF m 32 #[.val (.ref ta), .val (.ref tb), .val (.int (2 : Int32))] [])) _
        refine XS.iconst X0.here hx rfl (hb hby d_jdk_43_method_13_code_32) ?_
        show Steps _ _ _ (s₁.setTop (mkF m 33 #[.val (.ref ta), .val (.ref tb), .val (.int (2 : Int32))] [(.int (1 : Int32))])) _
        exact hq)
      have hE := e0
      refine retInt X0 hx hret hlk (by simp) rfl (hb hby d_jdk_43_method_13_code_33) k21 ?_ (by decide) (by decide)
      try rw [hE]
      exact ⟨congrArg (fun z => some (Value.int z)) (Eq.symm (if_pos (by rw [hc21_11, hc21_18]))), N0, rfl⟩
    · -- pc 21, holds not
      have k22 : To p.tables e below S0 (s₁.setTop (mkF m 25 #[.val (.ref ta), .val (.ref tb), .val (.int (1 : Int32))] [(.int (0 : Int32))])) := fun tt hq => k17 tt (by
        show Steps _ _ _ (s₁.setTop (mkF m 21 #[.val (.ref ta), .val (.ref tb), .val (.int (1 : Int32))] [(.int d1), (.int c1)])) _
        refine XS.icmpNo X0.here hx rfl (hb hby d_jdk_43_method_13_code_21) rfl (feq hc21_18).1 ?_
        show Steps _ _ _ (s₁.setTop (mkF m 24 #[.val (.ref ta), .val (.ref tb), .val (.int (1 : Int32))] [])) _
        refine XS.iconst X0.here hx rfl (hb hby d_jdk_43_method_13_code_24) ?_
        show Steps _ _ _ (s₁.setTop (mkF m 25 #[.val (.ref ta), .val (.ref tb), .val (.int (1 : Int32))] [(.int (0 : Int32))])) _
        exact hq)
      have hE := e0
      refine retInt X0 hx hret hlk (by simp) rfl (hb hby d_jdk_43_method_13_code_25) k22 ?_ (by decide) (by decide)
      try rw [hE]
      exact ⟨congrArg (fun z => some (Value.int z)) (Eq.symm (if_neg (fun q => hc21_18 (List.cons.inj (List.cons.inj q).2).1))), N0, rfl⟩
  · -- pc 21, holds not
    have k23 : To p.tables e below S0 (s₁.setTop (mkF m 25 #[.val (.ref ta), .val (.ref tb), .val (.int (0 : Int32))] [(.int (0 : Int32))])) := fun tt hq => k10 tt (by
      show Steps _ _ _ (s₁.setTop (mkF m 21 #[.val (.ref ta), .val (.ref tb), .val (.int (0 : Int32))] [(.int d0), (.int c0)])) _
      refine XS.icmpNo X0.here hx rfl (hb hby d_jdk_43_method_13_code_21) rfl (feq hc21_11).1 ?_
      show Steps _ _ _ (s₁.setTop (mkF m 24 #[.val (.ref ta), .val (.ref tb), .val (.int (0 : Int32))] [])) _
      refine XS.iconst X0.here hx rfl (hb hby d_jdk_43_method_13_code_24) ?_
      show Steps _ _ _ (s₁.setTop (mkF m 25 #[.val (.ref ta), .val (.ref tb), .val (.int (0 : Int32))] [(.int (0 : Int32))])) _
      exact hq)
    have hE := e0
    refine retInt X0 hx hret hlk (by simp) rfl (hb hby d_jdk_43_method_13_code_25) k23 ?_ (by decide) (by decide)
    try rw [hE]
    exact ⟨congrArg (fun z => some (Value.int z)) (Eq.symm (if_neg (fun q => hc21_11 (List.cons.inj q).1))), N0, rfl⟩
theorem d_jdk_42_method_66_code_0 : decode jdk_42_method_66_code 0 = .ok (.aload_n 0, 1) := by decide +kernel
theorem d_jdk_42_method_66_code_1 : decode jdk_42_method_66_code 1 = .ok (.aload_n 1, 1) := by decide +kernel
theorem d_jdk_42_method_66_code_2 : decode jdk_42_method_66_code 2 = .ok (.if_acmp .ne 5, 3) := by decide +kernel
theorem d_jdk_42_method_66_code_5 : decode jdk_42_method_66_code 5 = .ok (.iconst 1, 1) := by decide +kernel
theorem d_jdk_42_method_66_code_6 : decode jdk_42_method_66_code 6 = .ok (.ireturn, 1) := by decide +kernel
theorem d_jdk_42_method_66_code_7 : decode jdk_42_method_66_code 7 = .ok (.aload_n 1, 1) := by decide +kernel
theorem d_jdk_42_method_66_code_8 : decode jdk_42_method_66_code 8 = .ok (.instanceof 10, 3) := by decide +kernel
theorem d_jdk_42_method_66_code_11 : decode jdk_42_method_66_code 11 = .ok (.ifCond .eq 43, 3) := by decide +kernel
theorem d_jdk_42_method_66_code_14 : decode jdk_42_method_66_code 14 = .ok (.aload_n 1, 1) := by decide +kernel
theorem d_jdk_42_method_66_code_15 : decode jdk_42_method_66_code 15 = .ok (.checkcast 10, 3) := by decide +kernel
theorem d_jdk_42_method_66_code_18 : decode jdk_42_method_66_code 18 = .ok (.astore_n 2, 1) := by decide +kernel
theorem d_jdk_42_method_66_code_19 : decode jdk_42_method_66_code 19 = .ok (.getstatic 38, 3) := by decide +kernel
theorem d_jdk_42_method_66_code_22 : decode jdk_42_method_66_code 22 = .ok (.ifCond .eq 14, 3) := by decide +kernel
theorem d_jdk_42_method_66_code_25 : decode jdk_42_method_66_code 25 = .ok (.aload_n 0, 1) := by decide +kernel
theorem d_jdk_42_method_66_code_26 : decode jdk_42_method_66_code 26 = .ok (.getfield 15, 3) := by decide +kernel
theorem d_jdk_42_method_66_code_29 : decode jdk_42_method_66_code 29 = .ok (.aload_n 2, 1) := by decide +kernel
theorem d_jdk_42_method_66_code_30 : decode jdk_42_method_66_code 30 = .ok (.getfield 15, 3) := by decide +kernel
theorem d_jdk_42_method_66_code_33 : decode jdk_42_method_66_code 33 = .ok (.if_icmp .ne 21, 3) := by decide +kernel
theorem d_jdk_42_method_66_code_36 : decode jdk_42_method_66_code 36 = .ok (.aload_n 0, 1) := by decide +kernel
theorem d_jdk_42_method_66_code_37 : decode jdk_42_method_66_code 37 = .ok (.getfield 9, 3) := by decide +kernel
theorem d_jdk_42_method_66_code_40 : decode jdk_42_method_66_code 40 = .ok (.aload_n 2, 1) := by decide +kernel
theorem d_jdk_42_method_66_code_41 : decode jdk_42_method_66_code 41 = .ok (.getfield 9, 3) := by decide +kernel
theorem d_jdk_42_method_66_code_44 : decode jdk_42_method_66_code 44 = .ok (.invokestatic 541, 3) := by decide +kernel
theorem d_jdk_42_method_66_code_47 : decode jdk_42_method_66_code 47 = .ok (.ifCond .eq 7, 3) := by decide +kernel
theorem d_jdk_42_method_66_code_50 : decode jdk_42_method_66_code 50 = .ok (.iconst 1, 1) := by decide +kernel
theorem d_jdk_42_method_66_code_51 : decode jdk_42_method_66_code 51 = .ok (.goto 4, 3) := by decide +kernel
theorem d_jdk_42_method_66_code_54 : decode jdk_42_method_66_code 54 = .ok (.iconst 0, 1) := by decide +kernel
theorem d_jdk_42_method_66_code_55 : decode jdk_42_method_66_code 55 = .ok (.ireturn, 1) := by decide +kernel
theorem pd_8 : parseMethodDescriptor "([B[B)Z" = some ⟨[(.array .byte), (.array .byte)], some .boolean⟩ := by decide +kernel
set_option maxRecDepth 65536 in
set_option maxHeartbeats 40000000 in
theorem rm_sq22 (l : Launch) (Z : State) (a0 : Array Value) (hw : ∀ d ∈ tables_1, d.before a0 Z = true) (zc : Int32) (a : Addr) (b : Addr) (ta : Addr) (ka : ClassId) (c0 : Int32) (c1 : Int32) (tb : Addr) (kb : ClassId) (d0 : Int32) (d1 : Int32) (h0 : Heap) (n0 : Nat) (hn0 : n0 ≤ h0.size) (S_c : Sta Z Z.heap "java/lang/String" "COMPACT_STRINGS" "Z" (.int zc)) (hzc : ¬ zc = (0 : Int32)) (O0 : Old Z n0 h0) (hab : ¬ a = b) (P0 : Exa Z h0 a "java/lang/String") (P1 : Fld Z h0 a "java/lang/String" "value" "[B" (.ref ta)) (P2 : Fld Z h0 a "java/lang/String" "coder" "B" (.int (0 : Int32))) (P3 : Arv Z h0 ta ka .byte (2 : Int32) [(.int c0), (.int c1)] (.int 0)) (R0 : Exa Z h0 b "java/lang/String") (R1 : Fld Z h0 b "java/lang/String" "value" "[B" (.ref tb)) (R2 : Fld Z h0 b "java/lang/String" "coder" "B" (.int (0 : Int32))) (R3 : Arv Z h0 tb kb .byte (2 : Int32) [(.int d0), (.int d1)] (.int 0)) :
    Con l Z (⟨"java/lang/String", "equals", "(Ljava/lang/Object;)Z"⟩ : MethodName) jdk_42_method_66_code 3 (some .boolean) [] ({ frames := 1, cells := 0, slots := 0, locals := 14 } : Room) #[(.ref a), (.ref b)] h0 (fun v h L => v = some (.int (if ([c0, c1] : List Int32) = [d0, d1] then (1 : Int32) else (0 : Int32))) ∧ Fr n0 L ∧ h = h0) := by
  refine enter (Ls := #[.val (.ref a), .val (.ref b), .unset]) (plainFor_of_name pn_2) (fun m => by exact entry_eq rfl) ?_
  intro p e s m below meth cd_ s₁ S0 hx hby hml hret hlk hnm hown hZ X0 e0 k0
  have N0 := Fr.nil n0
  have k1 : To p.tables e below S0 (s₁.setTop (mkF m 8 #[.val (.ref a), .val (.ref b), .unset] [(.ref b)])) := fun tt hq => k0 tt (by
    show Steps _ _ _ (s₁.setTop (mkF m 0 #[.val (.ref a), .val (.ref b), .unset] [])) _
    refine XS.aloadN X0.here hx rfl (hb hby d_jdk_42_method_66_code_0) rfl rfl ?_
    show Steps _ _ _ (s₁.setTop (mkF m 1 #[.val (.ref a), .val (.ref b), .unset] [(.ref a)])) _
    refine XS.aloadN X0.here hx rfl (hb hby d_jdk_42_method_66_code_1) rfl rfl ?_
    show Steps _ _ _ (s₁.setTop (mkF m 2 #[.val (.ref a), .val (.ref b), .unset] [(.ref b), (.ref a)])) _
    refine Jvm.RoadKit.acmp (g := (mkF m 2 #[.val (.ref a), .val (.ref b), .unset] [(.ref b), (.ref a)])) X0 hx rfl rfl rfl (pc0 := 2) (pc' := 7) (same := false) rfl (hb hby d_jdk_42_method_66_code_2) rfl (decide_eq_false fun q => hab (Value.ref.inj q)) (by decide) (by decide) ?_
    show Steps _ _ _ (s₁.setTop (mkF m 7 #[.val (.ref a), .val (.ref b), .unset] [])) _
    refine XS.aloadN X0.here hx rfl (hb hby d_jdk_42_method_66_code_7) rfl rfl ?_
    show Steps _ _ _ (s₁.setTop (mkF m 8 #[.val (.ref a), .val (.ref b), .unset] [(.ref b)])) _
    exact hq)
  obtain ⟨T2, X2, e2, st2⟩ := instY X0 hx hZ hown (hw _ (List.mem_of_getElem? (i := 85) rfl)) e0 (Ins.self R0) (g := (mkF m 8 #[.val (.ref a), .val (.ref b), .unset] [(.ref b)])) rfl rfl (hb hby d_jdk_42_method_66_code_8)
  have k2 : To p.tables e below S0 (T2.setTop (mkF m 11 #[.val (.ref a), .val (.ref b), .unset] [(.int (1 : Int32))])) := fun tt hq => k1 tt (st2 tt hq)
  have k3 : To p.tables e below S0 (T2.setTop (mkF m 15 #[.val (.ref a), .val (.ref b), .unset] [(.ref b)])) := fun tt hq => k2 tt (by
    show Steps _ _ _ (T2.setTop (mkF m 11 #[.val (.ref a), .val (.ref b), .unset] [(.int (1 : Int32))])) _
    refine XS.ifNo X2.here hx rfl (hb hby d_jdk_42_method_66_code_11) rfl ((if0 _ _).trans (feq (by decide)).1) ?_
    show Steps _ _ _ (T2.setTop (mkF m 14 #[.val (.ref a), .val (.ref b), .unset] [])) _
    refine XS.aloadN X2.here hx rfl (hb hby d_jdk_42_method_66_code_14) rfl rfl ?_
    show Steps _ _ _ (T2.setTop (mkF m 15 #[.val (.ref a), .val (.ref b), .unset] [(.ref b)])) _
    exact hq)
  obtain ⟨T4, X4, e4, st4⟩ := castY X2 hx hZ hown (hw _ (List.mem_of_getElem? (i := 85) rfl)) e2 (Ins.self R0) (g := (mkF m 15 #[.val (.ref a), .val (.ref b), .unset] [(.ref b)])) rfl rfl (hb hby d_jdk_42_method_66_code_15)
  have k4 : To p.tables e below S0 (T4.setTop (mkF m 18 #[.val (.ref a), .val (.ref b), .unset] [(.ref b)])) := fun tt hq => k3 tt (st4 tt hq)
  have k5 : To p.tables e below S0 (T4.setTop (mkF m 19 #[.val (.ref a), .val (.ref b), .val (.ref b)] [])) := fun tt hq => k4 tt (by
    show Steps _ _ _ (T4.setTop (mkF m 18 #[.val (.ref a), .val (.ref b), .unset] [(.ref b)])) _
    refine XS.astoreN X4.here hx rfl (hb hby d_jdk_42_method_66_code_18) rfl rfl (l' := #[.val (.ref a), .val (.ref b), .val (.ref b)]) rfl ?_
    show Steps _ _ _ (T4.setTop (mkF m 19 #[.val (.ref a), .val (.ref b), .val (.ref b)] [])) _
    exact hq)
  obtain ⟨T6, X6, e6, st6⟩ := getS2 X4 hx hZ hown (host := "") (Or.inl (hw _ (List.mem_of_getElem? (i := 42) rfl))) Via.refl e4 (staOld S_c O0) (g := (mkF m 19 #[.val (.ref a), .val (.ref b), .val (.ref b)] [])) rfl (hb hby d_jdk_42_method_66_code_19)
  have k6 : To p.tables e below S0 (T6.setTop (mkF m 22 #[.val (.ref a), .val (.ref b), .val (.ref b)] [(.int zc)])) := fun tt hq => k5 tt (st6 tt hq)
  have k7 : To p.tables e below S0 (T6.setTop (mkF m 26 #[.val (.ref a), .val (.ref b), .val (.ref b)] [(.ref a)])) := fun tt hq => k6 tt (by
    show Steps _ _ _ (T6.setTop (mkF m 22 #[.val (.ref a), .val (.ref b), .val (.ref b)] [(.int zc)])) _
    refine XS.ifNo X6.here hx rfl (hb hby d_jdk_42_method_66_code_22) rfl ((if0 _ _).trans (feq hzc).1) ?_
    show Steps _ _ _ (T6.setTop (mkF m 25 #[.val (.ref a), .val (.ref b), .val (.ref b)] [])) _
    refine XS.aloadN X6.here hx rfl (hb hby d_jdk_42_method_66_code_25) rfl rfl ?_
    show Steps _ _ _ (T6.setTop (mkF m 26 #[.val (.ref a), .val (.ref b), .val (.ref b)] [(.ref a)])) _
    exact hq)
  obtain ⟨T8, X8, e8, st8⟩ := getF X6 hx hZ hown (host := "") (Or.inl (hw _ (List.mem_of_getElem? (i := 35) rfl))) Via.refl e6 P2 (g := (mkF m 26 #[.val (.ref a), .val (.ref b), .val (.ref b)] [(.ref a)])) rfl rfl (hb hby d_jdk_42_method_66_code_26)
  have k8 : To p.tables e below S0 (T8.setTop (mkF m 29 #[.val (.ref a), .val (.ref b), .val (.ref b)] [(.int (0 : Int32))])) := fun tt hq => k7 tt (st8 tt hq)
  have k9 : To p.tables e below S0 (T8.setTop (mkF m 30 #[.val (.ref a), .val (.ref b), .val (.ref b)] [(.ref b), (.int (0 : Int32))])) := fun tt hq => k8 tt (by
    show Steps _ _ _ (T8.setTop (mkF m 29 #[.val (.ref a), .val (.ref b), .val (.ref b)] [(.int (0 : Int32))])) _
    refine XS.aloadN X8.here hx rfl (hb hby d_jdk_42_method_66_code_29) rfl rfl ?_
    show Steps _ _ _ (T8.setTop (mkF m 30 #[.val (.ref a), .val (.ref b), .val (.ref b)] [(.ref b), (.int (0 : Int32))])) _
    exact hq)
  obtain ⟨T10, X10, e10, st10⟩ := getF X8 hx hZ hown (host := "") (Or.inl (hw _ (List.mem_of_getElem? (i := 35) rfl))) Via.refl e8 R2 (g := (mkF m 30 #[.val (.ref a), .val (.ref b), .val (.ref b)] [(.ref b), (.int (0 : Int32))])) rfl rfl (hb hby d_jdk_42_method_66_code_30)
  have k10 : To p.tables e below S0 (T10.setTop (mkF m 33 #[.val (.ref a), .val (.ref b), .val (.ref b)] [(.int (0 : Int32)), (.int (0 : Int32))])) := fun tt hq => k9 tt (st10 tt hq)
  have k11 : To p.tables e below S0 (T10.setTop (mkF m 37 #[.val (.ref a), .val (.ref b), .val (.ref b)] [(.ref a)])) := fun tt hq => k10 tt (by
    show Steps _ _ _ (T10.setTop (mkF m 33 #[.val (.ref a), .val (.ref b), .val (.ref b)] [(.int (0 : Int32)), (.int (0 : Int32))])) _
    refine XS.icmpNo X10.here hx rfl (hb hby d_jdk_42_method_66_code_33) rfl (teq (by decide)).2 ?_
    show Steps _ _ _ (T10.setTop (mkF m 36 #[.val (.ref a), .val (.ref b), .val (.ref b)] [])) _
    refine XS.aloadN X10.here hx rfl (hb hby d_jdk_42_method_66_code_36) rfl rfl ?_
    show Steps _ _ _ (T10.setTop (mkF m 37 #[.val (.ref a), .val (.ref b), .val (.ref b)] [(.ref a)])) _
    exact hq)
  obtain ⟨T12, X12, e12, st12⟩ := getF X10 hx hZ hown (host := "") (Or.inl (hw _ (List.mem_of_getElem? (i := 34) rfl))) Via.refl e10 P1 (g := (mkF m 37 #[.val (.ref a), .val (.ref b), .val (.ref b)] [(.ref a)])) rfl rfl (hb hby d_jdk_42_method_66_code_37)
  have k12 : To p.tables e below S0 (T12.setTop (mkF m 40 #[.val (.ref a), .val (.ref b), .val (.ref b)] [(.ref ta)])) := fun tt hq => k11 tt (st12 tt hq)
  have k13 : To p.tables e below S0 (T12.setTop (mkF m 41 #[.val (.ref a), .val (.ref b), .val (.ref b)] [(.ref b), (.ref ta)])) := fun tt hq => k12 tt (by
    show Steps _ _ _ (T12.setTop (mkF m 40 #[.val (.ref a), .val (.ref b), .val (.ref b)] [(.ref ta)])) _
    refine XS.aloadN X12.here hx rfl (hb hby d_jdk_42_method_66_code_40) rfl rfl ?_
    show Steps _ _ _ (T12.setTop (mkF m 41 #[.val (.ref a), .val (.ref b), .val (.ref b)] [(.ref b), (.ref ta)])) _
    exact hq)
  obtain ⟨T14, X14, e14, st14⟩ := getF X12 hx hZ hown (host := "") (Or.inl (hw _ (List.mem_of_getElem? (i := 34) rfl))) Via.refl e12 R1 (g := (mkF m 41 #[.val (.ref a), .val (.ref b), .val (.ref b)] [(.ref b), (.ref ta)])) rfl rfl (hb hby d_jdk_42_method_66_code_41)
  have k14 : To p.tables e below S0 (T14.setTop (mkF m 44 #[.val (.ref a), .val (.ref b), .val (.ref b)] [(.ref tb), (.ref ta)])) := fun tt hq => k13 tt (st14 tt hq)
  obtain ⟨_, T15, L15, X15, ⟨rfl, Nq15, eq15⟩, k15a⟩ := callS' X14 hx hZ (y := (⟨"java/lang/StringLatin1", "equals", "([B[B)Z"⟩ : MethodName)) hown (hw _ (List.mem_of_getElem? (i := 86) rfl)) (hw _ (List.mem_of_getElem? (i := 87) rfl)) (hw _ (List.mem_of_getElem? (i := 88) rfl)) (hw _ (List.mem_of_getElem? (i := 89) rfl)) (by decide) (backC (W := 0) (rm_lq22 l Z a0 hw ta ka c0 c1 tb kb d0 d1 h0 n0 (by omega) P3 R3) hZ (hw _ (List.mem_of_getElem? (i := 89) rfl)) (hw _ (List.mem_of_getElem? (i := 88) rfl)) (by decide) (by decide)) e14 (argsL := [(.ref ta), (.ref tb)]) (rest := []) rfl rfl pd_8 rfl (by rw [hml]; rfl) (hb hby d_jdk_42_method_66_code_44) (Nat.le_of_eq rfl) (by decide) (by decide) k14
  have k15 : To p.tables e below S0 (T15.setTop (mkF m 47 #[.val (.ref a), .val (.ref b), .val (.ref b)] [(.int (if ([c0, c1] : List Int32) = [d0, d1] then (1 : Int32) else (0 : Int32)))])) := k15a
  have N15 := N0.app Nq15
  have e15 : T15.heap = h0 := eq15
  by_cases hc47_16 : (if ([c0, c1] : List Int32) = [d0, d1] then (1 : Int32) else (0 : Int32)) = (0 : Int32)
  · -- pc 47, holds
    have k17 : To p.tables e below S0 (T15.setTop (mkF m 55 #[.val (.ref a), .val (.ref b), .val (.ref b)] [(.int (0 : Int32))])) := fun tt hq => k15 tt (by
      show Steps _ _ _ (T15.setTop (mkF m 47 #[.val (.ref a), .val (.ref b), .val (.ref b)] [(.int (if ([c0, c1] : List Int32) = [d0, d1] then (1 : Int32) else (0 : Int32)))])) _
      refine XS.ifYes X15.here hx rfl (pc0 := 47) (pc' := 54) rfl (hb hby d_jdk_42_method_66_code_47) rfl ((if0 _ _).trans (teq hc47_16).1) (by decide) (by decide) ?_
      show Steps _ _ _ (T15.setTop (mkF m 54 #[.val (.ref a), .val (.ref b), .val (.ref b)] [])) _
      refine XS.iconst X15.here hx rfl (hb hby d_jdk_42_method_66_code_54) ?_
      show Steps _ _ _ (T15.setTop (mkF m 55 #[.val (.ref a), .val (.ref b), .val (.ref b)] [(.int (0 : Int32))])) _
      exact hq)
    have hE := e15
    refine retInt X15 hx hret hlk (by simp) rfl (hb hby d_jdk_42_method_66_code_55) k17 ?_ (by decide) (by decide)
    try rw [hE]
    exact ⟨congrArg (fun z => some (Value.int z)) (Eq.symm hc47_16), N15, rfl⟩
  · -- pc 47, holds not
    have k18 : To p.tables e below S0 (T15.setTop (mkF m 55 #[.val (.ref a), .val (.ref b), .val (.ref b)] [(.int (1 : Int32))])) := fun tt hq => k15 tt (by
      show Steps _ _ _ (T15.setTop (mkF m 47 #[.val (.ref a), .val (.ref b), .val (.ref b)] [(.int (if ([c0, c1] : List Int32) = [d0, d1] then (1 : Int32) else (0 : Int32)))])) _
      refine XS.ifNo X15.here hx rfl (hb hby d_jdk_42_method_66_code_47) rfl ((if0 _ _).trans (feq hc47_16).1) ?_
      show Steps _ _ _ (T15.setTop (mkF m 50 #[.val (.ref a), .val (.ref b), .val (.ref b)] [])) _
      refine XS.iconst X15.here hx rfl (hb hby d_jdk_42_method_66_code_50) ?_
      show Steps _ _ _ (T15.setTop (mkF m 51 #[.val (.ref a), .val (.ref b), .val (.ref b)] [(.int (1 : Int32))])) _
      refine XS.goto X15.here hx rfl (pc0 := 51) (pc' := 55) rfl (hb hby d_jdk_42_method_66_code_51) (by decide) (by decide) ?_
      show Steps _ _ _ (T15.setTop (mkF m 55 #[.val (.ref a), .val (.ref b), .val (.ref b)] [(.int (1 : Int32))])) _
      exact hq)
    have hE := e15
    refine retInt X15 hx hret hlk (by simp) rfl (hb hby d_jdk_42_method_66_code_55) k18 ?_ (by decide) (by decide)
    try rw [hE]
    exact ⟨congrArg (fun z => some (Value.int z)) (Eq.symm (own_if1 hc47_16)), N15, rfl⟩
set_option maxRecDepth 65536 in
set_option maxHeartbeats 40000000 in
theorem rm_lq00 (l : Launch) (Z : State) (a0 : Array Value) (hw : ∀ d ∈ tables_1, d.before a0 Z = true) (ta : Addr) (ka : ClassId) (tb : Addr) (kb : ClassId) (h0 : Heap) (n0 : Nat) (hn0 : n0 ≤ h0.size) (P0 : Arv Z h0 ta ka .byte (0 : Int32) [] (.int 0)) (P1 : Arv Z h0 tb kb .byte (0 : Int32) [] (.int 0)) :
    Con l Z (⟨"java/lang/StringLatin1", "equals", "([B[B)Z"⟩ : MethodName) jdk_43_method_13_code 3 (some .boolean) [] ({ frames := 0, cells := 0, slots := 0, locals := 0 } : Room) #[(.ref ta), (.ref tb)] h0 (fun v h L => v = some (.int (if ([] : List Int32) = [] then (1 : Int32) else (0 : Int32))) ∧ Fr n0 L ∧ h = h0) := by
  refine enter (Ls := #[.val (.ref ta), .val (.ref tb), .unset]) (plainFor_of_name pn_3) (fun m => by exact entry_eq rfl) ?_
  intro p e s m below meth cd_ s₁ S0 hx hby hml hret hlk hnm hown hZ X0 e0 k0
  have N0 := Fr.nil n0
  have k1 : To p.tables e below S0 (s₁.setTop (mkF m 1 #[.val (.ref ta), .val (.ref tb), .unset] [(.ref ta)])) := fun tt hq => k0 tt (by
    show Steps _ _ _ (s₁.setTop (mkF m 0 #[.val (.ref ta), .val (.ref tb), .unset] [])) _
    refine XS.aloadN X0.here hx rfl (hb hby d_jdk_43_method_13_code_0) rfl rfl ?_
    show Steps _ _ _ (s₁.setTop (mkF m 1 #[.val (.ref ta), .val (.ref tb), .unset] [(.ref ta)])) _
    exact hq)
  obtain ⟨cl2, Ar2, -, S2, M2, -, -⟩ := id P0
  have st2 := fun tt => X0.arraylength hx (by rw [e0]; exact Ar2.1) (State.isArrayOf_alike hZ.alike Ar2.2.1) (g := (mkF m 1 #[.val (.ref ta), .val (.ref tb), .unset] [(.ref ta)])) rfl rfl (hb hby d_jdk_43_method_13_code_1) tt
  rw [len_of S2 M2] at st2
  have k2 : To p.tables e below S0 (s₁.setTop (mkF m 2 #[.val (.ref ta), .val (.ref tb), .unset] [(.int (0 : Int32))])) := fun tt hq => k1 tt (st2 tt hq)
  have k3 : To p.tables e below S0 (s₁.setTop (mkF m 3 #[.val (.ref ta), .val (.ref tb), .unset] [(.ref tb), (.int (0 : Int32))])) := fun tt hq => k2 tt (by
    show Steps _ _ _ (s₁.setTop (mkF m 2 #[.val (.ref ta), .val (.ref tb), .unset] [(.int (0 : Int32))])) _
    refine XS.aloadN X0.here hx rfl (hb hby d_jdk_43_method_13_code_2) rfl rfl ?_
    show Steps _ _ _ (s₁.setTop (mkF m 3 #[.val (.ref ta), .val (.ref tb), .unset] [(.ref tb), (.int (0 : Int32))])) _
    exact hq)
  obtain ⟨cl4, Ar4, -, S4, M4, -, -⟩ := id P1
  have st4 := fun tt => X0.arraylength hx (by rw [e0]; exact Ar4.1) (State.isArrayOf_alike hZ.alike Ar4.2.1) (g := (mkF m 3 #[.val (.ref ta), .val (.ref tb), .unset] [(.ref tb), (.int (0 : Int32))])) rfl rfl (hb hby d_jdk_43_method_13_code_3) tt
  rw [len_of S4 M4] at st4
  have k4 : To p.tables e below S0 (s₁.setTop (mkF m 4 #[.val (.ref ta), .val (.ref tb), .unset] [(.int (0 : Int32)), (.int (0 : Int32))])) := fun tt hq => k3 tt (st4 tt hq)
  have k5 : To p.tables e below S0 (s₁.setTop (mkF m 11 #[.val (.ref ta), .val (.ref tb), .val (.int (0 : Int32))] [(.ref ta), (.int (0 : Int32))])) := fun tt hq => k4 tt (by
    show Steps _ _ _ (s₁.setTop (mkF m 4 #[.val (.ref ta), .val (.ref tb), .unset] [(.int (0 : Int32)), (.int (0 : Int32))])) _
    refine XS.icmpNo X0.here hx rfl (hb hby d_jdk_43_method_13_code_4) rfl (teq (by decide)).2 ?_
    show Steps _ _ _ (s₁.setTop (mkF m 7 #[.val (.ref ta), .val (.ref tb), .unset] [])) _
    refine XS.iconst X0.here hx rfl (hb hby d_jdk_43_method_13_code_7) ?_
    show Steps _ _ _ (s₁.setTop (mkF m 8 #[.val (.ref ta), .val (.ref tb), .unset] [(.int (0 : Int32))])) _
    refine XS.istoreN X0.here hx rfl (hb hby d_jdk_43_method_13_code_8) rfl (l' := #[.val (.ref ta), .val (.ref tb), .val (.int (0 : Int32))]) rfl ?_
    show Steps _ _ _ (s₁.setTop (mkF m 9 #[.val (.ref ta), .val (.ref tb), .val (.int (0 : Int32))] [])) _
    refine XS.iloadN X0.here hx rfl (hb hby d_jdk_43_method_13_code_9) rfl ?_
    show Steps _ _ _ (s₁.setTop (mkF m 10 #[.val (.ref ta), .val (.ref tb), .val (.int (0 : Int32))] [(.int (0 : Int32))])) _
    refine XS.aloadN X0.here hx rfl (hb hby d_jdk_43_method_13_code_10) rfl rfl ?_
    show Steps _ _ _ (s₁.setTop (mkF m 11 #[.val (.ref ta), .val (.ref tb), .val (.int (0 : Int32))] [(.ref ta), (.int (0 : Int32))])) _
    exact hq)
  obtain ⟨cl6, Ar6, -, S6, M6, -, -⟩ := id P0
  have st6 := fun tt => X0.arraylength hx (by rw [e0]; exact Ar6.1) (State.isArrayOf_alike hZ.alike Ar6.2.1) (g := (mkF m 11 #[.val (.ref ta), .val (.ref tb), .val (.int (0 : Int32))] [(.ref ta), (.int (0 : Int32))])) rfl rfl (hb hby d_jdk_43_method_13_code_11) tt
  rw [len_of S6 M6] at st6
  have k6 : To p.tables e below S0 (s₁.setTop (mkF m 12 #[.val (.ref ta), .val (.ref tb), .val (.int (0 : Int32))] [(.int (0 : Int32)), (.int (0 : Int32))])) := fun tt hq => k5 tt (st6 tt hq)
  have k7 : To p.tables e below S0 (s₁.setTop (mkF m 33 #[.val (.ref ta), .val (.ref tb), .val (.int (0 : Int32))] [(.int (1 : Int32))])) := fun tt hq => k6 tt (by
    show Steps _ _ _ (s₁.setTop (mkF m 12 #[.val (.ref ta), .val (.ref tb), .val (.int (0 : Int32))] [(.int (0 : Int32)), (.int (0 : Int32))])) _
    refine XS.icmpYes X0.here hx rfl (pc0 := 12) (pc' := 32) rfl (hb hby d_jdk_43_method_13_code_12) rfl (flt (by decide)).2.1 (by decide) (by decide) ?_
    show Steps _ _ _ (s₁.setTop (mkF m 32 #[.val (.ref ta), .val (.ref tb), .val (.int (0 : Int32))] [])) _
    refine XS.iconst X0.here hx rfl (hb hby d_jdk_43_method_13_code_32) ?_
    show Steps _ _ _ (s₁.setTop (mkF m 33 #[.val (.ref ta), .val (.ref tb), .val (.int (0 : Int32))] [(.int (1 : Int32))])) _
    exact hq)
  have hE := e0
  refine retInt X0 hx hret hlk (by simp) rfl (hb hby d_jdk_43_method_13_code_33) k7 ?_ (by decide) (by decide)
  try rw [hE]
  exact ⟨congrArg (fun z => some (Value.int z)) (Eq.symm (if_pos rfl)), N0, rfl⟩
set_option maxRecDepth 65536 in
set_option maxHeartbeats 40000000 in
theorem rm_sq00 (l : Launch) (Z : State) (a0 : Array Value) (hw : ∀ d ∈ tables_1, d.before a0 Z = true) (zc : Int32) (a : Addr) (b : Addr) (ta : Addr) (ka : ClassId) (tb : Addr) (kb : ClassId) (h0 : Heap) (n0 : Nat) (hn0 : n0 ≤ h0.size) (S_c : Sta Z Z.heap "java/lang/String" "COMPACT_STRINGS" "Z" (.int zc)) (hzc : ¬ zc = (0 : Int32)) (O0 : Old Z n0 h0) (hab : ¬ a = b) (P0 : Exa Z h0 a "java/lang/String") (P1 : Fld Z h0 a "java/lang/String" "value" "[B" (.ref ta)) (P2 : Fld Z h0 a "java/lang/String" "coder" "B" (.int (0 : Int32))) (P3 : Arv Z h0 ta ka .byte (0 : Int32) [] (.int 0)) (R0 : Exa Z h0 b "java/lang/String") (R1 : Fld Z h0 b "java/lang/String" "value" "[B" (.ref tb)) (R2 : Fld Z h0 b "java/lang/String" "coder" "B" (.int (0 : Int32))) (R3 : Arv Z h0 tb kb .byte (0 : Int32) [] (.int 0)) :
    Con l Z (⟨"java/lang/String", "equals", "(Ljava/lang/Object;)Z"⟩ : MethodName) jdk_42_method_66_code 3 (some .boolean) [] ({ frames := 1, cells := 0, slots := 0, locals := 14 } : Room) #[(.ref a), (.ref b)] h0 (fun v h L => v = some (.int (if ([] : List Int32) = [] then (1 : Int32) else (0 : Int32))) ∧ Fr n0 L ∧ h = h0) := by
  refine enter (Ls := #[.val (.ref a), .val (.ref b), .unset]) (plainFor_of_name pn_2) (fun m => by exact entry_eq rfl) ?_
  intro p e s m below meth cd_ s₁ S0 hx hby hml hret hlk hnm hown hZ X0 e0 k0
  have N0 := Fr.nil n0
  have k1 : To p.tables e below S0 (s₁.setTop (mkF m 8 #[.val (.ref a), .val (.ref b), .unset] [(.ref b)])) := fun tt hq => k0 tt (by
    show Steps _ _ _ (s₁.setTop (mkF m 0 #[.val (.ref a), .val (.ref b), .unset] [])) _
    refine XS.aloadN X0.here hx rfl (hb hby d_jdk_42_method_66_code_0) rfl rfl ?_
    show Steps _ _ _ (s₁.setTop (mkF m 1 #[.val (.ref a), .val (.ref b), .unset] [(.ref a)])) _
    refine XS.aloadN X0.here hx rfl (hb hby d_jdk_42_method_66_code_1) rfl rfl ?_
    show Steps _ _ _ (s₁.setTop (mkF m 2 #[.val (.ref a), .val (.ref b), .unset] [(.ref b), (.ref a)])) _
    refine Jvm.RoadKit.acmp (g := (mkF m 2 #[.val (.ref a), .val (.ref b), .unset] [(.ref b), (.ref a)])) X0 hx rfl rfl rfl (pc0 := 2) (pc' := 7) (same := false) rfl (hb hby d_jdk_42_method_66_code_2) rfl (decide_eq_false fun q => hab (Value.ref.inj q)) (by decide) (by decide) ?_
    show Steps _ _ _ (s₁.setTop (mkF m 7 #[.val (.ref a), .val (.ref b), .unset] [])) _
    refine XS.aloadN X0.here hx rfl (hb hby d_jdk_42_method_66_code_7) rfl rfl ?_
    show Steps _ _ _ (s₁.setTop (mkF m 8 #[.val (.ref a), .val (.ref b), .unset] [(.ref b)])) _
    exact hq)
  obtain ⟨T2, X2, e2, st2⟩ := instY X0 hx hZ hown (hw _ (List.mem_of_getElem? (i := 85) rfl)) e0 (Ins.self R0) (g := (mkF m 8 #[.val (.ref a), .val (.ref b), .unset] [(.ref b)])) rfl rfl (hb hby d_jdk_42_method_66_code_8)
  have k2 : To p.tables e below S0 (T2.setTop (mkF m 11 #[.val (.ref a), .val (.ref b), .unset] [(.int (1 : Int32))])) := fun tt hq => k1 tt (st2 tt hq)
  have k3 : To p.tables e below S0 (T2.setTop (mkF m 15 #[.val (.ref a), .val (.ref b), .unset] [(.ref b)])) := fun tt hq => k2 tt (by
    show Steps _ _ _ (T2.setTop (mkF m 11 #[.val (.ref a), .val (.ref b), .unset] [(.int (1 : Int32))])) _
    refine XS.ifNo X2.here hx rfl (hb hby d_jdk_42_method_66_code_11) rfl ((if0 _ _).trans (feq (by decide)).1) ?_
    show Steps _ _ _ (T2.setTop (mkF m 14 #[.val (.ref a), .val (.ref b), .unset] [])) _
    refine XS.aloadN X2.here hx rfl (hb hby d_jdk_42_method_66_code_14) rfl rfl ?_
    show Steps _ _ _ (T2.setTop (mkF m 15 #[.val (.ref a), .val (.ref b), .unset] [(.ref b)])) _
    exact hq)
  obtain ⟨T4, X4, e4, st4⟩ := castY X2 hx hZ hown (hw _ (List.mem_of_getElem? (i := 85) rfl)) e2 (Ins.self R0) (g := (mkF m 15 #[.val (.ref a), .val (.ref b), .unset] [(.ref b)])) rfl rfl (hb hby d_jdk_42_method_66_code_15)
  have k4 : To p.tables e below S0 (T4.setTop (mkF m 18 #[.val (.ref a), .val (.ref b), .unset] [(.ref b)])) := fun tt hq => k3 tt (st4 tt hq)
  have k5 : To p.tables e below S0 (T4.setTop (mkF m 19 #[.val (.ref a), .val (.ref b), .val (.ref b)] [])) := fun tt hq => k4 tt (by
    show Steps _ _ _ (T4.setTop (mkF m 18 #[.val (.ref a), .val (.ref b), .unset] [(.ref b)])) _
    refine XS.astoreN X4.here hx rfl (hb hby d_jdk_42_method_66_code_18) rfl rfl (l' := #[.val (.ref a), .val (.ref b), .val (.ref b)]) rfl ?_
    show Steps _ _ _ (T4.setTop (mkF m 19 #[.val (.ref a), .val (.ref b), .val (.ref b)] [])) _
    exact hq)
  obtain ⟨T6, X6, e6, st6⟩ := getS2 X4 hx hZ hown (host := "") (Or.inl (hw _ (List.mem_of_getElem? (i := 42) rfl))) Via.refl e4 (staOld S_c O0) (g := (mkF m 19 #[.val (.ref a), .val (.ref b), .val (.ref b)] [])) rfl (hb hby d_jdk_42_method_66_code_19)
  have k6 : To p.tables e below S0 (T6.setTop (mkF m 22 #[.val (.ref a), .val (.ref b), .val (.ref b)] [(.int zc)])) := fun tt hq => k5 tt (st6 tt hq)
  have k7 : To p.tables e below S0 (T6.setTop (mkF m 26 #[.val (.ref a), .val (.ref b), .val (.ref b)] [(.ref a)])) := fun tt hq => k6 tt (by
    show Steps _ _ _ (T6.setTop (mkF m 22 #[.val (.ref a), .val (.ref b), .val (.ref b)] [(.int zc)])) _
    refine XS.ifNo X6.here hx rfl (hb hby d_jdk_42_method_66_code_22) rfl ((if0 _ _).trans (feq hzc).1) ?_
    show Steps _ _ _ (T6.setTop (mkF m 25 #[.val (.ref a), .val (.ref b), .val (.ref b)] [])) _
    refine XS.aloadN X6.here hx rfl (hb hby d_jdk_42_method_66_code_25) rfl rfl ?_
    show Steps _ _ _ (T6.setTop (mkF m 26 #[.val (.ref a), .val (.ref b), .val (.ref b)] [(.ref a)])) _
    exact hq)
  obtain ⟨T8, X8, e8, st8⟩ := getF X6 hx hZ hown (host := "") (Or.inl (hw _ (List.mem_of_getElem? (i := 35) rfl))) Via.refl e6 P2 (g := (mkF m 26 #[.val (.ref a), .val (.ref b), .val (.ref b)] [(.ref a)])) rfl rfl (hb hby d_jdk_42_method_66_code_26)
  have k8 : To p.tables e below S0 (T8.setTop (mkF m 29 #[.val (.ref a), .val (.ref b), .val (.ref b)] [(.int (0 : Int32))])) := fun tt hq => k7 tt (st8 tt hq)
  have k9 : To p.tables e below S0 (T8.setTop (mkF m 30 #[.val (.ref a), .val (.ref b), .val (.ref b)] [(.ref b), (.int (0 : Int32))])) := fun tt hq => k8 tt (by
    show Steps _ _ _ (T8.setTop (mkF m 29 #[.val (.ref a), .val (.ref b), .val (.ref b)] [(.int (0 : Int32))])) _
    refine XS.aloadN X8.here hx rfl (hb hby d_jdk_42_method_66_code_29) rfl rfl ?_
    show Steps _ _ _ (T8.setTop (mkF m 30 #[.val (.ref a), .val (.ref b), .val (.ref b)] [(.ref b), (.int (0 : Int32))])) _
    exact hq)
  obtain ⟨T10, X10, e10, st10⟩ := getF X8 hx hZ hown (host := "") (Or.inl (hw _ (List.mem_of_getElem? (i := 35) rfl))) Via.refl e8 R2 (g := (mkF m 30 #[.val (.ref a), .val (.ref b), .val (.ref b)] [(.ref b), (.int (0 : Int32))])) rfl rfl (hb hby d_jdk_42_method_66_code_30)
  have k10 : To p.tables e below S0 (T10.setTop (mkF m 33 #[.val (.ref a), .val (.ref b), .val (.ref b)] [(.int (0 : Int32)), (.int (0 : Int32))])) := fun tt hq => k9 tt (st10 tt hq)
  have k11 : To p.tables e below S0 (T10.setTop (mkF m 37 #[.val (.ref a), .val (.ref b), .val (.ref b)] [(.ref a)])) := fun tt hq => k10 tt (by
    show Steps _ _ _ (T10.setTop (mkF m 33 #[.val (.ref a), .val (.ref b), .val (.ref b)] [(.int (0 : Int32)), (.int (0 : Int32))])) _
    refine XS.icmpNo X10.here hx rfl (hb hby d_jdk_42_method_66_code_33) rfl (teq (by decide)).2 ?_
    show Steps _ _ _ (T10.setTop (mkF m 36 #[.val (.ref a), .val (.ref b), .val (.ref b)] [])) _
    refine XS.aloadN X10.here hx rfl (hb hby d_jdk_42_method_66_code_36) rfl rfl ?_
    show Steps _ _ _ (T10.setTop (mkF m 37 #[.val (.ref a), .val (.ref b), .val (.ref b)] [(.ref a)])) _
    exact hq)
  obtain ⟨T12, X12, e12, st12⟩ := getF X10 hx hZ hown (host := "") (Or.inl (hw _ (List.mem_of_getElem? (i := 34) rfl))) Via.refl e10 P1 (g := (mkF m 37 #[.val (.ref a), .val (.ref b), .val (.ref b)] [(.ref a)])) rfl rfl (hb hby d_jdk_42_method_66_code_37)
  have k12 : To p.tables e below S0 (T12.setTop (mkF m 40 #[.val (.ref a), .val (.ref b), .val (.ref b)] [(.ref ta)])) := fun tt hq => k11 tt (st12 tt hq)
  have k13 : To p.tables e below S0 (T12.setTop (mkF m 41 #[.val (.ref a), .val (.ref b), .val (.ref b)] [(.ref b), (.ref ta)])) := fun tt hq => k12 tt (by
    show Steps _ _ _ (T12.setTop (mkF m 40 #[.val (.ref a), .val (.ref b), .val (.ref b)] [(.ref ta)])) _
    refine XS.aloadN X12.here hx rfl (hb hby d_jdk_42_method_66_code_40) rfl rfl ?_
    show Steps _ _ _ (T12.setTop (mkF m 41 #[.val (.ref a), .val (.ref b), .val (.ref b)] [(.ref b), (.ref ta)])) _
    exact hq)
  obtain ⟨T14, X14, e14, st14⟩ := getF X12 hx hZ hown (host := "") (Or.inl (hw _ (List.mem_of_getElem? (i := 34) rfl))) Via.refl e12 R1 (g := (mkF m 41 #[.val (.ref a), .val (.ref b), .val (.ref b)] [(.ref b), (.ref ta)])) rfl rfl (hb hby d_jdk_42_method_66_code_41)
  have k14 : To p.tables e below S0 (T14.setTop (mkF m 44 #[.val (.ref a), .val (.ref b), .val (.ref b)] [(.ref tb), (.ref ta)])) := fun tt hq => k13 tt (st14 tt hq)
  obtain ⟨_, T15, L15, X15, ⟨rfl, Nq15, eq15⟩, k15a⟩ := callS' X14 hx hZ (y := (⟨"java/lang/StringLatin1", "equals", "([B[B)Z"⟩ : MethodName)) hown (hw _ (List.mem_of_getElem? (i := 86) rfl)) (hw _ (List.mem_of_getElem? (i := 87) rfl)) (hw _ (List.mem_of_getElem? (i := 88) rfl)) (hw _ (List.mem_of_getElem? (i := 89) rfl)) (by decide) (backC (W := 0) (rm_lq00 l Z a0 hw ta ka  tb kb  h0 n0 (by omega) P3 R3) hZ (hw _ (List.mem_of_getElem? (i := 89) rfl)) (hw _ (List.mem_of_getElem? (i := 88) rfl)) (by decide) (by decide)) e14 (argsL := [(.ref ta), (.ref tb)]) (rest := []) rfl rfl pd_8 rfl (by rw [hml]; rfl) (hb hby d_jdk_42_method_66_code_44) (Nat.le_of_eq rfl) (by decide) (by decide) k14
  have k15 : To p.tables e below S0 (T15.setTop (mkF m 47 #[.val (.ref a), .val (.ref b), .val (.ref b)] [(.int (if ([] : List Int32) = [] then (1 : Int32) else (0 : Int32)))])) := k15a
  have N15 := N0.app Nq15
  have e15 : T15.heap = h0 := eq15
  by_cases hc47_16 : (if ([] : List Int32) = [] then (1 : Int32) else (0 : Int32)) = (0 : Int32)
  · -- pc 47, holds
    have k17 : To p.tables e below S0 (T15.setTop (mkF m 55 #[.val (.ref a), .val (.ref b), .val (.ref b)] [(.int (0 : Int32))])) := fun tt hq => k15 tt (by
      show Steps _ _ _ (T15.setTop (mkF m 47 #[.val (.ref a), .val (.ref b), .val (.ref b)] [(.int (if ([] : List Int32) = [] then (1 : Int32) else (0 : Int32)))])) _
      refine XS.ifYes X15.here hx rfl (pc0 := 47) (pc' := 54) rfl (hb hby d_jdk_42_method_66_code_47) rfl ((if0 _ _).trans (teq hc47_16).1) (by decide) (by decide) ?_
      show Steps _ _ _ (T15.setTop (mkF m 54 #[.val (.ref a), .val (.ref b), .val (.ref b)] [])) _
      refine XS.iconst X15.here hx rfl (hb hby d_jdk_42_method_66_code_54) ?_
      show Steps _ _ _ (T15.setTop (mkF m 55 #[.val (.ref a), .val (.ref b), .val (.ref b)] [(.int (0 : Int32))])) _
      exact hq)
    have hE := e15
    refine retInt X15 hx hret hlk (by simp) rfl (hb hby d_jdk_42_method_66_code_55) k17 ?_ (by decide) (by decide)
    try rw [hE]
    exact ⟨congrArg (fun z => some (Value.int z)) (Eq.symm hc47_16), N15, rfl⟩
  · -- pc 47, holds not
    have k18 : To p.tables e below S0 (T15.setTop (mkF m 55 #[.val (.ref a), .val (.ref b), .val (.ref b)] [(.int (1 : Int32))])) := fun tt hq => k15 tt (by
      show Steps _ _ _ (T15.setTop (mkF m 47 #[.val (.ref a), .val (.ref b), .val (.ref b)] [(.int (if ([] : List Int32) = [] then (1 : Int32) else (0 : Int32)))])) _
      refine XS.ifNo X15.here hx rfl (hb hby d_jdk_42_method_66_code_47) rfl ((if0 _ _).trans (feq hc47_16).1) ?_
      show Steps _ _ _ (T15.setTop (mkF m 50 #[.val (.ref a), .val (.ref b), .val (.ref b)] [])) _
      refine XS.iconst X15.here hx rfl (hb hby d_jdk_42_method_66_code_50) ?_
      show Steps _ _ _ (T15.setTop (mkF m 51 #[.val (.ref a), .val (.ref b), .val (.ref b)] [(.int (1 : Int32))])) _
      refine XS.goto X15.here hx rfl (pc0 := 51) (pc' := 55) rfl (hb hby d_jdk_42_method_66_code_51) (by decide) (by decide) ?_
      show Steps _ _ _ (T15.setTop (mkF m 55 #[.val (.ref a), .val (.ref b), .val (.ref b)] [(.int (1 : Int32))])) _
      exact hq)
    have hE := e15
    refine retInt X15 hx hret hlk (by simp) rfl (hb hby d_jdk_42_method_66_code_55) k18 ?_ (by decide) (by decide)
    try rw [hE]
    exact ⟨congrArg (fun z => some (Value.int z)) (Eq.symm (own_if1 hc47_16)), N15, rfl⟩
set_option maxRecDepth 65536 in
set_option maxHeartbeats 40000000 in
theorem rm_lq01 (l : Launch) (Z : State) (a0 : Array Value) (hw : ∀ d ∈ tables_1, d.before a0 Z = true) (ta : Addr) (ka : ClassId) (tb : Addr) (kb : ClassId) (d0 : Int32) (h0 : Heap) (n0 : Nat) (hn0 : n0 ≤ h0.size) (P0 : Arv Z h0 ta ka .byte (0 : Int32) [] (.int 0)) (P1 : Arv Z h0 tb kb .byte (1 : Int32) [(.int d0)] (.int 0)) :
    Con l Z (⟨"java/lang/StringLatin1", "equals", "([B[B)Z"⟩ : MethodName) jdk_43_method_13_code 3 (some .boolean) [] ({ frames := 0, cells := 0, slots := 0, locals := 0 } : Room) #[(.ref ta), (.ref tb)] h0 (fun v h L => v = some (.int (if ([] : List Int32) = [d0] then (1 : Int32) else (0 : Int32))) ∧ Fr n0 L ∧ h = h0) := by
  refine enter (Ls := #[.val (.ref ta), .val (.ref tb), .unset]) (plainFor_of_name pn_3) (fun m => by exact entry_eq rfl) ?_
  intro p e s m below meth cd_ s₁ S0 hx hby hml hret hlk hnm hown hZ X0 e0 k0
  have N0 := Fr.nil n0
  have k1 : To p.tables e below S0 (s₁.setTop (mkF m 1 #[.val (.ref ta), .val (.ref tb), .unset] [(.ref ta)])) := fun tt hq => k0 tt (by
    show Steps _ _ _ (s₁.setTop (mkF m 0 #[.val (.ref ta), .val (.ref tb), .unset] [])) _
    refine XS.aloadN X0.here hx rfl (hb hby d_jdk_43_method_13_code_0) rfl rfl ?_
    show Steps _ _ _ (s₁.setTop (mkF m 1 #[.val (.ref ta), .val (.ref tb), .unset] [(.ref ta)])) _
    exact hq)
  obtain ⟨cl2, Ar2, -, S2, M2, -, -⟩ := id P0
  have st2 := fun tt => X0.arraylength hx (by rw [e0]; exact Ar2.1) (State.isArrayOf_alike hZ.alike Ar2.2.1) (g := (mkF m 1 #[.val (.ref ta), .val (.ref tb), .unset] [(.ref ta)])) rfl rfl (hb hby d_jdk_43_method_13_code_1) tt
  rw [len_of S2 M2] at st2
  have k2 : To p.tables e below S0 (s₁.setTop (mkF m 2 #[.val (.ref ta), .val (.ref tb), .unset] [(.int (0 : Int32))])) := fun tt hq => k1 tt (st2 tt hq)
  have k3 : To p.tables e below S0 (s₁.setTop (mkF m 3 #[.val (.ref ta), .val (.ref tb), .unset] [(.ref tb), (.int (0 : Int32))])) := fun tt hq => k2 tt (by
    show Steps _ _ _ (s₁.setTop (mkF m 2 #[.val (.ref ta), .val (.ref tb), .unset] [(.int (0 : Int32))])) _
    refine XS.aloadN X0.here hx rfl (hb hby d_jdk_43_method_13_code_2) rfl rfl ?_
    show Steps _ _ _ (s₁.setTop (mkF m 3 #[.val (.ref ta), .val (.ref tb), .unset] [(.ref tb), (.int (0 : Int32))])) _
    exact hq)
  obtain ⟨cl4, Ar4, -, S4, M4, -, -⟩ := id P1
  have st4 := fun tt => X0.arraylength hx (by rw [e0]; exact Ar4.1) (State.isArrayOf_alike hZ.alike Ar4.2.1) (g := (mkF m 3 #[.val (.ref ta), .val (.ref tb), .unset] [(.ref tb), (.int (0 : Int32))])) rfl rfl (hb hby d_jdk_43_method_13_code_3) tt
  rw [len_of S4 M4] at st4
  have k4 : To p.tables e below S0 (s₁.setTop (mkF m 4 #[.val (.ref ta), .val (.ref tb), .unset] [(.int (1 : Int32)), (.int (0 : Int32))])) := fun tt hq => k3 tt (st4 tt hq)
  have k5 : To p.tables e below S0 (s₁.setTop (mkF m 35 #[.val (.ref ta), .val (.ref tb), .unset] [(.int (0 : Int32))])) := fun tt hq => k4 tt (by
    show Steps _ _ _ (s₁.setTop (mkF m 4 #[.val (.ref ta), .val (.ref tb), .unset] [(.int (1 : Int32)), (.int (0 : Int32))])) _
    refine XS.icmpYes X0.here hx rfl (pc0 := 4) (pc' := 34) rfl (hb hby d_jdk_43_method_13_code_4) rfl (feq (by decide)).2 (by decide) (by decide) ?_
    show Steps _ _ _ (s₁.setTop (mkF m 34 #[.val (.ref ta), .val (.ref tb), .unset] [])) _
    refine XS.iconst X0.here hx rfl (hb hby d_jdk_43_method_13_code_34) ?_
    show Steps _ _ _ (s₁.setTop (mkF m 35 #[.val (.ref ta), .val (.ref tb), .unset] [(.int (0 : Int32))])) _
    exact hq)
  have hE := e0
  refine retInt X0 hx hret hlk (by simp) rfl (hb hby d_jdk_43_method_13_code_35) k5 ?_ (by decide) (by decide)
  try rw [hE]
  exact ⟨congrArg (fun z => some (Value.int z)) (Eq.symm (if_neg (fun q => by cases q))), N0, rfl⟩
set_option maxRecDepth 65536 in
set_option maxHeartbeats 40000000 in
theorem rm_sq01 (l : Launch) (Z : State) (a0 : Array Value) (hw : ∀ d ∈ tables_1, d.before a0 Z = true) (zc : Int32) (a : Addr) (b : Addr) (ta : Addr) (ka : ClassId) (tb : Addr) (kb : ClassId) (d0 : Int32) (h0 : Heap) (n0 : Nat) (hn0 : n0 ≤ h0.size) (S_c : Sta Z Z.heap "java/lang/String" "COMPACT_STRINGS" "Z" (.int zc)) (hzc : ¬ zc = (0 : Int32)) (O0 : Old Z n0 h0) (hab : ¬ a = b) (P0 : Exa Z h0 a "java/lang/String") (P1 : Fld Z h0 a "java/lang/String" "value" "[B" (.ref ta)) (P2 : Fld Z h0 a "java/lang/String" "coder" "B" (.int (0 : Int32))) (P3 : Arv Z h0 ta ka .byte (0 : Int32) [] (.int 0)) (R0 : Exa Z h0 b "java/lang/String") (R1 : Fld Z h0 b "java/lang/String" "value" "[B" (.ref tb)) (R2 : Fld Z h0 b "java/lang/String" "coder" "B" (.int (0 : Int32))) (R3 : Arv Z h0 tb kb .byte (1 : Int32) [(.int d0)] (.int 0)) :
    Con l Z (⟨"java/lang/String", "equals", "(Ljava/lang/Object;)Z"⟩ : MethodName) jdk_42_method_66_code 3 (some .boolean) [] ({ frames := 1, cells := 0, slots := 0, locals := 14 } : Room) #[(.ref a), (.ref b)] h0 (fun v h L => v = some (.int (if ([] : List Int32) = [d0] then (1 : Int32) else (0 : Int32))) ∧ Fr n0 L ∧ h = h0) := by
  refine enter (Ls := #[.val (.ref a), .val (.ref b), .unset]) (plainFor_of_name pn_2) (fun m => by exact entry_eq rfl) ?_
  intro p e s m below meth cd_ s₁ S0 hx hby hml hret hlk hnm hown hZ X0 e0 k0
  have N0 := Fr.nil n0
  have k1 : To p.tables e below S0 (s₁.setTop (mkF m 8 #[.val (.ref a), .val (.ref b), .unset] [(.ref b)])) := fun tt hq => k0 tt (by
    show Steps _ _ _ (s₁.setTop (mkF m 0 #[.val (.ref a), .val (.ref b), .unset] [])) _
    refine XS.aloadN X0.here hx rfl (hb hby d_jdk_42_method_66_code_0) rfl rfl ?_
    show Steps _ _ _ (s₁.setTop (mkF m 1 #[.val (.ref a), .val (.ref b), .unset] [(.ref a)])) _
    refine XS.aloadN X0.here hx rfl (hb hby d_jdk_42_method_66_code_1) rfl rfl ?_
    show Steps _ _ _ (s₁.setTop (mkF m 2 #[.val (.ref a), .val (.ref b), .unset] [(.ref b), (.ref a)])) _
    refine Jvm.RoadKit.acmp (g := (mkF m 2 #[.val (.ref a), .val (.ref b), .unset] [(.ref b), (.ref a)])) X0 hx rfl rfl rfl (pc0 := 2) (pc' := 7) (same := false) rfl (hb hby d_jdk_42_method_66_code_2) rfl (decide_eq_false fun q => hab (Value.ref.inj q)) (by decide) (by decide) ?_
    show Steps _ _ _ (s₁.setTop (mkF m 7 #[.val (.ref a), .val (.ref b), .unset] [])) _
    refine XS.aloadN X0.here hx rfl (hb hby d_jdk_42_method_66_code_7) rfl rfl ?_
    show Steps _ _ _ (s₁.setTop (mkF m 8 #[.val (.ref a), .val (.ref b), .unset] [(.ref b)])) _
    exact hq)
  obtain ⟨T2, X2, e2, st2⟩ := instY X0 hx hZ hown (hw _ (List.mem_of_getElem? (i := 85) rfl)) e0 (Ins.self R0) (g := (mkF m 8 #[.val (.ref a), .val (.ref b), .unset] [(.ref b)])) rfl rfl (hb hby d_jdk_42_method_66_code_8)
  have k2 : To p.tables e below S0 (T2.setTop (mkF m 11 #[.val (.ref a), .val (.ref b), .unset] [(.int (1 : Int32))])) := fun tt hq => k1 tt (st2 tt hq)
  have k3 : To p.tables e below S0 (T2.setTop (mkF m 15 #[.val (.ref a), .val (.ref b), .unset] [(.ref b)])) := fun tt hq => k2 tt (by
    show Steps _ _ _ (T2.setTop (mkF m 11 #[.val (.ref a), .val (.ref b), .unset] [(.int (1 : Int32))])) _
    refine XS.ifNo X2.here hx rfl (hb hby d_jdk_42_method_66_code_11) rfl ((if0 _ _).trans (feq (by decide)).1) ?_
    show Steps _ _ _ (T2.setTop (mkF m 14 #[.val (.ref a), .val (.ref b), .unset] [])) _
    refine XS.aloadN X2.here hx rfl (hb hby d_jdk_42_method_66_code_14) rfl rfl ?_
    show Steps _ _ _ (T2.setTop (mkF m 15 #[.val (.ref a), .val (.ref b), .unset] [(.ref b)])) _
    exact hq)
  obtain ⟨T4, X4, e4, st4⟩ := castY X2 hx hZ hown (hw _ (List.mem_of_getElem? (i := 85) rfl)) e2 (Ins.self R0) (g := (mkF m 15 #[.val (.ref a), .val (.ref b), .unset] [(.ref b)])) rfl rfl (hb hby d_jdk_42_method_66_code_15)
  have k4 : To p.tables e below S0 (T4.setTop (mkF m 18 #[.val (.ref a), .val (.ref b), .unset] [(.ref b)])) := fun tt hq => k3 tt (st4 tt hq)
  have k5 : To p.tables e below S0 (T4.setTop (mkF m 19 #[.val (.ref a), .val (.ref b), .val (.ref b)] [])) := fun tt hq => k4 tt (by
    show Steps _ _ _ (T4.setTop (mkF m 18 #[.val (.ref a), .val (.ref b), .unset] [(.ref b)])) _
    refine XS.astoreN X4.here hx rfl (hb hby d_jdk_42_method_66_code_18) rfl rfl (l' := #[.val (.ref a), .val (.ref b), .val (.ref b)]) rfl ?_
    show Steps _ _ _ (T4.setTop (mkF m 19 #[.val (.ref a), .val (.ref b), .val (.ref b)] [])) _
    exact hq)
  obtain ⟨T6, X6, e6, st6⟩ := getS2 X4 hx hZ hown (host := "") (Or.inl (hw _ (List.mem_of_getElem? (i := 42) rfl))) Via.refl e4 (staOld S_c O0) (g := (mkF m 19 #[.val (.ref a), .val (.ref b), .val (.ref b)] [])) rfl (hb hby d_jdk_42_method_66_code_19)
  have k6 : To p.tables e below S0 (T6.setTop (mkF m 22 #[.val (.ref a), .val (.ref b), .val (.ref b)] [(.int zc)])) := fun tt hq => k5 tt (st6 tt hq)
  have k7 : To p.tables e below S0 (T6.setTop (mkF m 26 #[.val (.ref a), .val (.ref b), .val (.ref b)] [(.ref a)])) := fun tt hq => k6 tt (by
    show Steps _ _ _ (T6.setTop (mkF m 22 #[.val (.ref a), .val (.ref b), .val (.ref b)] [(.int zc)])) _
    refine XS.ifNo X6.here hx rfl (hb hby d_jdk_42_method_66_code_22) rfl ((if0 _ _).trans (feq hzc).1) ?_
    show Steps _ _ _ (T6.setTop (mkF m 25 #[.val (.ref a), .val (.ref b), .val (.ref b)] [])) _
    refine XS.aloadN X6.here hx rfl (hb hby d_jdk_42_method_66_code_25) rfl rfl ?_
    show Steps _ _ _ (T6.setTop (mkF m 26 #[.val (.ref a), .val (.ref b), .val (.ref b)] [(.ref a)])) _
    exact hq)
  obtain ⟨T8, X8, e8, st8⟩ := getF X6 hx hZ hown (host := "") (Or.inl (hw _ (List.mem_of_getElem? (i := 35) rfl))) Via.refl e6 P2 (g := (mkF m 26 #[.val (.ref a), .val (.ref b), .val (.ref b)] [(.ref a)])) rfl rfl (hb hby d_jdk_42_method_66_code_26)
  have k8 : To p.tables e below S0 (T8.setTop (mkF m 29 #[.val (.ref a), .val (.ref b), .val (.ref b)] [(.int (0 : Int32))])) := fun tt hq => k7 tt (st8 tt hq)
  have k9 : To p.tables e below S0 (T8.setTop (mkF m 30 #[.val (.ref a), .val (.ref b), .val (.ref b)] [(.ref b), (.int (0 : Int32))])) := fun tt hq => k8 tt (by
    show Steps _ _ _ (T8.setTop (mkF m 29 #[.val (.ref a), .val (.ref b), .val (.ref b)] [(.int (0 : Int32))])) _
    refine XS.aloadN X8.here hx rfl (hb hby d_jdk_42_method_66_code_29) rfl rfl ?_
    show Steps _ _ _ (T8.setTop (mkF m 30 #[.val (.ref a), .val (.ref b), .val (.ref b)] [(.ref b), (.int (0 : Int32))])) _
    exact hq)
  obtain ⟨T10, X10, e10, st10⟩ := getF X8 hx hZ hown (host := "") (Or.inl (hw _ (List.mem_of_getElem? (i := 35) rfl))) Via.refl e8 R2 (g := (mkF m 30 #[.val (.ref a), .val (.ref b), .val (.ref b)] [(.ref b), (.int (0 : Int32))])) rfl rfl (hb hby d_jdk_42_method_66_code_30)
  have k10 : To p.tables e below S0 (T10.setTop (mkF m 33 #[.val (.ref a), .val (.ref b), .val (.ref b)] [(.int (0 : Int32)), (.int (0 : Int32))])) := fun tt hq => k9 tt (st10 tt hq)
  have k11 : To p.tables e below S0 (T10.setTop (mkF m 37 #[.val (.ref a), .val (.ref b), .val (.ref b)] [(.ref a)])) := fun tt hq => k10 tt (by
    show Steps _ _ _ (T10.setTop (mkF m 33 #[.val (.ref a), .val (.ref b), .val (.ref b)] [(.int (0 : Int32)), (.int (0 : Int32))])) _
    refine XS.icmpNo X10.here hx rfl (hb hby d_jdk_42_method_66_code_33) rfl (teq (by decide)).2 ?_
    show Steps _ _ _ (T10.setTop (mkF m 36 #[.val (.ref a), .val (.ref b), .val (.ref b)] [])) _
    refine XS.aloadN X10.here hx rfl (hb hby d_jdk_42_method_66_code_36) rfl rfl ?_
    show Steps _ _ _ (T10.setTop (mkF m 37 #[.val (.ref a), .val (.ref b), .val (.ref b)] [(.ref a)])) _
    exact hq)
  obtain ⟨T12, X12, e12, st12⟩ := getF X10 hx hZ hown (host := "") (Or.inl (hw _ (List.mem_of_getElem? (i := 34) rfl))) Via.refl e10 P1 (g := (mkF m 37 #[.val (.ref a), .val (.ref b), .val (.ref b)] [(.ref a)])) rfl rfl (hb hby d_jdk_42_method_66_code_37)
  have k12 : To p.tables e below S0 (T12.setTop (mkF m 40 #[.val (.ref a), .val (.ref b), .val (.ref b)] [(.ref ta)])) := fun tt hq => k11 tt (st12 tt hq)
  have k13 : To p.tables e below S0 (T12.setTop (mkF m 41 #[.val (.ref a), .val (.ref b), .val (.ref b)] [(.ref b), (.ref ta)])) := fun tt hq => k12 tt (by
    show Steps _ _ _ (T12.setTop (mkF m 40 #[.val (.ref a), .val (.ref b), .val (.ref b)] [(.ref ta)])) _
    refine XS.aloadN X12.here hx rfl (hb hby d_jdk_42_method_66_code_40) rfl rfl ?_
    show Steps _ _ _ (T12.setTop (mkF m 41 #[.val (.ref a), .val (.ref b), .val (.ref b)] [(.ref b), (.ref ta)])) _
    exact hq)
  obtain ⟨T14, X14, e14, st14⟩ := getF X12 hx hZ hown (host := "") (Or.inl (hw _ (List.mem_of_getElem? (i := 34) rfl))) Via.refl e12 R1 (g := (mkF m 41 #[.val (.ref a), .val (.ref b), .val (.ref b)] [(.ref b), (.ref ta)])) rfl rfl (hb hby d_jdk_42_method_66_code_41)
  have k14 : To p.tables e below S0 (T14.setTop (mkF m 44 #[.val (.ref a), .val (.ref b), .val (.ref b)] [(.ref tb), (.ref ta)])) := fun tt hq => k13 tt (st14 tt hq)
  obtain ⟨_, T15, L15, X15, ⟨rfl, Nq15, eq15⟩, k15a⟩ := callS' X14 hx hZ (y := (⟨"java/lang/StringLatin1", "equals", "([B[B)Z"⟩ : MethodName)) hown (hw _ (List.mem_of_getElem? (i := 86) rfl)) (hw _ (List.mem_of_getElem? (i := 87) rfl)) (hw _ (List.mem_of_getElem? (i := 88) rfl)) (hw _ (List.mem_of_getElem? (i := 89) rfl)) (by decide) (backC (W := 0) (rm_lq01 l Z a0 hw ta ka  tb kb d0 h0 n0 (by omega) P3 R3) hZ (hw _ (List.mem_of_getElem? (i := 89) rfl)) (hw _ (List.mem_of_getElem? (i := 88) rfl)) (by decide) (by decide)) e14 (argsL := [(.ref ta), (.ref tb)]) (rest := []) rfl rfl pd_8 rfl (by rw [hml]; rfl) (hb hby d_jdk_42_method_66_code_44) (Nat.le_of_eq rfl) (by decide) (by decide) k14
  have k15 : To p.tables e below S0 (T15.setTop (mkF m 47 #[.val (.ref a), .val (.ref b), .val (.ref b)] [(.int (if ([] : List Int32) = [d0] then (1 : Int32) else (0 : Int32)))])) := k15a
  have N15 := N0.app Nq15
  have e15 : T15.heap = h0 := eq15
  by_cases hc47_16 : (if ([] : List Int32) = [d0] then (1 : Int32) else (0 : Int32)) = (0 : Int32)
  · -- pc 47, holds
    have k17 : To p.tables e below S0 (T15.setTop (mkF m 55 #[.val (.ref a), .val (.ref b), .val (.ref b)] [(.int (0 : Int32))])) := fun tt hq => k15 tt (by
      show Steps _ _ _ (T15.setTop (mkF m 47 #[.val (.ref a), .val (.ref b), .val (.ref b)] [(.int (if ([] : List Int32) = [d0] then (1 : Int32) else (0 : Int32)))])) _
      refine XS.ifYes X15.here hx rfl (pc0 := 47) (pc' := 54) rfl (hb hby d_jdk_42_method_66_code_47) rfl ((if0 _ _).trans (teq hc47_16).1) (by decide) (by decide) ?_
      show Steps _ _ _ (T15.setTop (mkF m 54 #[.val (.ref a), .val (.ref b), .val (.ref b)] [])) _
      refine XS.iconst X15.here hx rfl (hb hby d_jdk_42_method_66_code_54) ?_
      show Steps _ _ _ (T15.setTop (mkF m 55 #[.val (.ref a), .val (.ref b), .val (.ref b)] [(.int (0 : Int32))])) _
      exact hq)
    have hE := e15
    refine retInt X15 hx hret hlk (by simp) rfl (hb hby d_jdk_42_method_66_code_55) k17 ?_ (by decide) (by decide)
    try rw [hE]
    exact ⟨congrArg (fun z => some (Value.int z)) (Eq.symm hc47_16), N15, rfl⟩
  · -- pc 47, holds not
    have k18 : To p.tables e below S0 (T15.setTop (mkF m 55 #[.val (.ref a), .val (.ref b), .val (.ref b)] [(.int (1 : Int32))])) := fun tt hq => k15 tt (by
      show Steps _ _ _ (T15.setTop (mkF m 47 #[.val (.ref a), .val (.ref b), .val (.ref b)] [(.int (if ([] : List Int32) = [d0] then (1 : Int32) else (0 : Int32)))])) _
      refine XS.ifNo X15.here hx rfl (hb hby d_jdk_42_method_66_code_47) rfl ((if0 _ _).trans (feq hc47_16).1) ?_
      show Steps _ _ _ (T15.setTop (mkF m 50 #[.val (.ref a), .val (.ref b), .val (.ref b)] [])) _
      refine XS.iconst X15.here hx rfl (hb hby d_jdk_42_method_66_code_50) ?_
      show Steps _ _ _ (T15.setTop (mkF m 51 #[.val (.ref a), .val (.ref b), .val (.ref b)] [(.int (1 : Int32))])) _
      refine XS.goto X15.here hx rfl (pc0 := 51) (pc' := 55) rfl (hb hby d_jdk_42_method_66_code_51) (by decide) (by decide) ?_
      show Steps _ _ _ (T15.setTop (mkF m 55 #[.val (.ref a), .val (.ref b), .val (.ref b)] [(.int (1 : Int32))])) _
      exact hq)
    have hE := e15
    refine retInt X15 hx hret hlk (by simp) rfl (hb hby d_jdk_42_method_66_code_55) k18 ?_ (by decide) (by decide)
    try rw [hE]
    exact ⟨congrArg (fun z => some (Value.int z)) (Eq.symm (own_if1 hc47_16)), N15, rfl⟩
set_option maxRecDepth 65536 in
set_option maxHeartbeats 40000000 in
theorem rm_lq02 (l : Launch) (Z : State) (a0 : Array Value) (hw : ∀ d ∈ tables_1, d.before a0 Z = true) (ta : Addr) (ka : ClassId) (tb : Addr) (kb : ClassId) (d0 : Int32) (d1 : Int32) (h0 : Heap) (n0 : Nat) (hn0 : n0 ≤ h0.size) (P0 : Arv Z h0 ta ka .byte (0 : Int32) [] (.int 0)) (P1 : Arv Z h0 tb kb .byte (2 : Int32) [(.int d0), (.int d1)] (.int 0)) :
    Con l Z (⟨"java/lang/StringLatin1", "equals", "([B[B)Z"⟩ : MethodName) jdk_43_method_13_code 3 (some .boolean) [] ({ frames := 0, cells := 0, slots := 0, locals := 0 } : Room) #[(.ref ta), (.ref tb)] h0 (fun v h L => v = some (.int (if ([] : List Int32) = [d0, d1] then (1 : Int32) else (0 : Int32))) ∧ Fr n0 L ∧ h = h0) := by
  refine enter (Ls := #[.val (.ref ta), .val (.ref tb), .unset]) (plainFor_of_name pn_3) (fun m => by exact entry_eq rfl) ?_
  intro p e s m below meth cd_ s₁ S0 hx hby hml hret hlk hnm hown hZ X0 e0 k0
  have N0 := Fr.nil n0
  have k1 : To p.tables e below S0 (s₁.setTop (mkF m 1 #[.val (.ref ta), .val (.ref tb), .unset] [(.ref ta)])) := fun tt hq => k0 tt (by
    show Steps _ _ _ (s₁.setTop (mkF m 0 #[.val (.ref ta), .val (.ref tb), .unset] [])) _
    refine XS.aloadN X0.here hx rfl (hb hby d_jdk_43_method_13_code_0) rfl rfl ?_
    show Steps _ _ _ (s₁.setTop (mkF m 1 #[.val (.ref ta), .val (.ref tb), .unset] [(.ref ta)])) _
    exact hq)
  obtain ⟨cl2, Ar2, -, S2, M2, -, -⟩ := id P0
  have st2 := fun tt => X0.arraylength hx (by rw [e0]; exact Ar2.1) (State.isArrayOf_alike hZ.alike Ar2.2.1) (g := (mkF m 1 #[.val (.ref ta), .val (.ref tb), .unset] [(.ref ta)])) rfl rfl (hb hby d_jdk_43_method_13_code_1) tt
  rw [len_of S2 M2] at st2
  have k2 : To p.tables e below S0 (s₁.setTop (mkF m 2 #[.val (.ref ta), .val (.ref tb), .unset] [(.int (0 : Int32))])) := fun tt hq => k1 tt (st2 tt hq)
  have k3 : To p.tables e below S0 (s₁.setTop (mkF m 3 #[.val (.ref ta), .val (.ref tb), .unset] [(.ref tb), (.int (0 : Int32))])) := fun tt hq => k2 tt (by
    show Steps _ _ _ (s₁.setTop (mkF m 2 #[.val (.ref ta), .val (.ref tb), .unset] [(.int (0 : Int32))])) _
    refine XS.aloadN X0.here hx rfl (hb hby d_jdk_43_method_13_code_2) rfl rfl ?_
    show Steps _ _ _ (s₁.setTop (mkF m 3 #[.val (.ref ta), .val (.ref tb), .unset] [(.ref tb), (.int (0 : Int32))])) _
    exact hq)
  obtain ⟨cl4, Ar4, -, S4, M4, -, -⟩ := id P1
  have st4 := fun tt => X0.arraylength hx (by rw [e0]; exact Ar4.1) (State.isArrayOf_alike hZ.alike Ar4.2.1) (g := (mkF m 3 #[.val (.ref ta), .val (.ref tb), .unset] [(.ref tb), (.int (0 : Int32))])) rfl rfl (hb hby d_jdk_43_method_13_code_3) tt
  rw [len_of S4 M4] at st4
  have k4 : To p.tables e below S0 (s₁.setTop (mkF m 4 #[.val (.ref ta), .val (.ref tb), .unset] [(.int (2 : Int32)), (.int (0 : Int32))])) := fun tt hq => k3 tt (st4 tt hq)
  have k5 : To p.tables e below S0 (s₁.setTop (mkF m 35 #[.val (.ref ta), .val (.ref tb), .unset] [(.int (0 : Int32))])) := fun tt hq => k4 tt (by
    show Steps _ _ _ (s₁.setTop (mkF m 4 #[.val (.ref ta), .val (.ref tb), .unset] [(.int (2 : Int32)), (.int (0 : Int32))])) _
    refine XS.icmpYes X0.here hx rfl (pc0 := 4) (pc' := 34) rfl (hb hby d_jdk_43_method_13_code_4) rfl (feq (by decide)).2 (by decide) (by decide) ?_
    show Steps _ _ _ (s₁.setTop (mkF m 34 #[.val (.ref ta), .val (.ref tb), .unset] [])) _
    refine XS.iconst X0.here hx rfl (hb hby d_jdk_43_method_13_code_34) ?_
    show Steps _ _ _ (s₁.setTop (mkF m 35 #[.val (.ref ta), .val (.ref tb), .unset] [(.int (0 : Int32))])) _
    exact hq)
  have hE := e0
  refine retInt X0 hx hret hlk (by simp) rfl (hb hby d_jdk_43_method_13_code_35) k5 ?_ (by decide) (by decide)
  try rw [hE]
  exact ⟨congrArg (fun z => some (Value.int z)) (Eq.symm (if_neg (fun q => by cases q))), N0, rfl⟩
set_option maxRecDepth 65536 in
set_option maxHeartbeats 40000000 in
theorem rm_sq02 (l : Launch) (Z : State) (a0 : Array Value) (hw : ∀ d ∈ tables_1, d.before a0 Z = true) (zc : Int32) (a : Addr) (b : Addr) (ta : Addr) (ka : ClassId) (tb : Addr) (kb : ClassId) (d0 : Int32) (d1 : Int32) (h0 : Heap) (n0 : Nat) (hn0 : n0 ≤ h0.size) (S_c : Sta Z Z.heap "java/lang/String" "COMPACT_STRINGS" "Z" (.int zc)) (hzc : ¬ zc = (0 : Int32)) (O0 : Old Z n0 h0) (hab : ¬ a = b) (P0 : Exa Z h0 a "java/lang/String") (P1 : Fld Z h0 a "java/lang/String" "value" "[B" (.ref ta)) (P2 : Fld Z h0 a "java/lang/String" "coder" "B" (.int (0 : Int32))) (P3 : Arv Z h0 ta ka .byte (0 : Int32) [] (.int 0)) (R0 : Exa Z h0 b "java/lang/String") (R1 : Fld Z h0 b "java/lang/String" "value" "[B" (.ref tb)) (R2 : Fld Z h0 b "java/lang/String" "coder" "B" (.int (0 : Int32))) (R3 : Arv Z h0 tb kb .byte (2 : Int32) [(.int d0), (.int d1)] (.int 0)) :
    Con l Z (⟨"java/lang/String", "equals", "(Ljava/lang/Object;)Z"⟩ : MethodName) jdk_42_method_66_code 3 (some .boolean) [] ({ frames := 1, cells := 0, slots := 0, locals := 14 } : Room) #[(.ref a), (.ref b)] h0 (fun v h L => v = some (.int (if ([] : List Int32) = [d0, d1] then (1 : Int32) else (0 : Int32))) ∧ Fr n0 L ∧ h = h0) := by
  refine enter (Ls := #[.val (.ref a), .val (.ref b), .unset]) (plainFor_of_name pn_2) (fun m => by exact entry_eq rfl) ?_
  intro p e s m below meth cd_ s₁ S0 hx hby hml hret hlk hnm hown hZ X0 e0 k0
  have N0 := Fr.nil n0
  have k1 : To p.tables e below S0 (s₁.setTop (mkF m 8 #[.val (.ref a), .val (.ref b), .unset] [(.ref b)])) := fun tt hq => k0 tt (by
    show Steps _ _ _ (s₁.setTop (mkF m 0 #[.val (.ref a), .val (.ref b), .unset] [])) _
    refine XS.aloadN X0.here hx rfl (hb hby d_jdk_42_method_66_code_0) rfl rfl ?_
    show Steps _ _ _ (s₁.setTop (mkF m 1 #[.val (.ref a), .val (.ref b), .unset] [(.ref a)])) _
    refine XS.aloadN X0.here hx rfl (hb hby d_jdk_42_method_66_code_1) rfl rfl ?_
    show Steps _ _ _ (s₁.setTop (mkF m 2 #[.val (.ref a), .val (.ref b), .unset] [(.ref b), (.ref a)])) _
    refine Jvm.RoadKit.acmp (g := (mkF m 2 #[.val (.ref a), .val (.ref b), .unset] [(.ref b), (.ref a)])) X0 hx rfl rfl rfl (pc0 := 2) (pc' := 7) (same := false) rfl (hb hby d_jdk_42_method_66_code_2) rfl (decide_eq_false fun q => hab (Value.ref.inj q)) (by decide) (by decide) ?_
    show Steps _ _ _ (s₁.setTop (mkF m 7 #[.val (.ref a), .val (.ref b), .unset] [])) _
    refine XS.aloadN X0.here hx rfl (hb hby d_jdk_42_method_66_code_7) rfl rfl ?_
    show Steps _ _ _ (s₁.setTop (mkF m 8 #[.val (.ref a), .val (.ref b), .unset] [(.ref b)])) _
    exact hq)
  obtain ⟨T2, X2, e2, st2⟩ := instY X0 hx hZ hown (hw _ (List.mem_of_getElem? (i := 85) rfl)) e0 (Ins.self R0) (g := (mkF m 8 #[.val (.ref a), .val (.ref b), .unset] [(.ref b)])) rfl rfl (hb hby d_jdk_42_method_66_code_8)
  have k2 : To p.tables e below S0 (T2.setTop (mkF m 11 #[.val (.ref a), .val (.ref b), .unset] [(.int (1 : Int32))])) := fun tt hq => k1 tt (st2 tt hq)
  have k3 : To p.tables e below S0 (T2.setTop (mkF m 15 #[.val (.ref a), .val (.ref b), .unset] [(.ref b)])) := fun tt hq => k2 tt (by
    show Steps _ _ _ (T2.setTop (mkF m 11 #[.val (.ref a), .val (.ref b), .unset] [(.int (1 : Int32))])) _
    refine XS.ifNo X2.here hx rfl (hb hby d_jdk_42_method_66_code_11) rfl ((if0 _ _).trans (feq (by decide)).1) ?_
    show Steps _ _ _ (T2.setTop (mkF m 14 #[.val (.ref a), .val (.ref b), .unset] [])) _
    refine XS.aloadN X2.here hx rfl (hb hby d_jdk_42_method_66_code_14) rfl rfl ?_
    show Steps _ _ _ (T2.setTop (mkF m 15 #[.val (.ref a), .val (.ref b), .unset] [(.ref b)])) _
    exact hq)
  obtain ⟨T4, X4, e4, st4⟩ := castY X2 hx hZ hown (hw _ (List.mem_of_getElem? (i := 85) rfl)) e2 (Ins.self R0) (g := (mkF m 15 #[.val (.ref a), .val (.ref b), .unset] [(.ref b)])) rfl rfl (hb hby d_jdk_42_method_66_code_15)
  have k4 : To p.tables e below S0 (T4.setTop (mkF m 18 #[.val (.ref a), .val (.ref b), .unset] [(.ref b)])) := fun tt hq => k3 tt (st4 tt hq)
  have k5 : To p.tables e below S0 (T4.setTop (mkF m 19 #[.val (.ref a), .val (.ref b), .val (.ref b)] [])) := fun tt hq => k4 tt (by
    show Steps _ _ _ (T4.setTop (mkF m 18 #[.val (.ref a), .val (.ref b), .unset] [(.ref b)])) _
    refine XS.astoreN X4.here hx rfl (hb hby d_jdk_42_method_66_code_18) rfl rfl (l' := #[.val (.ref a), .val (.ref b), .val (.ref b)]) rfl ?_
    show Steps _ _ _ (T4.setTop (mkF m 19 #[.val (.ref a), .val (.ref b), .val (.ref b)] [])) _
    exact hq)
  obtain ⟨T6, X6, e6, st6⟩ := getS2 X4 hx hZ hown (host := "") (Or.inl (hw _ (List.mem_of_getElem? (i := 42) rfl))) Via.refl e4 (staOld S_c O0) (g := (mkF m 19 #[.val (.ref a), .val (.ref b), .val (.ref b)] [])) rfl (hb hby d_jdk_42_method_66_code_19)
  have k6 : To p.tables e below S0 (T6.setTop (mkF m 22 #[.val (.ref a), .val (.ref b), .val (.ref b)] [(.int zc)])) := fun tt hq => k5 tt (st6 tt hq)
  have k7 : To p.tables e below S0 (T6.setTop (mkF m 26 #[.val (.ref a), .val (.ref b), .val (.ref b)] [(.ref a)])) := fun tt hq => k6 tt (by
    show Steps _ _ _ (T6.setTop (mkF m 22 #[.val (.ref a), .val (.ref b), .val (.ref b)] [(.int zc)])) _
    refine XS.ifNo X6.here hx rfl (hb hby d_jdk_42_method_66_code_22) rfl ((if0 _ _).trans (feq hzc).1) ?_
    show Steps _ _ _ (T6.setTop (mkF m 25 #[.val (.ref a), .val (.ref b), .val (.ref b)] [])) _
    refine XS.aloadN X6.here hx rfl (hb hby d_jdk_42_method_66_code_25) rfl rfl ?_
    show Steps _ _ _ (T6.setTop (mkF m 26 #[.val (.ref a), .val (.ref b), .val (.ref b)] [(.ref a)])) _
    exact hq)
  obtain ⟨T8, X8, e8, st8⟩ := getF X6 hx hZ hown (host := "") (Or.inl (hw _ (List.mem_of_getElem? (i := 35) rfl))) Via.refl e6 P2 (g := (mkF m 26 #[.val (.ref a), .val (.ref b), .val (.ref b)] [(.ref a)])) rfl rfl (hb hby d_jdk_42_method_66_code_26)
  have k8 : To p.tables e below S0 (T8.setTop (mkF m 29 #[.val (.ref a), .val (.ref b), .val (.ref b)] [(.int (0 : Int32))])) := fun tt hq => k7 tt (st8 tt hq)
  have k9 : To p.tables e below S0 (T8.setTop (mkF m 30 #[.val (.ref a), .val (.ref b), .val (.ref b)] [(.ref b), (.int (0 : Int32))])) := fun tt hq => k8 tt (by
    show Steps _ _ _ (T8.setTop (mkF m 29 #[.val (.ref a), .val (.ref b), .val (.ref b)] [(.int (0 : Int32))])) _
    refine XS.aloadN X8.here hx rfl (hb hby d_jdk_42_method_66_code_29) rfl rfl ?_
    show Steps _ _ _ (T8.setTop (mkF m 30 #[.val (.ref a), .val (.ref b), .val (.ref b)] [(.ref b), (.int (0 : Int32))])) _
    exact hq)
  obtain ⟨T10, X10, e10, st10⟩ := getF X8 hx hZ hown (host := "") (Or.inl (hw _ (List.mem_of_getElem? (i := 35) rfl))) Via.refl e8 R2 (g := (mkF m 30 #[.val (.ref a), .val (.ref b), .val (.ref b)] [(.ref b), (.int (0 : Int32))])) rfl rfl (hb hby d_jdk_42_method_66_code_30)
  have k10 : To p.tables e below S0 (T10.setTop (mkF m 33 #[.val (.ref a), .val (.ref b), .val (.ref b)] [(.int (0 : Int32)), (.int (0 : Int32))])) := fun tt hq => k9 tt (st10 tt hq)
  have k11 : To p.tables e below S0 (T10.setTop (mkF m 37 #[.val (.ref a), .val (.ref b), .val (.ref b)] [(.ref a)])) := fun tt hq => k10 tt (by
    show Steps _ _ _ (T10.setTop (mkF m 33 #[.val (.ref a), .val (.ref b), .val (.ref b)] [(.int (0 : Int32)), (.int (0 : Int32))])) _
    refine XS.icmpNo X10.here hx rfl (hb hby d_jdk_42_method_66_code_33) rfl (teq (by decide)).2 ?_
    show Steps _ _ _ (T10.setTop (mkF m 36 #[.val (.ref a), .val (.ref b), .val (.ref b)] [])) _
    refine XS.aloadN X10.here hx rfl (hb hby d_jdk_42_method_66_code_36) rfl rfl ?_
    show Steps _ _ _ (T10.setTop (mkF m 37 #[.val (.ref a), .val (.ref b), .val (.ref b)] [(.ref a)])) _
    exact hq)
  obtain ⟨T12, X12, e12, st12⟩ := getF X10 hx hZ hown (host := "") (Or.inl (hw _ (List.mem_of_getElem? (i := 34) rfl))) Via.refl e10 P1 (g := (mkF m 37 #[.val (.ref a), .val (.ref b), .val (.ref b)] [(.ref a)])) rfl rfl (hb hby d_jdk_42_method_66_code_37)
  have k12 : To p.tables e below S0 (T12.setTop (mkF m 40 #[.val (.ref a), .val (.ref b), .val (.ref b)] [(.ref ta)])) := fun tt hq => k11 tt (st12 tt hq)
  have k13 : To p.tables e below S0 (T12.setTop (mkF m 41 #[.val (.ref a), .val (.ref b), .val (.ref b)] [(.ref b), (.ref ta)])) := fun tt hq => k12 tt (by
    show Steps _ _ _ (T12.setTop (mkF m 40 #[.val (.ref a), .val (.ref b), .val (.ref b)] [(.ref ta)])) _
    refine XS.aloadN X12.here hx rfl (hb hby d_jdk_42_method_66_code_40) rfl rfl ?_
    show Steps _ _ _ (T12.setTop (mkF m 41 #[.val (.ref a), .val (.ref b), .val (.ref b)] [(.ref b), (.ref ta)])) _
    exact hq)
  obtain ⟨T14, X14, e14, st14⟩ := getF X12 hx hZ hown (host := "") (Or.inl (hw _ (List.mem_of_getElem? (i := 34) rfl))) Via.refl e12 R1 (g := (mkF m 41 #[.val (.ref a), .val (.ref b), .val (.ref b)] [(.ref b), (.ref ta)])) rfl rfl (hb hby d_jdk_42_method_66_code_41)
  have k14 : To p.tables e below S0 (T14.setTop (mkF m 44 #[.val (.ref a), .val (.ref b), .val (.ref b)] [(.ref tb), (.ref ta)])) := fun tt hq => k13 tt (st14 tt hq)
  obtain ⟨_, T15, L15, X15, ⟨rfl, Nq15, eq15⟩, k15a⟩ := callS' X14 hx hZ (y := (⟨"java/lang/StringLatin1", "equals", "([B[B)Z"⟩ : MethodName)) hown (hw _ (List.mem_of_getElem? (i := 86) rfl)) (hw _ (List.mem_of_getElem? (i := 87) rfl)) (hw _ (List.mem_of_getElem? (i := 88) rfl)) (hw _ (List.mem_of_getElem? (i := 89) rfl)) (by decide) (backC (W := 0) (rm_lq02 l Z a0 hw ta ka  tb kb d0 d1 h0 n0 (by omega) P3 R3) hZ (hw _ (List.mem_of_getElem? (i := 89) rfl)) (hw _ (List.mem_of_getElem? (i := 88) rfl)) (by decide) (by decide)) e14 (argsL := [(.ref ta), (.ref tb)]) (rest := []) rfl rfl pd_8 rfl (by rw [hml]; rfl) (hb hby d_jdk_42_method_66_code_44) (Nat.le_of_eq rfl) (by decide) (by decide) k14
  have k15 : To p.tables e below S0 (T15.setTop (mkF m 47 #[.val (.ref a), .val (.ref b), .val (.ref b)] [(.int (if ([] : List Int32) = [d0, d1] then (1 : Int32) else (0 : Int32)))])) := k15a
  have N15 := N0.app Nq15
  have e15 : T15.heap = h0 := eq15
  by_cases hc47_16 : (if ([] : List Int32) = [d0, d1] then (1 : Int32) else (0 : Int32)) = (0 : Int32)
  · -- pc 47, holds
    have k17 : To p.tables e below S0 (T15.setTop (mkF m 55 #[.val (.ref a), .val (.ref b), .val (.ref b)] [(.int (0 : Int32))])) := fun tt hq => k15 tt (by
      show Steps _ _ _ (T15.setTop (mkF m 47 #[.val (.ref a), .val (.ref b), .val (.ref b)] [(.int (if ([] : List Int32) = [d0, d1] then (1 : Int32) else (0 : Int32)))])) _
      refine XS.ifYes X15.here hx rfl (pc0 := 47) (pc' := 54) rfl (hb hby d_jdk_42_method_66_code_47) rfl ((if0 _ _).trans (teq hc47_16).1) (by decide) (by decide) ?_
      show Steps _ _ _ (T15.setTop (mkF m 54 #[.val (.ref a), .val (.ref b), .val (.ref b)] [])) _
      refine XS.iconst X15.here hx rfl (hb hby d_jdk_42_method_66_code_54) ?_
      show Steps _ _ _ (T15.setTop (mkF m 55 #[.val (.ref a), .val (.ref b), .val (.ref b)] [(.int (0 : Int32))])) _
      exact hq)
    have hE := e15
    refine retInt X15 hx hret hlk (by simp) rfl (hb hby d_jdk_42_method_66_code_55) k17 ?_ (by decide) (by decide)
    try rw [hE]
    exact ⟨congrArg (fun z => some (Value.int z)) (Eq.symm hc47_16), N15, rfl⟩
  · -- pc 47, holds not
    have k18 : To p.tables e below S0 (T15.setTop (mkF m 55 #[.val (.ref a), .val (.ref b), .val (.ref b)] [(.int (1 : Int32))])) := fun tt hq => k15 tt (by
      show Steps _ _ _ (T15.setTop (mkF m 47 #[.val (.ref a), .val (.ref b), .val (.ref b)] [(.int (if ([] : List Int32) = [d0, d1] then (1 : Int32) else (0 : Int32)))])) _
      refine XS.ifNo X15.here hx rfl (hb hby d_jdk_42_method_66_code_47) rfl ((if0 _ _).trans (feq hc47_16).1) ?_
      show Steps _ _ _ (T15.setTop (mkF m 50 #[.val (.ref a), .val (.ref b), .val (.ref b)] [])) _
      refine XS.iconst X15.here hx rfl (hb hby d_jdk_42_method_66_code_50) ?_
      show Steps _ _ _ (T15.setTop (mkF m 51 #[.val (.ref a), .val (.ref b), .val (.ref b)] [(.int (1 : Int32))])) _
      refine XS.goto X15.here hx rfl (pc0 := 51) (pc' := 55) rfl (hb hby d_jdk_42_method_66_code_51) (by decide) (by decide) ?_
      show Steps _ _ _ (T15.setTop (mkF m 55 #[.val (.ref a), .val (.ref b), .val (.ref b)] [(.int (1 : Int32))])) _
      exact hq)
    have hE := e15
    refine retInt X15 hx hret hlk (by simp) rfl (hb hby d_jdk_42_method_66_code_55) k18 ?_ (by decide) (by decide)
    try rw [hE]
    exact ⟨congrArg (fun z => some (Value.int z)) (Eq.symm (own_if1 hc47_16)), N15, rfl⟩
set_option maxRecDepth 65536 in
set_option maxHeartbeats 40000000 in
theorem rm_lq10 (l : Launch) (Z : State) (a0 : Array Value) (hw : ∀ d ∈ tables_1, d.before a0 Z = true) (ta : Addr) (ka : ClassId) (c0 : Int32) (tb : Addr) (kb : ClassId) (h0 : Heap) (n0 : Nat) (hn0 : n0 ≤ h0.size) (P0 : Arv Z h0 ta ka .byte (1 : Int32) [(.int c0)] (.int 0)) (P1 : Arv Z h0 tb kb .byte (0 : Int32) [] (.int 0)) :
    Con l Z (⟨"java/lang/StringLatin1", "equals", "([B[B)Z"⟩ : MethodName) jdk_43_method_13_code 3 (some .boolean) [] ({ frames := 0, cells := 0, slots := 0, locals := 0 } : Room) #[(.ref ta), (.ref tb)] h0 (fun v h L => v = some (.int (if ([c0] : List Int32) = [] then (1 : Int32) else (0 : Int32))) ∧ Fr n0 L ∧ h = h0) := by
  refine enter (Ls := #[.val (.ref ta), .val (.ref tb), .unset]) (plainFor_of_name pn_3) (fun m => by exact entry_eq rfl) ?_
  intro p e s m below meth cd_ s₁ S0 hx hby hml hret hlk hnm hown hZ X0 e0 k0
  have N0 := Fr.nil n0
  have k1 : To p.tables e below S0 (s₁.setTop (mkF m 1 #[.val (.ref ta), .val (.ref tb), .unset] [(.ref ta)])) := fun tt hq => k0 tt (by
    show Steps _ _ _ (s₁.setTop (mkF m 0 #[.val (.ref ta), .val (.ref tb), .unset] [])) _
    refine XS.aloadN X0.here hx rfl (hb hby d_jdk_43_method_13_code_0) rfl rfl ?_
    show Steps _ _ _ (s₁.setTop (mkF m 1 #[.val (.ref ta), .val (.ref tb), .unset] [(.ref ta)])) _
    exact hq)
  obtain ⟨cl2, Ar2, -, S2, M2, -, -⟩ := id P0
  have st2 := fun tt => X0.arraylength hx (by rw [e0]; exact Ar2.1) (State.isArrayOf_alike hZ.alike Ar2.2.1) (g := (mkF m 1 #[.val (.ref ta), .val (.ref tb), .unset] [(.ref ta)])) rfl rfl (hb hby d_jdk_43_method_13_code_1) tt
  rw [len_of S2 M2] at st2
  have k2 : To p.tables e below S0 (s₁.setTop (mkF m 2 #[.val (.ref ta), .val (.ref tb), .unset] [(.int (1 : Int32))])) := fun tt hq => k1 tt (st2 tt hq)
  have k3 : To p.tables e below S0 (s₁.setTop (mkF m 3 #[.val (.ref ta), .val (.ref tb), .unset] [(.ref tb), (.int (1 : Int32))])) := fun tt hq => k2 tt (by
    show Steps _ _ _ (s₁.setTop (mkF m 2 #[.val (.ref ta), .val (.ref tb), .unset] [(.int (1 : Int32))])) _
    refine XS.aloadN X0.here hx rfl (hb hby d_jdk_43_method_13_code_2) rfl rfl ?_
    show Steps _ _ _ (s₁.setTop (mkF m 3 #[.val (.ref ta), .val (.ref tb), .unset] [(.ref tb), (.int (1 : Int32))])) _
    exact hq)
  obtain ⟨cl4, Ar4, -, S4, M4, -, -⟩ := id P1
  have st4 := fun tt => X0.arraylength hx (by rw [e0]; exact Ar4.1) (State.isArrayOf_alike hZ.alike Ar4.2.1) (g := (mkF m 3 #[.val (.ref ta), .val (.ref tb), .unset] [(.ref tb), (.int (1 : Int32))])) rfl rfl (hb hby d_jdk_43_method_13_code_3) tt
  rw [len_of S4 M4] at st4
  have k4 : To p.tables e below S0 (s₁.setTop (mkF m 4 #[.val (.ref ta), .val (.ref tb), .unset] [(.int (0 : Int32)), (.int (1 : Int32))])) := fun tt hq => k3 tt (st4 tt hq)
  have k5 : To p.tables e below S0 (s₁.setTop (mkF m 35 #[.val (.ref ta), .val (.ref tb), .unset] [(.int (0 : Int32))])) := fun tt hq => k4 tt (by
    show Steps _ _ _ (s₁.setTop (mkF m 4 #[.val (.ref ta), .val (.ref tb), .unset] [(.int (0 : Int32)), (.int (1 : Int32))])) _
    refine XS.icmpYes X0.here hx rfl (pc0 := 4) (pc' := 34) rfl (hb hby d_jdk_43_method_13_code_4) rfl (feq (by decide)).2 (by decide) (by decide) ?_
    show Steps _ _ _ (s₁.setTop (mkF m 34 #[.val (.ref ta), .val (.ref tb), .unset] [])) _
    refine XS.iconst X0.here hx rfl (hb hby d_jdk_43_method_13_code_34) ?_
    show Steps _ _ _ (s₁.setTop (mkF m 35 #[.val (.ref ta), .val (.ref tb), .unset] [(.int (0 : Int32))])) _
    exact hq)
  have hE := e0
  refine retInt X0 hx hret hlk (by simp) rfl (hb hby d_jdk_43_method_13_code_35) k5 ?_ (by decide) (by decide)
  try rw [hE]
  exact ⟨congrArg (fun z => some (Value.int z)) (Eq.symm (if_neg (fun q => by cases q))), N0, rfl⟩
set_option maxRecDepth 65536 in
set_option maxHeartbeats 40000000 in
theorem rm_sq10 (l : Launch) (Z : State) (a0 : Array Value) (hw : ∀ d ∈ tables_1, d.before a0 Z = true) (zc : Int32) (a : Addr) (b : Addr) (ta : Addr) (ka : ClassId) (c0 : Int32) (tb : Addr) (kb : ClassId) (h0 : Heap) (n0 : Nat) (hn0 : n0 ≤ h0.size) (S_c : Sta Z Z.heap "java/lang/String" "COMPACT_STRINGS" "Z" (.int zc)) (hzc : ¬ zc = (0 : Int32)) (O0 : Old Z n0 h0) (hab : ¬ a = b) (P0 : Exa Z h0 a "java/lang/String") (P1 : Fld Z h0 a "java/lang/String" "value" "[B" (.ref ta)) (P2 : Fld Z h0 a "java/lang/String" "coder" "B" (.int (0 : Int32))) (P3 : Arv Z h0 ta ka .byte (1 : Int32) [(.int c0)] (.int 0)) (R0 : Exa Z h0 b "java/lang/String") (R1 : Fld Z h0 b "java/lang/String" "value" "[B" (.ref tb)) (R2 : Fld Z h0 b "java/lang/String" "coder" "B" (.int (0 : Int32))) (R3 : Arv Z h0 tb kb .byte (0 : Int32) [] (.int 0)) :
    Con l Z (⟨"java/lang/String", "equals", "(Ljava/lang/Object;)Z"⟩ : MethodName) jdk_42_method_66_code 3 (some .boolean) [] ({ frames := 1, cells := 0, slots := 0, locals := 14 } : Room) #[(.ref a), (.ref b)] h0 (fun v h L => v = some (.int (if ([c0] : List Int32) = [] then (1 : Int32) else (0 : Int32))) ∧ Fr n0 L ∧ h = h0) := by
  refine enter (Ls := #[.val (.ref a), .val (.ref b), .unset]) (plainFor_of_name pn_2) (fun m => by exact entry_eq rfl) ?_
  intro p e s m below meth cd_ s₁ S0 hx hby hml hret hlk hnm hown hZ X0 e0 k0
  have N0 := Fr.nil n0
  have k1 : To p.tables e below S0 (s₁.setTop (mkF m 8 #[.val (.ref a), .val (.ref b), .unset] [(.ref b)])) := fun tt hq => k0 tt (by
    show Steps _ _ _ (s₁.setTop (mkF m 0 #[.val (.ref a), .val (.ref b), .unset] [])) _
    refine XS.aloadN X0.here hx rfl (hb hby d_jdk_42_method_66_code_0) rfl rfl ?_
    show Steps _ _ _ (s₁.setTop (mkF m 1 #[.val (.ref a), .val (.ref b), .unset] [(.ref a)])) _
    refine XS.aloadN X0.here hx rfl (hb hby d_jdk_42_method_66_code_1) rfl rfl ?_
    show Steps _ _ _ (s₁.setTop (mkF m 2 #[.val (.ref a), .val (.ref b), .unset] [(.ref b), (.ref a)])) _
    refine Jvm.RoadKit.acmp (g := (mkF m 2 #[.val (.ref a), .val (.ref b), .unset] [(.ref b), (.ref a)])) X0 hx rfl rfl rfl (pc0 := 2) (pc' := 7) (same := false) rfl (hb hby d_jdk_42_method_66_code_2) rfl (decide_eq_false fun q => hab (Value.ref.inj q)) (by decide) (by decide) ?_
    show Steps _ _ _ (s₁.setTop (mkF m 7 #[.val (.ref a), .val (.ref b), .unset] [])) _
    refine XS.aloadN X0.here hx rfl (hb hby d_jdk_42_method_66_code_7) rfl rfl ?_
    show Steps _ _ _ (s₁.setTop (mkF m 8 #[.val (.ref a), .val (.ref b), .unset] [(.ref b)])) _
    exact hq)
  obtain ⟨T2, X2, e2, st2⟩ := instY X0 hx hZ hown (hw _ (List.mem_of_getElem? (i := 85) rfl)) e0 (Ins.self R0) (g := (mkF m 8 #[.val (.ref a), .val (.ref b), .unset] [(.ref b)])) rfl rfl (hb hby d_jdk_42_method_66_code_8)
  have k2 : To p.tables e below S0 (T2.setTop (mkF m 11 #[.val (.ref a), .val (.ref b), .unset] [(.int (1 : Int32))])) := fun tt hq => k1 tt (st2 tt hq)
  have k3 : To p.tables e below S0 (T2.setTop (mkF m 15 #[.val (.ref a), .val (.ref b), .unset] [(.ref b)])) := fun tt hq => k2 tt (by
    show Steps _ _ _ (T2.setTop (mkF m 11 #[.val (.ref a), .val (.ref b), .unset] [(.int (1 : Int32))])) _
    refine XS.ifNo X2.here hx rfl (hb hby d_jdk_42_method_66_code_11) rfl ((if0 _ _).trans (feq (by decide)).1) ?_
    show Steps _ _ _ (T2.setTop (mkF m 14 #[.val (.ref a), .val (.ref b), .unset] [])) _
    refine XS.aloadN X2.here hx rfl (hb hby d_jdk_42_method_66_code_14) rfl rfl ?_
    show Steps _ _ _ (T2.setTop (mkF m 15 #[.val (.ref a), .val (.ref b), .unset] [(.ref b)])) _
    exact hq)
  obtain ⟨T4, X4, e4, st4⟩ := castY X2 hx hZ hown (hw _ (List.mem_of_getElem? (i := 85) rfl)) e2 (Ins.self R0) (g := (mkF m 15 #[.val (.ref a), .val (.ref b), .unset] [(.ref b)])) rfl rfl (hb hby d_jdk_42_method_66_code_15)
  have k4 : To p.tables e below S0 (T4.setTop (mkF m 18 #[.val (.ref a), .val (.ref b), .unset] [(.ref b)])) := fun tt hq => k3 tt (st4 tt hq)
  have k5 : To p.tables e below S0 (T4.setTop (mkF m 19 #[.val (.ref a), .val (.ref b), .val (.ref b)] [])) := fun tt hq => k4 tt (by
    show Steps _ _ _ (T4.setTop (mkF m 18 #[.val (.ref a), .val (.ref b), .unset] [(.ref b)])) _
    refine XS.astoreN X4.here hx rfl (hb hby d_jdk_42_method_66_code_18) rfl rfl (l' := #[.val (.ref a), .val (.ref b), .val (.ref b)]) rfl ?_
    show Steps _ _ _ (T4.setTop (mkF m 19 #[.val (.ref a), .val (.ref b), .val (.ref b)] [])) _
    exact hq)
  obtain ⟨T6, X6, e6, st6⟩ := getS2 X4 hx hZ hown (host := "") (Or.inl (hw _ (List.mem_of_getElem? (i := 42) rfl))) Via.refl e4 (staOld S_c O0) (g := (mkF m 19 #[.val (.ref a), .val (.ref b), .val (.ref b)] [])) rfl (hb hby d_jdk_42_method_66_code_19)
  have k6 : To p.tables e below S0 (T6.setTop (mkF m 22 #[.val (.ref a), .val (.ref b), .val (.ref b)] [(.int zc)])) := fun tt hq => k5 tt (st6 tt hq)
  have k7 : To p.tables e below S0 (T6.setTop (mkF m 26 #[.val (.ref a), .val (.ref b), .val (.ref b)] [(.ref a)])) := fun tt hq => k6 tt (by
    show Steps _ _ _ (T6.setTop (mkF m 22 #[.val (.ref a), .val (.ref b), .val (.ref b)] [(.int zc)])) _
    refine XS.ifNo X6.here hx rfl (hb hby d_jdk_42_method_66_code_22) rfl ((if0 _ _).trans (feq hzc).1) ?_
    show Steps _ _ _ (T6.setTop (mkF m 25 #[.val (.ref a), .val (.ref b), .val (.ref b)] [])) _
    refine XS.aloadN X6.here hx rfl (hb hby d_jdk_42_method_66_code_25) rfl rfl ?_
    show Steps _ _ _ (T6.setTop (mkF m 26 #[.val (.ref a), .val (.ref b), .val (.ref b)] [(.ref a)])) _
    exact hq)
  obtain ⟨T8, X8, e8, st8⟩ := getF X6 hx hZ hown (host := "") (Or.inl (hw _ (List.mem_of_getElem? (i := 35) rfl))) Via.refl e6 P2 (g := (mkF m 26 #[.val (.ref a), .val (.ref b), .val (.ref b)] [(.ref a)])) rfl rfl (hb hby d_jdk_42_method_66_code_26)
  have k8 : To p.tables e below S0 (T8.setTop (mkF m 29 #[.val (.ref a), .val (.ref b), .val (.ref b)] [(.int (0 : Int32))])) := fun tt hq => k7 tt (st8 tt hq)
  have k9 : To p.tables e below S0 (T8.setTop (mkF m 30 #[.val (.ref a), .val (.ref b), .val (.ref b)] [(.ref b), (.int (0 : Int32))])) := fun tt hq => k8 tt (by
    show Steps _ _ _ (T8.setTop (mkF m 29 #[.val (.ref a), .val (.ref b), .val (.ref b)] [(.int (0 : Int32))])) _
    refine XS.aloadN X8.here hx rfl (hb hby d_jdk_42_method_66_code_29) rfl rfl ?_
    show Steps _ _ _ (T8.setTop (mkF m 30 #[.val (.ref a), .val (.ref b), .val (.ref b)] [(.ref b), (.int (0 : Int32))])) _
    exact hq)
  obtain ⟨T10, X10, e10, st10⟩ := getF X8 hx hZ hown (host := "") (Or.inl (hw _ (List.mem_of_getElem? (i := 35) rfl))) Via.refl e8 R2 (g := (mkF m 30 #[.val (.ref a), .val (.ref b), .val (.ref b)] [(.ref b), (.int (0 : Int32))])) rfl rfl (hb hby d_jdk_42_method_66_code_30)
  have k10 : To p.tables e below S0 (T10.setTop (mkF m 33 #[.val (.ref a), .val (.ref b), .val (.ref b)] [(.int (0 : Int32)), (.int (0 : Int32))])) := fun tt hq => k9 tt (st10 tt hq)
  have k11 : To p.tables e below S0 (T10.setTop (mkF m 37 #[.val (.ref a), .val (.ref b), .val (.ref b)] [(.ref a)])) := fun tt hq => k10 tt (by
    show Steps _ _ _ (T10.setTop (mkF m 33 #[.val (.ref a), .val (.ref b), .val (.ref b)] [(.int (0 : Int32)), (.int (0 : Int32))])) _
    refine XS.icmpNo X10.here hx rfl (hb hby d_jdk_42_method_66_code_33) rfl (teq (by decide)).2 ?_
    show Steps _ _ _ (T10.setTop (mkF m 36 #[.val (.ref a), .val (.ref b), .val (.ref b)] [])) _
    refine XS.aloadN X10.here hx rfl (hb hby d_jdk_42_method_66_code_36) rfl rfl ?_
    show Steps _ _ _ (T10.setTop (mkF m 37 #[.val (.ref a), .val (.ref b), .val (.ref b)] [(.ref a)])) _
    exact hq)
  obtain ⟨T12, X12, e12, st12⟩ := getF X10 hx hZ hown (host := "") (Or.inl (hw _ (List.mem_of_getElem? (i := 34) rfl))) Via.refl e10 P1 (g := (mkF m 37 #[.val (.ref a), .val (.ref b), .val (.ref b)] [(.ref a)])) rfl rfl (hb hby d_jdk_42_method_66_code_37)
  have k12 : To p.tables e below S0 (T12.setTop (mkF m 40 #[.val (.ref a), .val (.ref b), .val (.ref b)] [(.ref ta)])) := fun tt hq => k11 tt (st12 tt hq)
  have k13 : To p.tables e below S0 (T12.setTop (mkF m 41 #[.val (.ref a), .val (.ref b), .val (.ref b)] [(.ref b), (.ref ta)])) := fun tt hq => k12 tt (by
    show Steps _ _ _ (T12.setTop (mkF m 40 #[.val (.ref a), .val (.ref b), .val (.ref b)] [(.ref ta)])) _
    refine XS.aloadN X12.here hx rfl (hb hby d_jdk_42_method_66_code_40) rfl rfl ?_
    show Steps _ _ _ (T12.setTop (mkF m 41 #[.val (.ref a), .val (.ref b), .val (.ref b)] [(.ref b), (.ref ta)])) _
    exact hq)
  obtain ⟨T14, X14, e14, st14⟩ := getF X12 hx hZ hown (host := "") (Or.inl (hw _ (List.mem_of_getElem? (i := 34) rfl))) Via.refl e12 R1 (g := (mkF m 41 #[.val (.ref a), .val (.ref b), .val (.ref b)] [(.ref b), (.ref ta)])) rfl rfl (hb hby d_jdk_42_method_66_code_41)
  have k14 : To p.tables e below S0 (T14.setTop (mkF m 44 #[.val (.ref a), .val (.ref b), .val (.ref b)] [(.ref tb), (.ref ta)])) := fun tt hq => k13 tt (st14 tt hq)
  obtain ⟨_, T15, L15, X15, ⟨rfl, Nq15, eq15⟩, k15a⟩ := callS' X14 hx hZ (y := (⟨"java/lang/StringLatin1", "equals", "([B[B)Z"⟩ : MethodName)) hown (hw _ (List.mem_of_getElem? (i := 86) rfl)) (hw _ (List.mem_of_getElem? (i := 87) rfl)) (hw _ (List.mem_of_getElem? (i := 88) rfl)) (hw _ (List.mem_of_getElem? (i := 89) rfl)) (by decide) (backC (W := 0) (rm_lq10 l Z a0 hw ta ka c0 tb kb  h0 n0 (by omega) P3 R3) hZ (hw _ (List.mem_of_getElem? (i := 89) rfl)) (hw _ (List.mem_of_getElem? (i := 88) rfl)) (by decide) (by decide)) e14 (argsL := [(.ref ta), (.ref tb)]) (rest := []) rfl rfl pd_8 rfl (by rw [hml]; rfl) (hb hby d_jdk_42_method_66_code_44) (Nat.le_of_eq rfl) (by decide) (by decide) k14
  have k15 : To p.tables e below S0 (T15.setTop (mkF m 47 #[.val (.ref a), .val (.ref b), .val (.ref b)] [(.int (if ([c0] : List Int32) = [] then (1 : Int32) else (0 : Int32)))])) := k15a
  have N15 := N0.app Nq15
  have e15 : T15.heap = h0 := eq15
  by_cases hc47_16 : (if ([c0] : List Int32) = [] then (1 : Int32) else (0 : Int32)) = (0 : Int32)
  · -- pc 47, holds
    have k17 : To p.tables e below S0 (T15.setTop (mkF m 55 #[.val (.ref a), .val (.ref b), .val (.ref b)] [(.int (0 : Int32))])) := fun tt hq => k15 tt (by
      show Steps _ _ _ (T15.setTop (mkF m 47 #[.val (.ref a), .val (.ref b), .val (.ref b)] [(.int (if ([c0] : List Int32) = [] then (1 : Int32) else (0 : Int32)))])) _
      refine XS.ifYes X15.here hx rfl (pc0 := 47) (pc' := 54) rfl (hb hby d_jdk_42_method_66_code_47) rfl ((if0 _ _).trans (teq hc47_16).1) (by decide) (by decide) ?_
      show Steps _ _ _ (T15.setTop (mkF m 54 #[.val (.ref a), .val (.ref b), .val (.ref b)] [])) _
      refine XS.iconst X15.here hx rfl (hb hby d_jdk_42_method_66_code_54) ?_
      show Steps _ _ _ (T15.setTop (mkF m 55 #[.val (.ref a), .val (.ref b), .val (.ref b)] [(.int (0 : Int32))])) _
      exact hq)
    have hE := e15
    refine retInt X15 hx hret hlk (by simp) rfl (hb hby d_jdk_42_method_66_code_55) k17 ?_ (by decide) (by decide)
    try rw [hE]
    exact ⟨congrArg (fun z => some (Value.int z)) (Eq.symm hc47_16), N15, rfl⟩
  · -- pc 47, holds not
    have k18 : To p.tables e below S0 (T15.setTop (mkF m 55 #[.val (.ref a), .val (.ref b), .val (.ref b)] [(.int (1 : Int32))])) := fun tt hq => k15 tt (by
      show Steps _ _ _ (T15.setTop (mkF m 47 #[.val (.ref a), .val (.ref b), .val (.ref b)] [(.int (if ([c0] : List Int32) = [] then (1 : Int32) else (0 : Int32)))])) _
      refine XS.ifNo X15.here hx rfl (hb hby d_jdk_42_method_66_code_47) rfl ((if0 _ _).trans (feq hc47_16).1) ?_
      show Steps _ _ _ (T15.setTop (mkF m 50 #[.val (.ref a), .val (.ref b), .val (.ref b)] [])) _
      refine XS.iconst X15.here hx rfl (hb hby d_jdk_42_method_66_code_50) ?_
      show Steps _ _ _ (T15.setTop (mkF m 51 #[.val (.ref a), .val (.ref b), .val (.ref b)] [(.int (1 : Int32))])) _
      refine XS.goto X15.here hx rfl (pc0 := 51) (pc' := 55) rfl (hb hby d_jdk_42_method_66_code_51) (by decide) (by decide) ?_
      show Steps _ _ _ (T15.setTop (mkF m 55 #[.val (.ref a), .val (.ref b), .val (.ref b)] [(.int (1 : Int32))])) _
      exact hq)
    have hE := e15
    refine retInt X15 hx hret hlk (by simp) rfl (hb hby d_jdk_42_method_66_code_55) k18 ?_ (by decide) (by decide)
    try rw [hE]
    exact ⟨congrArg (fun z => some (Value.int z)) (Eq.symm (own_if1 hc47_16)), N15, rfl⟩
set_option maxRecDepth 65536 in
set_option maxHeartbeats 40000000 in
theorem rm_lq11 (l : Launch) (Z : State) (a0 : Array Value) (hw : ∀ d ∈ tables_1, d.before a0 Z = true) (ta : Addr) (ka : ClassId) (c0 : Int32) (tb : Addr) (kb : ClassId) (d0 : Int32) (h0 : Heap) (n0 : Nat) (hn0 : n0 ≤ h0.size) (P0 : Arv Z h0 ta ka .byte (1 : Int32) [(.int c0)] (.int 0)) (P1 : Arv Z h0 tb kb .byte (1 : Int32) [(.int d0)] (.int 0)) :
    Con l Z (⟨"java/lang/StringLatin1", "equals", "([B[B)Z"⟩ : MethodName) jdk_43_method_13_code 3 (some .boolean) [] ({ frames := 0, cells := 0, slots := 0, locals := 0 } : Room) #[(.ref ta), (.ref tb)] h0 (fun v h L => v = some (.int (if ([c0] : List Int32) = [d0] then (1 : Int32) else (0 : Int32))) ∧ Fr n0 L ∧ h = h0) := by
  refine enter (Ls := #[.val (.ref ta), .val (.ref tb), .unset]) (plainFor_of_name pn_3) (fun m => by exact entry_eq rfl) ?_
  intro p e s m below meth cd_ s₁ S0 hx hby hml hret hlk hnm hown hZ X0 e0 k0
  have N0 := Fr.nil n0
  have k1 : To p.tables e below S0 (s₁.setTop (mkF m 1 #[.val (.ref ta), .val (.ref tb), .unset] [(.ref ta)])) := fun tt hq => k0 tt (by
    show Steps _ _ _ (s₁.setTop (mkF m 0 #[.val (.ref ta), .val (.ref tb), .unset] [])) _
    refine XS.aloadN X0.here hx rfl (hb hby d_jdk_43_method_13_code_0) rfl rfl ?_
    show Steps _ _ _ (s₁.setTop (mkF m 1 #[.val (.ref ta), .val (.ref tb), .unset] [(.ref ta)])) _
    exact hq)
  obtain ⟨cl2, Ar2, -, S2, M2, -, -⟩ := id P0
  have st2 := fun tt => X0.arraylength hx (by rw [e0]; exact Ar2.1) (State.isArrayOf_alike hZ.alike Ar2.2.1) (g := (mkF m 1 #[.val (.ref ta), .val (.ref tb), .unset] [(.ref ta)])) rfl rfl (hb hby d_jdk_43_method_13_code_1) tt
  rw [len_of S2 M2] at st2
  have k2 : To p.tables e below S0 (s₁.setTop (mkF m 2 #[.val (.ref ta), .val (.ref tb), .unset] [(.int (1 : Int32))])) := fun tt hq => k1 tt (st2 tt hq)
  have k3 : To p.tables e below S0 (s₁.setTop (mkF m 3 #[.val (.ref ta), .val (.ref tb), .unset] [(.ref tb), (.int (1 : Int32))])) := fun tt hq => k2 tt (by
    show Steps _ _ _ (s₁.setTop (mkF m 2 #[.val (.ref ta), .val (.ref tb), .unset] [(.int (1 : Int32))])) _
    refine XS.aloadN X0.here hx rfl (hb hby d_jdk_43_method_13_code_2) rfl rfl ?_
    show Steps _ _ _ (s₁.setTop (mkF m 3 #[.val (.ref ta), .val (.ref tb), .unset] [(.ref tb), (.int (1 : Int32))])) _
    exact hq)
  obtain ⟨cl4, Ar4, -, S4, M4, -, -⟩ := id P1
  have st4 := fun tt => X0.arraylength hx (by rw [e0]; exact Ar4.1) (State.isArrayOf_alike hZ.alike Ar4.2.1) (g := (mkF m 3 #[.val (.ref ta), .val (.ref tb), .unset] [(.ref tb), (.int (1 : Int32))])) rfl rfl (hb hby d_jdk_43_method_13_code_3) tt
  rw [len_of S4 M4] at st4
  have k4 : To p.tables e below S0 (s₁.setTop (mkF m 4 #[.val (.ref ta), .val (.ref tb), .unset] [(.int (1 : Int32)), (.int (1 : Int32))])) := fun tt hq => k3 tt (st4 tt hq)
  have k5 : To p.tables e below S0 (s₁.setTop (mkF m 11 #[.val (.ref ta), .val (.ref tb), .val (.int (0 : Int32))] [(.ref ta), (.int (0 : Int32))])) := fun tt hq => k4 tt (by
    show Steps _ _ _ (s₁.setTop (mkF m 4 #[.val (.ref ta), .val (.ref tb), .unset] [(.int (1 : Int32)), (.int (1 : Int32))])) _
    refine XS.icmpNo X0.here hx rfl (hb hby d_jdk_43_method_13_code_4) rfl (teq (by decide)).2 ?_
    show Steps _ _ _ (s₁.setTop (mkF m 7 #[.val (.ref ta), .val (.ref tb), .unset] [])) _
    refine XS.iconst X0.here hx rfl (hb hby d_jdk_43_method_13_code_7) ?_
    show Steps _ _ _ (s₁.setTop (mkF m 8 #[.val (.ref ta), .val (.ref tb), .unset] [(.int (0 : Int32))])) _
    refine XS.istoreN X0.here hx rfl (hb hby d_jdk_43_method_13_code_8) rfl (l' := #[.val (.ref ta), .val (.ref tb), .val (.int (0 : Int32))]) rfl ?_
    show Steps _ _ _ (s₁.setTop (mkF m 9 #[.val (.ref ta), .val (.ref tb), .val (.int (0 : Int32))] [])) _
    refine XS.iloadN X0.here hx rfl (hb hby d_jdk_43_method_13_code_9) rfl ?_
    show Steps _ _ _ (s₁.setTop (mkF m 10 #[.val (.ref ta), .val (.ref tb), .val (.int (0 : Int32))] [(.int (0 : Int32))])) _
    refine XS.aloadN X0.here hx rfl (hb hby d_jdk_43_method_13_code_10) rfl rfl ?_
    show Steps _ _ _ (s₁.setTop (mkF m 11 #[.val (.ref ta), .val (.ref tb), .val (.int (0 : Int32))] [(.ref ta), (.int (0 : Int32))])) _
    exact hq)
  obtain ⟨cl6, Ar6, -, S6, M6, -, -⟩ := id P0
  have st6 := fun tt => X0.arraylength hx (by rw [e0]; exact Ar6.1) (State.isArrayOf_alike hZ.alike Ar6.2.1) (g := (mkF m 11 #[.val (.ref ta), .val (.ref tb), .val (.int (0 : Int32))] [(.ref ta), (.int (0 : Int32))])) rfl rfl (hb hby d_jdk_43_method_13_code_11) tt
  rw [len_of S6 M6] at st6
  have k6 : To p.tables e below S0 (s₁.setTop (mkF m 12 #[.val (.ref ta), .val (.ref tb), .val (.int (0 : Int32))] [(.int (1 : Int32)), (.int (0 : Int32))])) := fun tt hq => k5 tt (st6 tt hq)
  have k7 : To p.tables e below S0 (s₁.setTop (mkF m 17 #[.val (.ref ta), .val (.ref tb), .val (.int (0 : Int32))] [(.int (0 : Int32)), (.ref ta)])) := fun tt hq => k6 tt (by
    show Steps _ _ _ (s₁.setTop (mkF m 12 #[.val (.ref ta), .val (.ref tb), .val (.int (0 : Int32))] [(.int (1 : Int32)), (.int (0 : Int32))])) _
    refine XS.icmpNo X0.here hx rfl (hb hby d_jdk_43_method_13_code_12) rfl (tlt (by decide)).2.1 ?_
    show Steps _ _ _ (s₁.setTop (mkF m 15 #[.val (.ref ta), .val (.ref tb), .val (.int (0 : Int32))] [])) _
    refine XS.aloadN X0.here hx rfl (hb hby d_jdk_43_method_13_code_15) rfl rfl ?_
    show Steps _ _ _ (s₁.setTop (mkF m 16 #[.val (.ref ta), .val (.ref tb), .val (.int (0 : Int32))] [(.ref ta)])) _
    refine XS.iloadN X0.here hx rfl (hb hby d_jdk_43_method_13_code_16) rfl ?_
    show Steps _ _ _ (s₁.setTop (mkF m 17 #[.val (.ref ta), .val (.ref tb), .val (.int (0 : Int32))] [(.int (0 : Int32)), (.ref ta)])) _
    exact hq)
  obtain ⟨cl8, Ar8, -, S8, -, G8, -⟩ := id P0
  have hi8 := inb_of (j := (0 : Int32)) S8 ⟨by decide, by decide⟩
  have st8 := fun tt => X0.baloadBytes hx (j := (0 : Int32)) (v := (.int c0)) (by rw [e0]; exact Ar8.1) (State.isArrayOf_alike hZ.alike Ar8.2.1) Ar8.2.2 hi8 (G8.at hi8 rfl) (g := (mkF m 17 #[.val (.ref ta), .val (.ref tb), .val (.int (0 : Int32))] [(.int (0 : Int32)), (.ref ta)])) rfl rfl (hb hby d_jdk_43_method_13_code_17) tt
  have k8 : To p.tables e below S0 (s₁.setTop (mkF m 18 #[.val (.ref ta), .val (.ref tb), .val (.int (0 : Int32))] [(.int c0)])) := fun tt hq => k7 tt (st8 tt hq)
  have k9 : To p.tables e below S0 (s₁.setTop (mkF m 20 #[.val (.ref ta), .val (.ref tb), .val (.int (0 : Int32))] [(.int (0 : Int32)), (.ref tb), (.int c0)])) := fun tt hq => k8 tt (by
    show Steps _ _ _ (s₁.setTop (mkF m 18 #[.val (.ref ta), .val (.ref tb), .val (.int (0 : Int32))] [(.int c0)])) _
    refine XS.aloadN X0.here hx rfl (hb hby d_jdk_43_method_13_code_18) rfl rfl ?_
    show Steps _ _ _ (s₁.setTop (mkF m 19 #[.val (.ref ta), .val (.ref tb), .val (.int (0 : Int32))] [(.ref tb), (.int c0)])) _
    refine XS.iloadN X0.here hx rfl (hb hby d_jdk_43_method_13_code_19) rfl ?_
    show Steps _ _ _ (s₁.setTop (mkF m 20 #[.val (.ref ta), .val (.ref tb), .val (.int (0 : Int32))] [(.int (0 : Int32)), (.ref tb), (.int c0)])) _
    exact hq)
  obtain ⟨cl10, Ar10, -, S10, -, G10, -⟩ := id P1
  have hi10 := inb_of (j := (0 : Int32)) S10 ⟨by decide, by decide⟩
  have st10 := fun tt => X0.baloadBytes hx (j := (0 : Int32)) (v := (.int d0)) (by rw [e0]; exact Ar10.1) (State.isArrayOf_alike hZ.alike Ar10.2.1) Ar10.2.2 hi10 (G10.at hi10 rfl) (g := (mkF m 20 #[.val (.ref ta), .val (.ref tb), .val (.int (0 : Int32))] [(.int (0 : Int32)), (.ref tb), (.int c0)])) rfl rfl (hb hby d_jdk_43_method_13_code_20) tt
  have k10 : To p.tables e below S0 (s₁.setTop (mkF m 21 #[.val (.ref ta), .val (.ref tb), .val (.int (0 : Int32))] [(.int d0), (.int c0)])) := fun tt hq => k9 tt (st10 tt hq)
  by_cases hc21_11 : c0 = d0
  · -- pc 21, holds
    have k12 : To p.tables e below S0 (s₁.setTop (mkF m 11 #[.val (.ref ta), .val (.ref tb), .val (.int (1 : Int32))] [(.ref ta), (.int (1 : Int32))])) := fun tt hq => k10 tt (by
      show Steps _ _ _ (s₁.setTop (mkF m 21 #[.val (.ref ta), .val (.ref tb), .val (.int (0 : Int32))] [(.int d0), (.int c0)])) _
      refine XS.icmpYes X0.here hx rfl (pc0 := 21) (pc' := 26) rfl (hb hby d_jdk_43_method_13_code_21) rfl (teq hc21_11).1 (by decide) (by decide) ?_
      show Steps _ _ _ (s₁.setTop (mkF m 26 #[.val (.ref ta), .val (.ref tb), .val (.int (0 : Int32))] [])) _
      refine XS.iinc X0.here hx rfl (hb hby d_jdk_43_method_13_code_26) rfl (l' := #[.val (.ref ta), .val (.ref tb), .val (.int (1 : Int32))]) rfl ?_
      show Steps _ _ _ (s₁.setTop (mkF m 29 #[.val (.ref ta), .val (.ref tb), .val (.int (1 : Int32))] [])) _
      refine XS.goto X0.here hx rfl (pc0 := 29) (pc' := 9) rfl (hb hby d_jdk_43_method_13_code_29) (by decide) (by decide) ?_
      show Steps _ _ _ (s₁.setTop (mkF m 9 #[.val (.ref ta), .val (.ref tb), .val (.int (1 : Int32))] [])) _
      refine XS.iloadN X0.here hx rfl (hb hby d_jdk_43_method_13_code_9) rfl ?_
      show Steps _ _ _ (s₁.setTop (mkF m 10 #[.val (.ref ta), .val (.ref tb), .val (.int (1 : Int32))] [(.int (1 : Int32))])) _
      refine XS.aloadN X0.here hx rfl (hb hby d_jdk_43_method_13_code_10) rfl rfl ?_
      show Steps _ _ _ (s₁.setTop (mkF m 11 #[.val (.ref ta), .val (.ref tb), .val (.int (1 : Int32))] [(.ref ta), (.int (1 : Int32))])) _
      exact hq)
    obtain ⟨cl13, Ar13, -, S13, M13, -, -⟩ := id P0
    have st13 := fun tt => X0.arraylength hx (by rw [e0]; exact Ar13.1) (State.isArrayOf_alike hZ.alike Ar13.2.1) (g := (mkF m 11 #[.val (.ref ta), .val (.ref tb), .val (.int (1 : Int32))] [(.ref ta), (.int (1 : Int32))])) rfl rfl (hb hby d_jdk_43_method_13_code_11) tt
    rw [len_of S13 M13] at st13
    have k13 : To p.tables e below S0 (s₁.setTop (mkF m 12 #[.val (.ref ta), .val (.ref tb), .val (.int (1 : Int32))] [(.int (1 : Int32)), (.int (1 : Int32))])) := fun tt hq => k12 tt (st13 tt hq)
    have k14 : To p.tables e below S0 (s₁.setTop (mkF m 33 #[.val (.ref ta), .val (.ref tb), .val (.int (1 : Int32))] [(.int (1 : Int32))])) := fun tt hq => k13 tt (by
      show Steps _ _ _ (s₁.setTop (mkF m 12 #[.val (.ref ta), .val (.ref tb), .val (.int (1 : Int32))] [(.int (1 : Int32)), (.int (1 : Int32))])) _
      refine XS.icmpYes X0.here hx rfl (pc0 := 12) (pc' := 32) rfl (hb hby d_jdk_43_method_13_code_12) rfl (flt (by decide)).2.1 (by decide) (by decide) ?_
      show Steps _ _ _ (s₁.setTop (mkF m 32 #[.val (.ref ta), .val (.ref tb), .val (.int (1 : Int32))] [])) _
      refine XS.iconst X0.here hx rfl (hb hby d_jdk_43_method_13_code_32) ?_
      show Steps _ _ _ (s₁.setTop (mkF m 33 #[.val (.ref ta), .val (.ref tb), .val (.int (1 : Int32))] [(.int (1 : Int32))])) _
      exact hq)
    have hE := e0
    refine retInt X0 hx hret hlk (by simp) rfl (hb hby d_jdk_43_method_13_code_33) k14 ?_ (by decide) (by decide)
    try rw [hE]
    exact ⟨congrArg (fun z => some (Value.int z)) (Eq.symm (if_pos (by rw [hc21_11]))), N0, rfl⟩
  · -- pc 21, holds not
    have k15 : To p.tables e below S0 (s₁.setTop (mkF m 25 #[.val (.ref ta), .val (.ref tb), .val (.int (0 : Int32))] [(.int (0 : Int32))])) := fun tt hq => k10 tt (by
      show Steps _ _ _ (s₁.setTop (mkF m 21 #[.val (.ref ta), .val (.ref tb), .val (.int (0 : Int32))] [(.int d0), (.int c0)])) _
      refine XS.icmpNo X0.here hx rfl (hb hby d_jdk_43_method_13_code_21) rfl (feq hc21_11).1 ?_
      show Steps _ _ _ (s₁.setTop (mkF m 24 #[.val (.ref ta), .val (.ref tb), .val (.int (0 : Int32))] [])) _
      refine XS.iconst X0.here hx rfl (hb hby d_jdk_43_method_13_code_24) ?_
      show Steps _ _ _ (s₁.setTop (mkF m 25 #[.val (.ref ta), .val (.ref tb), .val (.int (0 : Int32))] [(.int (0 : Int32))])) _
      exact hq)
    have hE := e0
    refine retInt X0 hx hret hlk (by simp) rfl (hb hby d_jdk_43_method_13_code_25) k15 ?_ (by decide) (by decide)
    try rw [hE]
    exact ⟨congrArg (fun z => some (Value.int z)) (Eq.symm (if_neg (fun q => hc21_11 (List.cons.inj q).1))), N0, rfl⟩
set_option maxRecDepth 65536 in
set_option maxHeartbeats 40000000 in
theorem rm_sq11 (l : Launch) (Z : State) (a0 : Array Value) (hw : ∀ d ∈ tables_1, d.before a0 Z = true) (zc : Int32) (a : Addr) (b : Addr) (ta : Addr) (ka : ClassId) (c0 : Int32) (tb : Addr) (kb : ClassId) (d0 : Int32) (h0 : Heap) (n0 : Nat) (hn0 : n0 ≤ h0.size) (S_c : Sta Z Z.heap "java/lang/String" "COMPACT_STRINGS" "Z" (.int zc)) (hzc : ¬ zc = (0 : Int32)) (O0 : Old Z n0 h0) (hab : ¬ a = b) (P0 : Exa Z h0 a "java/lang/String") (P1 : Fld Z h0 a "java/lang/String" "value" "[B" (.ref ta)) (P2 : Fld Z h0 a "java/lang/String" "coder" "B" (.int (0 : Int32))) (P3 : Arv Z h0 ta ka .byte (1 : Int32) [(.int c0)] (.int 0)) (R0 : Exa Z h0 b "java/lang/String") (R1 : Fld Z h0 b "java/lang/String" "value" "[B" (.ref tb)) (R2 : Fld Z h0 b "java/lang/String" "coder" "B" (.int (0 : Int32))) (R3 : Arv Z h0 tb kb .byte (1 : Int32) [(.int d0)] (.int 0)) :
    Con l Z (⟨"java/lang/String", "equals", "(Ljava/lang/Object;)Z"⟩ : MethodName) jdk_42_method_66_code 3 (some .boolean) [] ({ frames := 1, cells := 0, slots := 0, locals := 14 } : Room) #[(.ref a), (.ref b)] h0 (fun v h L => v = some (.int (if ([c0] : List Int32) = [d0] then (1 : Int32) else (0 : Int32))) ∧ Fr n0 L ∧ h = h0) := by
  refine enter (Ls := #[.val (.ref a), .val (.ref b), .unset]) (plainFor_of_name pn_2) (fun m => by exact entry_eq rfl) ?_
  intro p e s m below meth cd_ s₁ S0 hx hby hml hret hlk hnm hown hZ X0 e0 k0
  have N0 := Fr.nil n0
  have k1 : To p.tables e below S0 (s₁.setTop (mkF m 8 #[.val (.ref a), .val (.ref b), .unset] [(.ref b)])) := fun tt hq => k0 tt (by
    show Steps _ _ _ (s₁.setTop (mkF m 0 #[.val (.ref a), .val (.ref b), .unset] [])) _
    refine XS.aloadN X0.here hx rfl (hb hby d_jdk_42_method_66_code_0) rfl rfl ?_
    show Steps _ _ _ (s₁.setTop (mkF m 1 #[.val (.ref a), .val (.ref b), .unset] [(.ref a)])) _
    refine XS.aloadN X0.here hx rfl (hb hby d_jdk_42_method_66_code_1) rfl rfl ?_
    show Steps _ _ _ (s₁.setTop (mkF m 2 #[.val (.ref a), .val (.ref b), .unset] [(.ref b), (.ref a)])) _
    refine Jvm.RoadKit.acmp (g := (mkF m 2 #[.val (.ref a), .val (.ref b), .unset] [(.ref b), (.ref a)])) X0 hx rfl rfl rfl (pc0 := 2) (pc' := 7) (same := false) rfl (hb hby d_jdk_42_method_66_code_2) rfl (decide_eq_false fun q => hab (Value.ref.inj q)) (by decide) (by decide) ?_
    show Steps _ _ _ (s₁.setTop (mkF m 7 #[.val (.ref a), .val (.ref b), .unset] [])) _
    refine XS.aloadN X0.here hx rfl (hb hby d_jdk_42_method_66_code_7) rfl rfl ?_
    show Steps _ _ _ (s₁.setTop (mkF m 8 #[.val (.ref a), .val (.ref b), .unset] [(.ref b)])) _
    exact hq)
  obtain ⟨T2, X2, e2, st2⟩ := instY X0 hx hZ hown (hw _ (List.mem_of_getElem? (i := 85) rfl)) e0 (Ins.self R0) (g := (mkF m 8 #[.val (.ref a), .val (.ref b), .unset] [(.ref b)])) rfl rfl (hb hby d_jdk_42_method_66_code_8)
  have k2 : To p.tables e below S0 (T2.setTop (mkF m 11 #[.val (.ref a), .val (.ref b), .unset] [(.int (1 : Int32))])) := fun tt hq => k1 tt (st2 tt hq)
  have k3 : To p.tables e below S0 (T2.setTop (mkF m 15 #[.val (.ref a), .val (.ref b), .unset] [(.ref b)])) := fun tt hq => k2 tt (by
    show Steps _ _ _ (T2.setTop (mkF m 11 #[.val (.ref a), .val (.ref b), .unset] [(.int (1 : Int32))])) _
    refine XS.ifNo X2.here hx rfl (hb hby d_jdk_42_method_66_code_11) rfl ((if0 _ _).trans (feq (by decide)).1) ?_
    show Steps _ _ _ (T2.setTop (mkF m 14 #[.val (.ref a), .val (.ref b), .unset] [])) _
    refine XS.aloadN X2.here hx rfl (hb hby d_jdk_42_method_66_code_14) rfl rfl ?_
    show Steps _ _ _ (T2.setTop (mkF m 15 #[.val (.ref a), .val (.ref b), .unset] [(.ref b)])) _
    exact hq)
  obtain ⟨T4, X4, e4, st4⟩ := castY X2 hx hZ hown (hw _ (List.mem_of_getElem? (i := 85) rfl)) e2 (Ins.self R0) (g := (mkF m 15 #[.val (.ref a), .val (.ref b), .unset] [(.ref b)])) rfl rfl (hb hby d_jdk_42_method_66_code_15)
  have k4 : To p.tables e below S0 (T4.setTop (mkF m 18 #[.val (.ref a), .val (.ref b), .unset] [(.ref b)])) := fun tt hq => k3 tt (st4 tt hq)
  have k5 : To p.tables e below S0 (T4.setTop (mkF m 19 #[.val (.ref a), .val (.ref b), .val (.ref b)] [])) := fun tt hq => k4 tt (by
    show Steps _ _ _ (T4.setTop (mkF m 18 #[.val (.ref a), .val (.ref b), .unset] [(.ref b)])) _
    refine XS.astoreN X4.here hx rfl (hb hby d_jdk_42_method_66_code_18) rfl rfl (l' := #[.val (.ref a), .val (.ref b), .val (.ref b)]) rfl ?_
    show Steps _ _ _ (T4.setTop (mkF m 19 #[.val (.ref a), .val (.ref b), .val (.ref b)] [])) _
    exact hq)
  obtain ⟨T6, X6, e6, st6⟩ := getS2 X4 hx hZ hown (host := "") (Or.inl (hw _ (List.mem_of_getElem? (i := 42) rfl))) Via.refl e4 (staOld S_c O0) (g := (mkF m 19 #[.val (.ref a), .val (.ref b), .val (.ref b)] [])) rfl (hb hby d_jdk_42_method_66_code_19)
  have k6 : To p.tables e below S0 (T6.setTop (mkF m 22 #[.val (.ref a), .val (.ref b), .val (.ref b)] [(.int zc)])) := fun tt hq => k5 tt (st6 tt hq)
  have k7 : To p.tables e below S0 (T6.setTop (mkF m 26 #[.val (.ref a), .val (.ref b), .val (.ref b)] [(.ref a)])) := fun tt hq => k6 tt (by
    show Steps _ _ _ (T6.setTop (mkF m 22 #[.val (.ref a), .val (.ref b), .val (.ref b)] [(.int zc)])) _
    refine XS.ifNo X6.here hx rfl (hb hby d_jdk_42_method_66_code_22) rfl ((if0 _ _).trans (feq hzc).1) ?_
    show Steps _ _ _ (T6.setTop (mkF m 25 #[.val (.ref a), .val (.ref b), .val (.ref b)] [])) _
    refine XS.aloadN X6.here hx rfl (hb hby d_jdk_42_method_66_code_25) rfl rfl ?_
    show Steps _ _ _ (T6.setTop (mkF m 26 #[.val (.ref a), .val (.ref b), .val (.ref b)] [(.ref a)])) _
    exact hq)
  obtain ⟨T8, X8, e8, st8⟩ := getF X6 hx hZ hown (host := "") (Or.inl (hw _ (List.mem_of_getElem? (i := 35) rfl))) Via.refl e6 P2 (g := (mkF m 26 #[.val (.ref a), .val (.ref b), .val (.ref b)] [(.ref a)])) rfl rfl (hb hby d_jdk_42_method_66_code_26)
  have k8 : To p.tables e below S0 (T8.setTop (mkF m 29 #[.val (.ref a), .val (.ref b), .val (.ref b)] [(.int (0 : Int32))])) := fun tt hq => k7 tt (st8 tt hq)
  have k9 : To p.tables e below S0 (T8.setTop (mkF m 30 #[.val (.ref a), .val (.ref b), .val (.ref b)] [(.ref b), (.int (0 : Int32))])) := fun tt hq => k8 tt (by
    show Steps _ _ _ (T8.setTop (mkF m 29 #[.val (.ref a), .val (.ref b), .val (.ref b)] [(.int (0 : Int32))])) _
    refine XS.aloadN X8.here hx rfl (hb hby d_jdk_42_method_66_code_29) rfl rfl ?_
    show Steps _ _ _ (T8.setTop (mkF m 30 #[.val (.ref a), .val (.ref b), .val (.ref b)] [(.ref b), (.int (0 : Int32))])) _
    exact hq)
  obtain ⟨T10, X10, e10, st10⟩ := getF X8 hx hZ hown (host := "") (Or.inl (hw _ (List.mem_of_getElem? (i := 35) rfl))) Via.refl e8 R2 (g := (mkF m 30 #[.val (.ref a), .val (.ref b), .val (.ref b)] [(.ref b), (.int (0 : Int32))])) rfl rfl (hb hby d_jdk_42_method_66_code_30)
  have k10 : To p.tables e below S0 (T10.setTop (mkF m 33 #[.val (.ref a), .val (.ref b), .val (.ref b)] [(.int (0 : Int32)), (.int (0 : Int32))])) := fun tt hq => k9 tt (st10 tt hq)
  have k11 : To p.tables e below S0 (T10.setTop (mkF m 37 #[.val (.ref a), .val (.ref b), .val (.ref b)] [(.ref a)])) := fun tt hq => k10 tt (by
    show Steps _ _ _ (T10.setTop (mkF m 33 #[.val (.ref a), .val (.ref b), .val (.ref b)] [(.int (0 : Int32)), (.int (0 : Int32))])) _
    refine XS.icmpNo X10.here hx rfl (hb hby d_jdk_42_method_66_code_33) rfl (teq (by decide)).2 ?_
    show Steps _ _ _ (T10.setTop (mkF m 36 #[.val (.ref a), .val (.ref b), .val (.ref b)] [])) _
    refine XS.aloadN X10.here hx rfl (hb hby d_jdk_42_method_66_code_36) rfl rfl ?_
    show Steps _ _ _ (T10.setTop (mkF m 37 #[.val (.ref a), .val (.ref b), .val (.ref b)] [(.ref a)])) _
    exact hq)
  obtain ⟨T12, X12, e12, st12⟩ := getF X10 hx hZ hown (host := "") (Or.inl (hw _ (List.mem_of_getElem? (i := 34) rfl))) Via.refl e10 P1 (g := (mkF m 37 #[.val (.ref a), .val (.ref b), .val (.ref b)] [(.ref a)])) rfl rfl (hb hby d_jdk_42_method_66_code_37)
  have k12 : To p.tables e below S0 (T12.setTop (mkF m 40 #[.val (.ref a), .val (.ref b), .val (.ref b)] [(.ref ta)])) := fun tt hq => k11 tt (st12 tt hq)
  have k13 : To p.tables e below S0 (T12.setTop (mkF m 41 #[.val (.ref a), .val (.ref b), .val (.ref b)] [(.ref b), (.ref ta)])) := fun tt hq => k12 tt (by
    show Steps _ _ _ (T12.setTop (mkF m 40 #[.val (.ref a), .val (.ref b), .val (.ref b)] [(.ref ta)])) _
    refine XS.aloadN X12.here hx rfl (hb hby d_jdk_42_method_66_code_40) rfl rfl ?_
    show Steps _ _ _ (T12.setTop (mkF m 41 #[.val (.ref a), .val (.ref b), .val (.ref b)] [(.ref b), (.ref ta)])) _
    exact hq)
  obtain ⟨T14, X14, e14, st14⟩ := getF X12 hx hZ hown (host := "") (Or.inl (hw _ (List.mem_of_getElem? (i := 34) rfl))) Via.refl e12 R1 (g := (mkF m 41 #[.val (.ref a), .val (.ref b), .val (.ref b)] [(.ref b), (.ref ta)])) rfl rfl (hb hby d_jdk_42_method_66_code_41)
  have k14 : To p.tables e below S0 (T14.setTop (mkF m 44 #[.val (.ref a), .val (.ref b), .val (.ref b)] [(.ref tb), (.ref ta)])) := fun tt hq => k13 tt (st14 tt hq)
  obtain ⟨_, T15, L15, X15, ⟨rfl, Nq15, eq15⟩, k15a⟩ := callS' X14 hx hZ (y := (⟨"java/lang/StringLatin1", "equals", "([B[B)Z"⟩ : MethodName)) hown (hw _ (List.mem_of_getElem? (i := 86) rfl)) (hw _ (List.mem_of_getElem? (i := 87) rfl)) (hw _ (List.mem_of_getElem? (i := 88) rfl)) (hw _ (List.mem_of_getElem? (i := 89) rfl)) (by decide) (backC (W := 0) (rm_lq11 l Z a0 hw ta ka c0 tb kb d0 h0 n0 (by omega) P3 R3) hZ (hw _ (List.mem_of_getElem? (i := 89) rfl)) (hw _ (List.mem_of_getElem? (i := 88) rfl)) (by decide) (by decide)) e14 (argsL := [(.ref ta), (.ref tb)]) (rest := []) rfl rfl pd_8 rfl (by rw [hml]; rfl) (hb hby d_jdk_42_method_66_code_44) (Nat.le_of_eq rfl) (by decide) (by decide) k14
  have k15 : To p.tables e below S0 (T15.setTop (mkF m 47 #[.val (.ref a), .val (.ref b), .val (.ref b)] [(.int (if ([c0] : List Int32) = [d0] then (1 : Int32) else (0 : Int32)))])) := k15a
  have N15 := N0.app Nq15
  have e15 : T15.heap = h0 := eq15
  by_cases hc47_16 : (if ([c0] : List Int32) = [d0] then (1 : Int32) else (0 : Int32)) = (0 : Int32)
  · -- pc 47, holds
    have k17 : To p.tables e below S0 (T15.setTop (mkF m 55 #[.val (.ref a), .val (.ref b), .val (.ref b)] [(.int (0 : Int32))])) := fun tt hq => k15 tt (by
      show Steps _ _ _ (T15.setTop (mkF m 47 #[.val (.ref a), .val (.ref b), .val (.ref b)] [(.int (if ([c0] : List Int32) = [d0] then (1 : Int32) else (0 : Int32)))])) _
      refine XS.ifYes X15.here hx rfl (pc0 := 47) (pc' := 54) rfl (hb hby d_jdk_42_method_66_code_47) rfl ((if0 _ _).trans (teq hc47_16).1) (by decide) (by decide) ?_
      show Steps _ _ _ (T15.setTop (mkF m 54 #[.val (.ref a), .val (.ref b), .val (.ref b)] [])) _
      refine XS.iconst X15.here hx rfl (hb hby d_jdk_42_method_66_code_54) ?_
      show Steps _ _ _ (T15.setTop (mkF m 55 #[.val (.ref a), .val (.ref b), .val (.ref b)] [(.int (0 : Int32))])) _
      exact hq)
    have hE := e15
    refine retInt X15 hx hret hlk (by simp) rfl (hb hby d_jdk_42_method_66_code_55) k17 ?_ (by decide) (by decide)
    try rw [hE]
    exact ⟨congrArg (fun z => some (Value.int z)) (Eq.symm hc47_16), N15, rfl⟩
  · -- pc 47, holds not
    have k18 : To p.tables e below S0 (T15.setTop (mkF m 55 #[.val (.ref a), .val (.ref b), .val (.ref b)] [(.int (1 : Int32))])) := fun tt hq => k15 tt (by
      show Steps _ _ _ (T15.setTop (mkF m 47 #[.val (.ref a), .val (.ref b), .val (.ref b)] [(.int (if ([c0] : List Int32) = [d0] then (1 : Int32) else (0 : Int32)))])) _
      refine XS.ifNo X15.here hx rfl (hb hby d_jdk_42_method_66_code_47) rfl ((if0 _ _).trans (feq hc47_16).1) ?_
      show Steps _ _ _ (T15.setTop (mkF m 50 #[.val (.ref a), .val (.ref b), .val (.ref b)] [])) _
      refine XS.iconst X15.here hx rfl (hb hby d_jdk_42_method_66_code_50) ?_
      show Steps _ _ _ (T15.setTop (mkF m 51 #[.val (.ref a), .val (.ref b), .val (.ref b)] [(.int (1 : Int32))])) _
      refine XS.goto X15.here hx rfl (pc0 := 51) (pc' := 55) rfl (hb hby d_jdk_42_method_66_code_51) (by decide) (by decide) ?_
      show Steps _ _ _ (T15.setTop (mkF m 55 #[.val (.ref a), .val (.ref b), .val (.ref b)] [(.int (1 : Int32))])) _
      exact hq)
    have hE := e15
    refine retInt X15 hx hret hlk (by simp) rfl (hb hby d_jdk_42_method_66_code_55) k18 ?_ (by decide) (by decide)
    try rw [hE]
    exact ⟨congrArg (fun z => some (Value.int z)) (Eq.symm (own_if1 hc47_16)), N15, rfl⟩
set_option maxRecDepth 65536 in
set_option maxHeartbeats 40000000 in
theorem rm_lq12 (l : Launch) (Z : State) (a0 : Array Value) (hw : ∀ d ∈ tables_1, d.before a0 Z = true) (ta : Addr) (ka : ClassId) (c0 : Int32) (tb : Addr) (kb : ClassId) (d0 : Int32) (d1 : Int32) (h0 : Heap) (n0 : Nat) (hn0 : n0 ≤ h0.size) (P0 : Arv Z h0 ta ka .byte (1 : Int32) [(.int c0)] (.int 0)) (P1 : Arv Z h0 tb kb .byte (2 : Int32) [(.int d0), (.int d1)] (.int 0)) :
    Con l Z (⟨"java/lang/StringLatin1", "equals", "([B[B)Z"⟩ : MethodName) jdk_43_method_13_code 3 (some .boolean) [] ({ frames := 0, cells := 0, slots := 0, locals := 0 } : Room) #[(.ref ta), (.ref tb)] h0 (fun v h L => v = some (.int (if ([c0] : List Int32) = [d0, d1] then (1 : Int32) else (0 : Int32))) ∧ Fr n0 L ∧ h = h0) := by
  refine enter (Ls := #[.val (.ref ta), .val (.ref tb), .unset]) (plainFor_of_name pn_3) (fun m => by exact entry_eq rfl) ?_
  intro p e s m below meth cd_ s₁ S0 hx hby hml hret hlk hnm hown hZ X0 e0 k0
  have N0 := Fr.nil n0
  have k1 : To p.tables e below S0 (s₁.setTop (mkF m 1 #[.val (.ref ta), .val (.ref tb), .unset] [(.ref ta)])) := fun tt hq => k0 tt (by
    show Steps _ _ _ (s₁.setTop (mkF m 0 #[.val (.ref ta), .val (.ref tb), .unset] [])) _
    refine XS.aloadN X0.here hx rfl (hb hby d_jdk_43_method_13_code_0) rfl rfl ?_
    show Steps _ _ _ (s₁.setTop (mkF m 1 #[.val (.ref ta), .val (.ref tb), .unset] [(.ref ta)])) _
    exact hq)
  obtain ⟨cl2, Ar2, -, S2, M2, -, -⟩ := id P0
  have st2 := fun tt => X0.arraylength hx (by rw [e0]; exact Ar2.1) (State.isArrayOf_alike hZ.alike Ar2.2.1) (g := (mkF m 1 #[.val (.ref ta), .val (.ref tb), .unset] [(.ref ta)])) rfl rfl (hb hby d_jdk_43_method_13_code_1) tt
  rw [len_of S2 M2] at st2
  have k2 : To p.tables e below S0 (s₁.setTop (mkF m 2 #[.val (.ref ta), .val (.ref tb), .unset] [(.int (1 : Int32))])) := fun tt hq => k1 tt (st2 tt hq)
  have k3 : To p.tables e below S0 (s₁.setTop (mkF m 3 #[.val (.ref ta), .val (.ref tb), .unset] [(.ref tb), (.int (1 : Int32))])) := fun tt hq => k2 tt (by
    show Steps _ _ _ (s₁.setTop (mkF m 2 #[.val (.ref ta), .val (.ref tb), .unset] [(.int (1 : Int32))])) _
    refine XS.aloadN X0.here hx rfl (hb hby d_jdk_43_method_13_code_2) rfl rfl ?_
    show Steps _ _ _ (s₁.setTop (mkF m 3 #[.val (.ref ta), .val (.ref tb), .unset] [(.ref tb), (.int (1 : Int32))])) _
    exact hq)
  obtain ⟨cl4, Ar4, -, S4, M4, -, -⟩ := id P1
  have st4 := fun tt => X0.arraylength hx (by rw [e0]; exact Ar4.1) (State.isArrayOf_alike hZ.alike Ar4.2.1) (g := (mkF m 3 #[.val (.ref ta), .val (.ref tb), .unset] [(.ref tb), (.int (1 : Int32))])) rfl rfl (hb hby d_jdk_43_method_13_code_3) tt
  rw [len_of S4 M4] at st4
  have k4 : To p.tables e below S0 (s₁.setTop (mkF m 4 #[.val (.ref ta), .val (.ref tb), .unset] [(.int (2 : Int32)), (.int (1 : Int32))])) := fun tt hq => k3 tt (st4 tt hq)
  have k5 : To p.tables e below S0 (s₁.setTop (mkF m 35 #[.val (.ref ta), .val (.ref tb), .unset] [(.int (0 : Int32))])) := fun tt hq => k4 tt (by
    show Steps _ _ _ (s₁.setTop (mkF m 4 #[.val (.ref ta), .val (.ref tb), .unset] [(.int (2 : Int32)), (.int (1 : Int32))])) _
    refine XS.icmpYes X0.here hx rfl (pc0 := 4) (pc' := 34) rfl (hb hby d_jdk_43_method_13_code_4) rfl (feq (by decide)).2 (by decide) (by decide) ?_
    show Steps _ _ _ (s₁.setTop (mkF m 34 #[.val (.ref ta), .val (.ref tb), .unset] [])) _
    refine XS.iconst X0.here hx rfl (hb hby d_jdk_43_method_13_code_34) ?_
    show Steps _ _ _ (s₁.setTop (mkF m 35 #[.val (.ref ta), .val (.ref tb), .unset] [(.int (0 : Int32))])) _
    exact hq)
  have hE := e0
  refine retInt X0 hx hret hlk (by simp) rfl (hb hby d_jdk_43_method_13_code_35) k5 ?_ (by decide) (by decide)
  try rw [hE]
  exact ⟨congrArg (fun z => some (Value.int z)) (Eq.symm (if_neg (fun q => by cases q))), N0, rfl⟩
set_option maxRecDepth 65536 in
set_option maxHeartbeats 40000000 in
theorem rm_sq12 (l : Launch) (Z : State) (a0 : Array Value) (hw : ∀ d ∈ tables_1, d.before a0 Z = true) (zc : Int32) (a : Addr) (b : Addr) (ta : Addr) (ka : ClassId) (c0 : Int32) (tb : Addr) (kb : ClassId) (d0 : Int32) (d1 : Int32) (h0 : Heap) (n0 : Nat) (hn0 : n0 ≤ h0.size) (S_c : Sta Z Z.heap "java/lang/String" "COMPACT_STRINGS" "Z" (.int zc)) (hzc : ¬ zc = (0 : Int32)) (O0 : Old Z n0 h0) (hab : ¬ a = b) (P0 : Exa Z h0 a "java/lang/String") (P1 : Fld Z h0 a "java/lang/String" "value" "[B" (.ref ta)) (P2 : Fld Z h0 a "java/lang/String" "coder" "B" (.int (0 : Int32))) (P3 : Arv Z h0 ta ka .byte (1 : Int32) [(.int c0)] (.int 0)) (R0 : Exa Z h0 b "java/lang/String") (R1 : Fld Z h0 b "java/lang/String" "value" "[B" (.ref tb)) (R2 : Fld Z h0 b "java/lang/String" "coder" "B" (.int (0 : Int32))) (R3 : Arv Z h0 tb kb .byte (2 : Int32) [(.int d0), (.int d1)] (.int 0)) :
    Con l Z (⟨"java/lang/String", "equals", "(Ljava/lang/Object;)Z"⟩ : MethodName) jdk_42_method_66_code 3 (some .boolean) [] ({ frames := 1, cells := 0, slots := 0, locals := 14 } : Room) #[(.ref a), (.ref b)] h0 (fun v h L => v = some (.int (if ([c0] : List Int32) = [d0, d1] then (1 : Int32) else (0 : Int32))) ∧ Fr n0 L ∧ h = h0) := by
  refine enter (Ls := #[.val (.ref a), .val (.ref b), .unset]) (plainFor_of_name pn_2) (fun m => by exact entry_eq rfl) ?_
  intro p e s m below meth cd_ s₁ S0 hx hby hml hret hlk hnm hown hZ X0 e0 k0
  have N0 := Fr.nil n0
  have k1 : To p.tables e below S0 (s₁.setTop (mkF m 8 #[.val (.ref a), .val (.ref b), .unset] [(.ref b)])) := fun tt hq => k0 tt (by
    show Steps _ _ _ (s₁.setTop (mkF m 0 #[.val (.ref a), .val (.ref b), .unset] [])) _
    refine XS.aloadN X0.here hx rfl (hb hby d_jdk_42_method_66_code_0) rfl rfl ?_
    show Steps _ _ _ (s₁.setTop (mkF m 1 #[.val (.ref a), .val (.ref b), .unset] [(.ref a)])) _
    refine XS.aloadN X0.here hx rfl (hb hby d_jdk_42_method_66_code_1) rfl rfl ?_
    show Steps _ _ _ (s₁.setTop (mkF m 2 #[.val (.ref a), .val (.ref b), .unset] [(.ref b), (.ref a)])) _
    refine Jvm.RoadKit.acmp (g := (mkF m 2 #[.val (.ref a), .val (.ref b), .unset] [(.ref b), (.ref a)])) X0 hx rfl rfl rfl (pc0 := 2) (pc' := 7) (same := false) rfl (hb hby d_jdk_42_method_66_code_2) rfl (decide_eq_false fun q => hab (Value.ref.inj q)) (by decide) (by decide) ?_
    show Steps _ _ _ (s₁.setTop (mkF m 7 #[.val (.ref a), .val (.ref b), .unset] [])) _
    refine XS.aloadN X0.here hx rfl (hb hby d_jdk_42_method_66_code_7) rfl rfl ?_
    show Steps _ _ _ (s₁.setTop (mkF m 8 #[.val (.ref a), .val (.ref b), .unset] [(.ref b)])) _
    exact hq)
  obtain ⟨T2, X2, e2, st2⟩ := instY X0 hx hZ hown (hw _ (List.mem_of_getElem? (i := 85) rfl)) e0 (Ins.self R0) (g := (mkF m 8 #[.val (.ref a), .val (.ref b), .unset] [(.ref b)])) rfl rfl (hb hby d_jdk_42_method_66_code_8)
  have k2 : To p.tables e below S0 (T2.setTop (mkF m 11 #[.val (.ref a), .val (.ref b), .unset] [(.int (1 : Int32))])) := fun tt hq => k1 tt (st2 tt hq)
  have k3 : To p.tables e below S0 (T2.setTop (mkF m 15 #[.val (.ref a), .val (.ref b), .unset] [(.ref b)])) := fun tt hq => k2 tt (by
    show Steps _ _ _ (T2.setTop (mkF m 11 #[.val (.ref a), .val (.ref b), .unset] [(.int (1 : Int32))])) _
    refine XS.ifNo X2.here hx rfl (hb hby d_jdk_42_method_66_code_11) rfl ((if0 _ _).trans (feq (by decide)).1) ?_
    show Steps _ _ _ (T2.setTop (mkF m 14 #[.val (.ref a), .val (.ref b), .unset] [])) _
    refine XS.aloadN X2.here hx rfl (hb hby d_jdk_42_method_66_code_14) rfl rfl ?_
    show Steps _ _ _ (T2.setTop (mkF m 15 #[.val (.ref a), .val (.ref b), .unset] [(.ref b)])) _
    exact hq)
  obtain ⟨T4, X4, e4, st4⟩ := castY X2 hx hZ hown (hw _ (List.mem_of_getElem? (i := 85) rfl)) e2 (Ins.self R0) (g := (mkF m 15 #[.val (.ref a), .val (.ref b), .unset] [(.ref b)])) rfl rfl (hb hby d_jdk_42_method_66_code_15)
  have k4 : To p.tables e below S0 (T4.setTop (mkF m 18 #[.val (.ref a), .val (.ref b), .unset] [(.ref b)])) := fun tt hq => k3 tt (st4 tt hq)
  have k5 : To p.tables e below S0 (T4.setTop (mkF m 19 #[.val (.ref a), .val (.ref b), .val (.ref b)] [])) := fun tt hq => k4 tt (by
    show Steps _ _ _ (T4.setTop (mkF m 18 #[.val (.ref a), .val (.ref b), .unset] [(.ref b)])) _
    refine XS.astoreN X4.here hx rfl (hb hby d_jdk_42_method_66_code_18) rfl rfl (l' := #[.val (.ref a), .val (.ref b), .val (.ref b)]) rfl ?_
    show Steps _ _ _ (T4.setTop (mkF m 19 #[.val (.ref a), .val (.ref b), .val (.ref b)] [])) _
    exact hq)
  obtain ⟨T6, X6, e6, st6⟩ := getS2 X4 hx hZ hown (host := "") (Or.inl (hw _ (List.mem_of_getElem? (i := 42) rfl))) Via.refl e4 (staOld S_c O0) (g := (mkF m 19 #[.val (.ref a), .val (.ref b), .val (.ref b)] [])) rfl (hb hby d_jdk_42_method_66_code_19)
  have k6 : To p.tables e below S0 (T6.setTop (mkF m 22 #[.val (.ref a), .val (.ref b), .val (.ref b)] [(.int zc)])) := fun tt hq => k5 tt (st6 tt hq)
  have k7 : To p.tables e below S0 (T6.setTop (mkF m 26 #[.val (.ref a), .val (.ref b), .val (.ref b)] [(.ref a)])) := fun tt hq => k6 tt (by
    show Steps _ _ _ (T6.setTop (mkF m 22 #[.val (.ref a), .val (.ref b), .val (.ref b)] [(.int zc)])) _
    refine XS.ifNo X6.here hx rfl (hb hby d_jdk_42_method_66_code_22) rfl ((if0 _ _).trans (feq hzc).1) ?_
    show Steps _ _ _ (T6.setTop (mkF m 25 #[.val (.ref a), .val (.ref b), .val (.ref b)] [])) _
    refine XS.aloadN X6.here hx rfl (hb hby d_jdk_42_method_66_code_25) rfl rfl ?_
    show Steps _ _ _ (T6.setTop (mkF m 26 #[.val (.ref a), .val (.ref b), .val (.ref b)] [(.ref a)])) _
    exact hq)
  obtain ⟨T8, X8, e8, st8⟩ := getF X6 hx hZ hown (host := "") (Or.inl (hw _ (List.mem_of_getElem? (i := 35) rfl))) Via.refl e6 P2 (g := (mkF m 26 #[.val (.ref a), .val (.ref b), .val (.ref b)] [(.ref a)])) rfl rfl (hb hby d_jdk_42_method_66_code_26)
  have k8 : To p.tables e below S0 (T8.setTop (mkF m 29 #[.val (.ref a), .val (.ref b), .val (.ref b)] [(.int (0 : Int32))])) := fun tt hq => k7 tt (st8 tt hq)
  have k9 : To p.tables e below S0 (T8.setTop (mkF m 30 #[.val (.ref a), .val (.ref b), .val (.ref b)] [(.ref b), (.int (0 : Int32))])) := fun tt hq => k8 tt (by
    show Steps _ _ _ (T8.setTop (mkF m 29 #[.val (.ref a), .val (.ref b), .val (.ref b)] [(.int (0 : Int32))])) _
    refine XS.aloadN X8.here hx rfl (hb hby d_jdk_42_method_66_code_29) rfl rfl ?_
    show Steps _ _ _ (T8.setTop (mkF m 30 #[.val (.ref a), .val (.ref b), .val (.ref b)] [(.ref b), (.int (0 : Int32))])) _
    exact hq)
  obtain ⟨T10, X10, e10, st10⟩ := getF X8 hx hZ hown (host := "") (Or.inl (hw _ (List.mem_of_getElem? (i := 35) rfl))) Via.refl e8 R2 (g := (mkF m 30 #[.val (.ref a), .val (.ref b), .val (.ref b)] [(.ref b), (.int (0 : Int32))])) rfl rfl (hb hby d_jdk_42_method_66_code_30)
  have k10 : To p.tables e below S0 (T10.setTop (mkF m 33 #[.val (.ref a), .val (.ref b), .val (.ref b)] [(.int (0 : Int32)), (.int (0 : Int32))])) := fun tt hq => k9 tt (st10 tt hq)
  have k11 : To p.tables e below S0 (T10.setTop (mkF m 37 #[.val (.ref a), .val (.ref b), .val (.ref b)] [(.ref a)])) := fun tt hq => k10 tt (by
    show Steps _ _ _ (T10.setTop (mkF m 33 #[.val (.ref a), .val (.ref b), .val (.ref b)] [(.int (0 : Int32)), (.int (0 : Int32))])) _
    refine XS.icmpNo X10.here hx rfl (hb hby d_jdk_42_method_66_code_33) rfl (teq (by decide)).2 ?_
    show Steps _ _ _ (T10.setTop (mkF m 36 #[.val (.ref a), .val (.ref b), .val (.ref b)] [])) _
    refine XS.aloadN X10.here hx rfl (hb hby d_jdk_42_method_66_code_36) rfl rfl ?_
    show Steps _ _ _ (T10.setTop (mkF m 37 #[.val (.ref a), .val (.ref b), .val (.ref b)] [(.ref a)])) _
    exact hq)
  obtain ⟨T12, X12, e12, st12⟩ := getF X10 hx hZ hown (host := "") (Or.inl (hw _ (List.mem_of_getElem? (i := 34) rfl))) Via.refl e10 P1 (g := (mkF m 37 #[.val (.ref a), .val (.ref b), .val (.ref b)] [(.ref a)])) rfl rfl (hb hby d_jdk_42_method_66_code_37)
  have k12 : To p.tables e below S0 (T12.setTop (mkF m 40 #[.val (.ref a), .val (.ref b), .val (.ref b)] [(.ref ta)])) := fun tt hq => k11 tt (st12 tt hq)
  have k13 : To p.tables e below S0 (T12.setTop (mkF m 41 #[.val (.ref a), .val (.ref b), .val (.ref b)] [(.ref b), (.ref ta)])) := fun tt hq => k12 tt (by
    show Steps _ _ _ (T12.setTop (mkF m 40 #[.val (.ref a), .val (.ref b), .val (.ref b)] [(.ref ta)])) _
    refine XS.aloadN X12.here hx rfl (hb hby d_jdk_42_method_66_code_40) rfl rfl ?_
    show Steps _ _ _ (T12.setTop (mkF m 41 #[.val (.ref a), .val (.ref b), .val (.ref b)] [(.ref b), (.ref ta)])) _
    exact hq)
  obtain ⟨T14, X14, e14, st14⟩ := getF X12 hx hZ hown (host := "") (Or.inl (hw _ (List.mem_of_getElem? (i := 34) rfl))) Via.refl e12 R1 (g := (mkF m 41 #[.val (.ref a), .val (.ref b), .val (.ref b)] [(.ref b), (.ref ta)])) rfl rfl (hb hby d_jdk_42_method_66_code_41)
  have k14 : To p.tables e below S0 (T14.setTop (mkF m 44 #[.val (.ref a), .val (.ref b), .val (.ref b)] [(.ref tb), (.ref ta)])) := fun tt hq => k13 tt (st14 tt hq)
  obtain ⟨_, T15, L15, X15, ⟨rfl, Nq15, eq15⟩, k15a⟩ := callS' X14 hx hZ (y := (⟨"java/lang/StringLatin1", "equals", "([B[B)Z"⟩ : MethodName)) hown (hw _ (List.mem_of_getElem? (i := 86) rfl)) (hw _ (List.mem_of_getElem? (i := 87) rfl)) (hw _ (List.mem_of_getElem? (i := 88) rfl)) (hw _ (List.mem_of_getElem? (i := 89) rfl)) (by decide) (backC (W := 0) (rm_lq12 l Z a0 hw ta ka c0 tb kb d0 d1 h0 n0 (by omega) P3 R3) hZ (hw _ (List.mem_of_getElem? (i := 89) rfl)) (hw _ (List.mem_of_getElem? (i := 88) rfl)) (by decide) (by decide)) e14 (argsL := [(.ref ta), (.ref tb)]) (rest := []) rfl rfl pd_8 rfl (by rw [hml]; rfl) (hb hby d_jdk_42_method_66_code_44) (Nat.le_of_eq rfl) (by decide) (by decide) k14
  have k15 : To p.tables e below S0 (T15.setTop (mkF m 47 #[.val (.ref a), .val (.ref b), .val (.ref b)] [(.int (if ([c0] : List Int32) = [d0, d1] then (1 : Int32) else (0 : Int32)))])) := k15a
  have N15 := N0.app Nq15
  have e15 : T15.heap = h0 := eq15
  by_cases hc47_16 : (if ([c0] : List Int32) = [d0, d1] then (1 : Int32) else (0 : Int32)) = (0 : Int32)
  · -- pc 47, holds
    have k17 : To p.tables e below S0 (T15.setTop (mkF m 55 #[.val (.ref a), .val (.ref b), .val (.ref b)] [(.int (0 : Int32))])) := fun tt hq => k15 tt (by
      show Steps _ _ _ (T15.setTop (mkF m 47 #[.val (.ref a), .val (.ref b), .val (.ref b)] [(.int (if ([c0] : List Int32) = [d0, d1] then (1 : Int32) else (0 : Int32)))])) _
      refine XS.ifYes X15.here hx rfl (pc0 := 47) (pc' := 54) rfl (hb hby d_jdk_42_method_66_code_47) rfl ((if0 _ _).trans (teq hc47_16).1) (by decide) (by decide) ?_
      show Steps _ _ _ (T15.setTop (mkF m 54 #[.val (.ref a), .val (.ref b), .val (.ref b)] [])) _
      refine XS.iconst X15.here hx rfl (hb hby d_jdk_42_method_66_code_54) ?_
      show Steps _ _ _ (T15.setTop (mkF m 55 #[.val (.ref a), .val (.ref b), .val (.ref b)] [(.int (0 : Int32))])) _
      exact hq)
    have hE := e15
    refine retInt X15 hx hret hlk (by simp) rfl (hb hby d_jdk_42_method_66_code_55) k17 ?_ (by decide) (by decide)
    try rw [hE]
    exact ⟨congrArg (fun z => some (Value.int z)) (Eq.symm hc47_16), N15, rfl⟩
  · -- pc 47, holds not
    have k18 : To p.tables e below S0 (T15.setTop (mkF m 55 #[.val (.ref a), .val (.ref b), .val (.ref b)] [(.int (1 : Int32))])) := fun tt hq => k15 tt (by
      show Steps _ _ _ (T15.setTop (mkF m 47 #[.val (.ref a), .val (.ref b), .val (.ref b)] [(.int (if ([c0] : List Int32) = [d0, d1] then (1 : Int32) else (0 : Int32)))])) _
      refine XS.ifNo X15.here hx rfl (hb hby d_jdk_42_method_66_code_47) rfl ((if0 _ _).trans (feq hc47_16).1) ?_
      show Steps _ _ _ (T15.setTop (mkF m 50 #[.val (.ref a), .val (.ref b), .val (.ref b)] [])) _
      refine XS.iconst X15.here hx rfl (hb hby d_jdk_42_method_66_code_50) ?_
      show Steps _ _ _ (T15.setTop (mkF m 51 #[.val (.ref a), .val (.ref b), .val (.ref b)] [(.int (1 : Int32))])) _
      refine XS.goto X15.here hx rfl (pc0 := 51) (pc' := 55) rfl (hb hby d_jdk_42_method_66_code_51) (by decide) (by decide) ?_
      show Steps _ _ _ (T15.setTop (mkF m 55 #[.val (.ref a), .val (.ref b), .val (.ref b)] [(.int (1 : Int32))])) _
      exact hq)
    have hE := e15
    refine retInt X15 hx hret hlk (by simp) rfl (hb hby d_jdk_42_method_66_code_55) k18 ?_ (by decide) (by decide)
    try rw [hE]
    exact ⟨congrArg (fun z => some (Value.int z)) (Eq.symm (own_if1 hc47_16)), N15, rfl⟩
set_option maxRecDepth 65536 in
set_option maxHeartbeats 40000000 in
theorem rm_lq20 (l : Launch) (Z : State) (a0 : Array Value) (hw : ∀ d ∈ tables_1, d.before a0 Z = true) (ta : Addr) (ka : ClassId) (c0 : Int32) (c1 : Int32) (tb : Addr) (kb : ClassId) (h0 : Heap) (n0 : Nat) (hn0 : n0 ≤ h0.size) (P0 : Arv Z h0 ta ka .byte (2 : Int32) [(.int c0), (.int c1)] (.int 0)) (P1 : Arv Z h0 tb kb .byte (0 : Int32) [] (.int 0)) :
    Con l Z (⟨"java/lang/StringLatin1", "equals", "([B[B)Z"⟩ : MethodName) jdk_43_method_13_code 3 (some .boolean) [] ({ frames := 0, cells := 0, slots := 0, locals := 0 } : Room) #[(.ref ta), (.ref tb)] h0 (fun v h L => v = some (.int (if ([c0, c1] : List Int32) = [] then (1 : Int32) else (0 : Int32))) ∧ Fr n0 L ∧ h = h0) := by
  refine enter (Ls := #[.val (.ref ta), .val (.ref tb), .unset]) (plainFor_of_name pn_3) (fun m => by exact entry_eq rfl) ?_
  intro p e s m below meth cd_ s₁ S0 hx hby hml hret hlk hnm hown hZ X0 e0 k0
  have N0 := Fr.nil n0
  have k1 : To p.tables e below S0 (s₁.setTop (mkF m 1 #[.val (.ref ta), .val (.ref tb), .unset] [(.ref ta)])) := fun tt hq => k0 tt (by
    show Steps _ _ _ (s₁.setTop (mkF m 0 #[.val (.ref ta), .val (.ref tb), .unset] [])) _
    refine XS.aloadN X0.here hx rfl (hb hby d_jdk_43_method_13_code_0) rfl rfl ?_
    show Steps _ _ _ (s₁.setTop (mkF m 1 #[.val (.ref ta), .val (.ref tb), .unset] [(.ref ta)])) _
    exact hq)
  obtain ⟨cl2, Ar2, -, S2, M2, -, -⟩ := id P0
  have st2 := fun tt => X0.arraylength hx (by rw [e0]; exact Ar2.1) (State.isArrayOf_alike hZ.alike Ar2.2.1) (g := (mkF m 1 #[.val (.ref ta), .val (.ref tb), .unset] [(.ref ta)])) rfl rfl (hb hby d_jdk_43_method_13_code_1) tt
  rw [len_of S2 M2] at st2
  have k2 : To p.tables e below S0 (s₁.setTop (mkF m 2 #[.val (.ref ta), .val (.ref tb), .unset] [(.int (2 : Int32))])) := fun tt hq => k1 tt (st2 tt hq)
  have k3 : To p.tables e below S0 (s₁.setTop (mkF m 3 #[.val (.ref ta), .val (.ref tb), .unset] [(.ref tb), (.int (2 : Int32))])) := fun tt hq => k2 tt (by
    show Steps _ _ _ (s₁.setTop (mkF m 2 #[.val (.ref ta), .val (.ref tb), .unset] [(.int (2 : Int32))])) _
    refine XS.aloadN X0.here hx rfl (hb hby d_jdk_43_method_13_code_2) rfl rfl ?_
    show Steps _ _ _ (s₁.setTop (mkF m 3 #[.val (.ref ta), .val (.ref tb), .unset] [(.ref tb), (.int (2 : Int32))])) _
    exact hq)
  obtain ⟨cl4, Ar4, -, S4, M4, -, -⟩ := id P1
  have st4 := fun tt => X0.arraylength hx (by rw [e0]; exact Ar4.1) (State.isArrayOf_alike hZ.alike Ar4.2.1) (g := (mkF m 3 #[.val (.ref ta), .val (.ref tb), .unset] [(.ref tb), (.int (2 : Int32))])) rfl rfl (hb hby d_jdk_43_method_13_code_3) tt
  rw [len_of S4 M4] at st4
  have k4 : To p.tables e below S0 (s₁.setTop (mkF m 4 #[.val (.ref ta), .val (.ref tb), .unset] [(.int (0 : Int32)), (.int (2 : Int32))])) := fun tt hq => k3 tt (st4 tt hq)
  have k5 : To p.tables e below S0 (s₁.setTop (mkF m 35 #[.val (.ref ta), .val (.ref tb), .unset] [(.int (0 : Int32))])) := fun tt hq => k4 tt (by
    show Steps _ _ _ (s₁.setTop (mkF m 4 #[.val (.ref ta), .val (.ref tb), .unset] [(.int (0 : Int32)), (.int (2 : Int32))])) _
    refine XS.icmpYes X0.here hx rfl (pc0 := 4) (pc' := 34) rfl (hb hby d_jdk_43_method_13_code_4) rfl (feq (by decide)).2 (by decide) (by decide) ?_
    show Steps _ _ _ (s₁.setTop (mkF m 34 #[.val (.ref ta), .val (.ref tb), .unset] [])) _
    refine XS.iconst X0.here hx rfl (hb hby d_jdk_43_method_13_code_34) ?_
    show Steps _ _ _ (s₁.setTop (mkF m 35 #[.val (.ref ta), .val (.ref tb), .unset] [(.int (0 : Int32))])) _
    exact hq)
  have hE := e0
  refine retInt X0 hx hret hlk (by simp) rfl (hb hby d_jdk_43_method_13_code_35) k5 ?_ (by decide) (by decide)
  try rw [hE]
  exact ⟨congrArg (fun z => some (Value.int z)) (Eq.symm (if_neg (fun q => by cases q))), N0, rfl⟩
set_option maxRecDepth 65536 in
set_option maxHeartbeats 40000000 in
theorem rm_sq20 (l : Launch) (Z : State) (a0 : Array Value) (hw : ∀ d ∈ tables_1, d.before a0 Z = true) (zc : Int32) (a : Addr) (b : Addr) (ta : Addr) (ka : ClassId) (c0 : Int32) (c1 : Int32) (tb : Addr) (kb : ClassId) (h0 : Heap) (n0 : Nat) (hn0 : n0 ≤ h0.size) (S_c : Sta Z Z.heap "java/lang/String" "COMPACT_STRINGS" "Z" (.int zc)) (hzc : ¬ zc = (0 : Int32)) (O0 : Old Z n0 h0) (hab : ¬ a = b) (P0 : Exa Z h0 a "java/lang/String") (P1 : Fld Z h0 a "java/lang/String" "value" "[B" (.ref ta)) (P2 : Fld Z h0 a "java/lang/String" "coder" "B" (.int (0 : Int32))) (P3 : Arv Z h0 ta ka .byte (2 : Int32) [(.int c0), (.int c1)] (.int 0)) (R0 : Exa Z h0 b "java/lang/String") (R1 : Fld Z h0 b "java/lang/String" "value" "[B" (.ref tb)) (R2 : Fld Z h0 b "java/lang/String" "coder" "B" (.int (0 : Int32))) (R3 : Arv Z h0 tb kb .byte (0 : Int32) [] (.int 0)) :
    Con l Z (⟨"java/lang/String", "equals", "(Ljava/lang/Object;)Z"⟩ : MethodName) jdk_42_method_66_code 3 (some .boolean) [] ({ frames := 1, cells := 0, slots := 0, locals := 14 } : Room) #[(.ref a), (.ref b)] h0 (fun v h L => v = some (.int (if ([c0, c1] : List Int32) = [] then (1 : Int32) else (0 : Int32))) ∧ Fr n0 L ∧ h = h0) := by
  refine enter (Ls := #[.val (.ref a), .val (.ref b), .unset]) (plainFor_of_name pn_2) (fun m => by exact entry_eq rfl) ?_
  intro p e s m below meth cd_ s₁ S0 hx hby hml hret hlk hnm hown hZ X0 e0 k0
  have N0 := Fr.nil n0
  have k1 : To p.tables e below S0 (s₁.setTop (mkF m 8 #[.val (.ref a), .val (.ref b), .unset] [(.ref b)])) := fun tt hq => k0 tt (by
    show Steps _ _ _ (s₁.setTop (mkF m 0 #[.val (.ref a), .val (.ref b), .unset] [])) _
    refine XS.aloadN X0.here hx rfl (hb hby d_jdk_42_method_66_code_0) rfl rfl ?_
    show Steps _ _ _ (s₁.setTop (mkF m 1 #[.val (.ref a), .val (.ref b), .unset] [(.ref a)])) _
    refine XS.aloadN X0.here hx rfl (hb hby d_jdk_42_method_66_code_1) rfl rfl ?_
    show Steps _ _ _ (s₁.setTop (mkF m 2 #[.val (.ref a), .val (.ref b), .unset] [(.ref b), (.ref a)])) _
    refine Jvm.RoadKit.acmp (g := (mkF m 2 #[.val (.ref a), .val (.ref b), .unset] [(.ref b), (.ref a)])) X0 hx rfl rfl rfl (pc0 := 2) (pc' := 7) (same := false) rfl (hb hby d_jdk_42_method_66_code_2) rfl (decide_eq_false fun q => hab (Value.ref.inj q)) (by decide) (by decide) ?_
    show Steps _ _ _ (s₁.setTop (mkF m 7 #[.val (.ref a), .val (.ref b), .unset] [])) _
    refine XS.aloadN X0.here hx rfl (hb hby d_jdk_42_method_66_code_7) rfl rfl ?_
    show Steps _ _ _ (s₁.setTop (mkF m 8 #[.val (.ref a), .val (.ref b), .unset] [(.ref b)])) _
    exact hq)
  obtain ⟨T2, X2, e2, st2⟩ := instY X0 hx hZ hown (hw _ (List.mem_of_getElem? (i := 85) rfl)) e0 (Ins.self R0) (g := (mkF m 8 #[.val (.ref a), .val (.ref b), .unset] [(.ref b)])) rfl rfl (hb hby d_jdk_42_method_66_code_8)
  have k2 : To p.tables e below S0 (T2.setTop (mkF m 11 #[.val (.ref a), .val (.ref b), .unset] [(.int (1 : Int32))])) := fun tt hq => k1 tt (st2 tt hq)
  have k3 : To p.tables e below S0 (T2.setTop (mkF m 15 #[.val (.ref a), .val (.ref b), .unset] [(.ref b)])) := fun tt hq => k2 tt (by
    show Steps _ _ _ (T2.setTop (mkF m 11 #[.val (.ref a), .val (.ref b), .unset] [(.int (1 : Int32))])) _
    refine XS.ifNo X2.here hx rfl (hb hby d_jdk_42_method_66_code_11) rfl ((if0 _ _).trans (feq (by decide)).1) ?_
    show Steps _ _ _ (T2.setTop (mkF m 14 #[.val (.ref a), .val (.ref b), .unset] [])) _
    refine XS.aloadN X2.here hx rfl (hb hby d_jdk_42_method_66_code_14) rfl rfl ?_
    show Steps _ _ _ (T2.setTop (mkF m 15 #[.val (.ref a), .val (.ref b), .unset] [(.ref b)])) _
    exact hq)
  obtain ⟨T4, X4, e4, st4⟩ := castY X2 hx hZ hown (hw _ (List.mem_of_getElem? (i := 85) rfl)) e2 (Ins.self R0) (g := (mkF m 15 #[.val (.ref a), .val (.ref b), .unset] [(.ref b)])) rfl rfl (hb hby d_jdk_42_method_66_code_15)
  have k4 : To p.tables e below S0 (T4.setTop (mkF m 18 #[.val (.ref a), .val (.ref b), .unset] [(.ref b)])) := fun tt hq => k3 tt (st4 tt hq)
  have k5 : To p.tables e below S0 (T4.setTop (mkF m 19 #[.val (.ref a), .val (.ref b), .val (.ref b)] [])) := fun tt hq => k4 tt (by
    show Steps _ _ _ (T4.setTop (mkF m 18 #[.val (.ref a), .val (.ref b), .unset] [(.ref b)])) _
    refine XS.astoreN X4.here hx rfl (hb hby d_jdk_42_method_66_code_18) rfl rfl (l' := #[.val (.ref a), .val (.ref b), .val (.ref b)]) rfl ?_
    show Steps _ _ _ (T4.setTop (mkF m 19 #[.val (.ref a), .val (.ref b), .val (.ref b)] [])) _
    exact hq)
  obtain ⟨T6, X6, e6, st6⟩ := getS2 X4 hx hZ hown (host := "") (Or.inl (hw _ (List.mem_of_getElem? (i := 42) rfl))) Via.refl e4 (staOld S_c O0) (g := (mkF m 19 #[.val (.ref a), .val (.ref b), .val (.ref b)] [])) rfl (hb hby d_jdk_42_method_66_code_19)
  have k6 : To p.tables e below S0 (T6.setTop (mkF m 22 #[.val (.ref a), .val (.ref b), .val (.ref b)] [(.int zc)])) := fun tt hq => k5 tt (st6 tt hq)
  have k7 : To p.tables e below S0 (T6.setTop (mkF m 26 #[.val (.ref a), .val (.ref b), .val (.ref b)] [(.ref a)])) := fun tt hq => k6 tt (by
    show Steps _ _ _ (T6.setTop (mkF m 22 #[.val (.ref a), .val (.ref b), .val (.ref b)] [(.int zc)])) _
    refine XS.ifNo X6.here hx rfl (hb hby d_jdk_42_method_66_code_22) rfl ((if0 _ _).trans (feq hzc).1) ?_
    show Steps _ _ _ (T6.setTop (mkF m 25 #[.val (.ref a), .val (.ref b), .val (.ref b)] [])) _
    refine XS.aloadN X6.here hx rfl (hb hby d_jdk_42_method_66_code_25) rfl rfl ?_
    show Steps _ _ _ (T6.setTop (mkF m 26 #[.val (.ref a), .val (.ref b), .val (.ref b)] [(.ref a)])) _
    exact hq)
  obtain ⟨T8, X8, e8, st8⟩ := getF X6 hx hZ hown (host := "") (Or.inl (hw _ (List.mem_of_getElem? (i := 35) rfl))) Via.refl e6 P2 (g := (mkF m 26 #[.val (.ref a), .val (.ref b), .val (.ref b)] [(.ref a)])) rfl rfl (hb hby d_jdk_42_method_66_code_26)
  have k8 : To p.tables e below S0 (T8.setTop (mkF m 29 #[.val (.ref a), .val (.ref b), .val (.ref b)] [(.int (0 : Int32))])) := fun tt hq => k7 tt (st8 tt hq)
  have k9 : To p.tables e below S0 (T8.setTop (mkF m 30 #[.val (.ref a), .val (.ref b), .val (.ref b)] [(.ref b), (.int (0 : Int32))])) := fun tt hq => k8 tt (by
    show Steps _ _ _ (T8.setTop (mkF m 29 #[.val (.ref a), .val (.ref b), .val (.ref b)] [(.int (0 : Int32))])) _
    refine XS.aloadN X8.here hx rfl (hb hby d_jdk_42_method_66_code_29) rfl rfl ?_
    show Steps _ _ _ (T8.setTop (mkF m 30 #[.val (.ref a), .val (.ref b), .val (.ref b)] [(.ref b), (.int (0 : Int32))])) _
    exact hq)
  obtain ⟨T10, X10, e10, st10⟩ := getF X8 hx hZ hown (host := "") (Or.inl (hw _ (List.mem_of_getElem? (i := 35) rfl))) Via.refl e8 R2 (g := (mkF m 30 #[.val (.ref a), .val (.ref b), .val (.ref b)] [(.ref b), (.int (0 : Int32))])) rfl rfl (hb hby d_jdk_42_method_66_code_30)
  have k10 : To p.tables e below S0 (T10.setTop (mkF m 33 #[.val (.ref a), .val (.ref b), .val (.ref b)] [(.int (0 : Int32)), (.int (0 : Int32))])) := fun tt hq => k9 tt (st10 tt hq)
  have k11 : To p.tables e below S0 (T10.setTop (mkF m 37 #[.val (.ref a), .val (.ref b), .val (.ref b)] [(.ref a)])) := fun tt hq => k10 tt (by
    show Steps _ _ _ (T10.setTop (mkF m 33 #[.val (.ref a), .val (.ref b), .val (.ref b)] [(.int (0 : Int32)), (.int (0 : Int32))])) _
    refine XS.icmpNo X10.here hx rfl (hb hby d_jdk_42_method_66_code_33) rfl (teq (by decide)).2 ?_
    show Steps _ _ _ (T10.setTop (mkF m 36 #[.val (.ref a), .val (.ref b), .val (.ref b)] [])) _
    refine XS.aloadN X10.here hx rfl (hb hby d_jdk_42_method_66_code_36) rfl rfl ?_
    show Steps _ _ _ (T10.setTop (mkF m 37 #[.val (.ref a), .val (.ref b), .val (.ref b)] [(.ref a)])) _
    exact hq)
  obtain ⟨T12, X12, e12, st12⟩ := getF X10 hx hZ hown (host := "") (Or.inl (hw _ (List.mem_of_getElem? (i := 34) rfl))) Via.refl e10 P1 (g := (mkF m 37 #[.val (.ref a), .val (.ref b), .val (.ref b)] [(.ref a)])) rfl rfl (hb hby d_jdk_42_method_66_code_37)
  have k12 : To p.tables e below S0 (T12.setTop (mkF m 40 #[.val (.ref a), .val (.ref b), .val (.ref b)] [(.ref ta)])) := fun tt hq => k11 tt (st12 tt hq)
  have k13 : To p.tables e below S0 (T12.setTop (mkF m 41 #[.val (.ref a), .val (.ref b), .val (.ref b)] [(.ref b), (.ref ta)])) := fun tt hq => k12 tt (by
    show Steps _ _ _ (T12.setTop (mkF m 40 #[.val (.ref a), .val (.ref b), .val (.ref b)] [(.ref ta)])) _
    refine XS.aloadN X12.here hx rfl (hb hby d_jdk_42_method_66_code_40) rfl rfl ?_
    show Steps _ _ _ (T12.setTop (mkF m 41 #[.val (.ref a), .val (.ref b), .val (.ref b)] [(.ref b), (.ref ta)])) _
    exact hq)
  obtain ⟨T14, X14, e14, st14⟩ := getF X12 hx hZ hown (host := "") (Or.inl (hw _ (List.mem_of_getElem? (i := 34) rfl))) Via.refl e12 R1 (g := (mkF m 41 #[.val (.ref a), .val (.ref b), .val (.ref b)] [(.ref b), (.ref ta)])) rfl rfl (hb hby d_jdk_42_method_66_code_41)
  have k14 : To p.tables e below S0 (T14.setTop (mkF m 44 #[.val (.ref a), .val (.ref b), .val (.ref b)] [(.ref tb), (.ref ta)])) := fun tt hq => k13 tt (st14 tt hq)
  obtain ⟨_, T15, L15, X15, ⟨rfl, Nq15, eq15⟩, k15a⟩ := callS' X14 hx hZ (y := (⟨"java/lang/StringLatin1", "equals", "([B[B)Z"⟩ : MethodName)) hown (hw _ (List.mem_of_getElem? (i := 86) rfl)) (hw _ (List.mem_of_getElem? (i := 87) rfl)) (hw _ (List.mem_of_getElem? (i := 88) rfl)) (hw _ (List.mem_of_getElem? (i := 89) rfl)) (by decide) (backC (W := 0) (rm_lq20 l Z a0 hw ta ka c0 c1 tb kb  h0 n0 (by omega) P3 R3) hZ (hw _ (List.mem_of_getElem? (i := 89) rfl)) (hw _ (List.mem_of_getElem? (i := 88) rfl)) (by decide) (by decide)) e14 (argsL := [(.ref ta), (.ref tb)]) (rest := []) rfl rfl pd_8 rfl (by rw [hml]; rfl) (hb hby d_jdk_42_method_66_code_44) (Nat.le_of_eq rfl) (by decide) (by decide) k14
  have k15 : To p.tables e below S0 (T15.setTop (mkF m 47 #[.val (.ref a), .val (.ref b), .val (.ref b)] [(.int (if ([c0, c1] : List Int32) = [] then (1 : Int32) else (0 : Int32)))])) := k15a
  have N15 := N0.app Nq15
  have e15 : T15.heap = h0 := eq15
  by_cases hc47_16 : (if ([c0, c1] : List Int32) = [] then (1 : Int32) else (0 : Int32)) = (0 : Int32)
  · -- pc 47, holds
    have k17 : To p.tables e below S0 (T15.setTop (mkF m 55 #[.val (.ref a), .val (.ref b), .val (.ref b)] [(.int (0 : Int32))])) := fun tt hq => k15 tt (by
      show Steps _ _ _ (T15.setTop (mkF m 47 #[.val (.ref a), .val (.ref b), .val (.ref b)] [(.int (if ([c0, c1] : List Int32) = [] then (1 : Int32) else (0 : Int32)))])) _
      refine XS.ifYes X15.here hx rfl (pc0 := 47) (pc' := 54) rfl (hb hby d_jdk_42_method_66_code_47) rfl ((if0 _ _).trans (teq hc47_16).1) (by decide) (by decide) ?_
      show Steps _ _ _ (T15.setTop (mkF m 54 #[.val (.ref a), .val (.ref b), .val (.ref b)] [])) _
      refine XS.iconst X15.here hx rfl (hb hby d_jdk_42_method_66_code_54) ?_
      show Steps _ _ _ (T15.setTop (mkF m 55 #[.val (.ref a), .val (.ref b), .val (.ref b)] [(.int (0 : Int32))])) _
      exact hq)
    have hE := e15
    refine retInt X15 hx hret hlk (by simp) rfl (hb hby d_jdk_42_method_66_code_55) k17 ?_ (by decide) (by decide)
    try rw [hE]
    exact ⟨congrArg (fun z => some (Value.int z)) (Eq.symm hc47_16), N15, rfl⟩
  · -- pc 47, holds not
    have k18 : To p.tables e below S0 (T15.setTop (mkF m 55 #[.val (.ref a), .val (.ref b), .val (.ref b)] [(.int (1 : Int32))])) := fun tt hq => k15 tt (by
      show Steps _ _ _ (T15.setTop (mkF m 47 #[.val (.ref a), .val (.ref b), .val (.ref b)] [(.int (if ([c0, c1] : List Int32) = [] then (1 : Int32) else (0 : Int32)))])) _
      refine XS.ifNo X15.here hx rfl (hb hby d_jdk_42_method_66_code_47) rfl ((if0 _ _).trans (feq hc47_16).1) ?_
      show Steps _ _ _ (T15.setTop (mkF m 50 #[.val (.ref a), .val (.ref b), .val (.ref b)] [])) _
      refine XS.iconst X15.here hx rfl (hb hby d_jdk_42_method_66_code_50) ?_
      show Steps _ _ _ (T15.setTop (mkF m 51 #[.val (.ref a), .val (.ref b), .val (.ref b)] [(.int (1 : Int32))])) _
      refine XS.goto X15.here hx rfl (pc0 := 51) (pc' := 55) rfl (hb hby d_jdk_42_method_66_code_51) (by decide) (by decide) ?_
      show Steps _ _ _ (T15.setTop (mkF m 55 #[.val (.ref a), .val (.ref b), .val (.ref b)] [(.int (1 : Int32))])) _
      exact hq)
    have hE := e15
    refine retInt X15 hx hret hlk (by simp) rfl (hb hby d_jdk_42_method_66_code_55) k18 ?_ (by decide) (by decide)
    try rw [hE]
    exact ⟨congrArg (fun z => some (Value.int z)) (Eq.symm (own_if1 hc47_16)), N15, rfl⟩
set_option maxRecDepth 65536 in
set_option maxHeartbeats 40000000 in
theorem rm_lq21 (l : Launch) (Z : State) (a0 : Array Value) (hw : ∀ d ∈ tables_1, d.before a0 Z = true) (ta : Addr) (ka : ClassId) (c0 : Int32) (c1 : Int32) (tb : Addr) (kb : ClassId) (d0 : Int32) (h0 : Heap) (n0 : Nat) (hn0 : n0 ≤ h0.size) (P0 : Arv Z h0 ta ka .byte (2 : Int32) [(.int c0), (.int c1)] (.int 0)) (P1 : Arv Z h0 tb kb .byte (1 : Int32) [(.int d0)] (.int 0)) :
    Con l Z (⟨"java/lang/StringLatin1", "equals", "([B[B)Z"⟩ : MethodName) jdk_43_method_13_code 3 (some .boolean) [] ({ frames := 0, cells := 0, slots := 0, locals := 0 } : Room) #[(.ref ta), (.ref tb)] h0 (fun v h L => v = some (.int (if ([c0, c1] : List Int32) = [d0] then (1 : Int32) else (0 : Int32))) ∧ Fr n0 L ∧ h = h0) := by
  refine enter (Ls := #[.val (.ref ta), .val (.ref tb), .unset]) (plainFor_of_name pn_3) (fun m => by exact entry_eq rfl) ?_
  intro p e s m below meth cd_ s₁ S0 hx hby hml hret hlk hnm hown hZ X0 e0 k0
  have N0 := Fr.nil n0
  have k1 : To p.tables e below S0 (s₁.setTop (mkF m 1 #[.val (.ref ta), .val (.ref tb), .unset] [(.ref ta)])) := fun tt hq => k0 tt (by
    show Steps _ _ _ (s₁.setTop (mkF m 0 #[.val (.ref ta), .val (.ref tb), .unset] [])) _
    refine XS.aloadN X0.here hx rfl (hb hby d_jdk_43_method_13_code_0) rfl rfl ?_
    show Steps _ _ _ (s₁.setTop (mkF m 1 #[.val (.ref ta), .val (.ref tb), .unset] [(.ref ta)])) _
    exact hq)
  obtain ⟨cl2, Ar2, -, S2, M2, -, -⟩ := id P0
  have st2 := fun tt => X0.arraylength hx (by rw [e0]; exact Ar2.1) (State.isArrayOf_alike hZ.alike Ar2.2.1) (g := (mkF m 1 #[.val (.ref ta), .val (.ref tb), .unset] [(.ref ta)])) rfl rfl (hb hby d_jdk_43_method_13_code_1) tt
  rw [len_of S2 M2] at st2
  have k2 : To p.tables e below S0 (s₁.setTop (mkF m 2 #[.val (.ref ta), .val (.ref tb), .unset] [(.int (2 : Int32))])) := fun tt hq => k1 tt (st2 tt hq)
  have k3 : To p.tables e below S0 (s₁.setTop (mkF m 3 #[.val (.ref ta), .val (.ref tb), .unset] [(.ref tb), (.int (2 : Int32))])) := fun tt hq => k2 tt (by
    show Steps _ _ _ (s₁.setTop (mkF m 2 #[.val (.ref ta), .val (.ref tb), .unset] [(.int (2 : Int32))])) _
    refine XS.aloadN X0.here hx rfl (hb hby d_jdk_43_method_13_code_2) rfl rfl ?_
    show Steps _ _ _ (s₁.setTop (mkF m 3 #[.val (.ref ta), .val (.ref tb), .unset] [(.ref tb), (.int (2 : Int32))])) _
    exact hq)
  obtain ⟨cl4, Ar4, -, S4, M4, -, -⟩ := id P1
  have st4 := fun tt => X0.arraylength hx (by rw [e0]; exact Ar4.1) (State.isArrayOf_alike hZ.alike Ar4.2.1) (g := (mkF m 3 #[.val (.ref ta), .val (.ref tb), .unset] [(.ref tb), (.int (2 : Int32))])) rfl rfl (hb hby d_jdk_43_method_13_code_3) tt
  rw [len_of S4 M4] at st4
  have k4 : To p.tables e below S0 (s₁.setTop (mkF m 4 #[.val (.ref ta), .val (.ref tb), .unset] [(.int (1 : Int32)), (.int (2 : Int32))])) := fun tt hq => k3 tt (st4 tt hq)
  have k5 : To p.tables e below S0 (s₁.setTop (mkF m 35 #[.val (.ref ta), .val (.ref tb), .unset] [(.int (0 : Int32))])) := fun tt hq => k4 tt (by
    show Steps _ _ _ (s₁.setTop (mkF m 4 #[.val (.ref ta), .val (.ref tb), .unset] [(.int (1 : Int32)), (.int (2 : Int32))])) _
    refine XS.icmpYes X0.here hx rfl (pc0 := 4) (pc' := 34) rfl (hb hby d_jdk_43_method_13_code_4) rfl (feq (by decide)).2 (by decide) (by decide) ?_
    show Steps _ _ _ (s₁.setTop (mkF m 34 #[.val (.ref ta), .val (.ref tb), .unset] [])) _
    refine XS.iconst X0.here hx rfl (hb hby d_jdk_43_method_13_code_34) ?_
    show Steps _ _ _ (s₁.setTop (mkF m 35 #[.val (.ref ta), .val (.ref tb), .unset] [(.int (0 : Int32))])) _
    exact hq)
  have hE := e0
  refine retInt X0 hx hret hlk (by simp) rfl (hb hby d_jdk_43_method_13_code_35) k5 ?_ (by decide) (by decide)
  try rw [hE]
  exact ⟨congrArg (fun z => some (Value.int z)) (Eq.symm (if_neg (fun q => by cases q))), N0, rfl⟩
set_option maxRecDepth 65536 in
set_option maxHeartbeats 40000000 in
theorem rm_sq21 (l : Launch) (Z : State) (a0 : Array Value) (hw : ∀ d ∈ tables_1, d.before a0 Z = true) (zc : Int32) (a : Addr) (b : Addr) (ta : Addr) (ka : ClassId) (c0 : Int32) (c1 : Int32) (tb : Addr) (kb : ClassId) (d0 : Int32) (h0 : Heap) (n0 : Nat) (hn0 : n0 ≤ h0.size) (S_c : Sta Z Z.heap "java/lang/String" "COMPACT_STRINGS" "Z" (.int zc)) (hzc : ¬ zc = (0 : Int32)) (O0 : Old Z n0 h0) (hab : ¬ a = b) (P0 : Exa Z h0 a "java/lang/String") (P1 : Fld Z h0 a "java/lang/String" "value" "[B" (.ref ta)) (P2 : Fld Z h0 a "java/lang/String" "coder" "B" (.int (0 : Int32))) (P3 : Arv Z h0 ta ka .byte (2 : Int32) [(.int c0), (.int c1)] (.int 0)) (R0 : Exa Z h0 b "java/lang/String") (R1 : Fld Z h0 b "java/lang/String" "value" "[B" (.ref tb)) (R2 : Fld Z h0 b "java/lang/String" "coder" "B" (.int (0 : Int32))) (R3 : Arv Z h0 tb kb .byte (1 : Int32) [(.int d0)] (.int 0)) :
    Con l Z (⟨"java/lang/String", "equals", "(Ljava/lang/Object;)Z"⟩ : MethodName) jdk_42_method_66_code 3 (some .boolean) [] ({ frames := 1, cells := 0, slots := 0, locals := 14 } : Room) #[(.ref a), (.ref b)] h0 (fun v h L => v = some (.int (if ([c0, c1] : List Int32) = [d0] then (1 : Int32) else (0 : Int32))) ∧ Fr n0 L ∧ h = h0) := by
  refine enter (Ls := #[.val (.ref a), .val (.ref b), .unset]) (plainFor_of_name pn_2) (fun m => by exact entry_eq rfl) ?_
  intro p e s m below meth cd_ s₁ S0 hx hby hml hret hlk hnm hown hZ X0 e0 k0
  have N0 := Fr.nil n0
  have k1 : To p.tables e below S0 (s₁.setTop (mkF m 8 #[.val (.ref a), .val (.ref b), .unset] [(.ref b)])) := fun tt hq => k0 tt (by
    show Steps _ _ _ (s₁.setTop (mkF m 0 #[.val (.ref a), .val (.ref b), .unset] [])) _
    refine XS.aloadN X0.here hx rfl (hb hby d_jdk_42_method_66_code_0) rfl rfl ?_
    show Steps _ _ _ (s₁.setTop (mkF m 1 #[.val (.ref a), .val (.ref b), .unset] [(.ref a)])) _
    refine XS.aloadN X0.here hx rfl (hb hby d_jdk_42_method_66_code_1) rfl rfl ?_
    show Steps _ _ _ (s₁.setTop (mkF m 2 #[.val (.ref a), .val (.ref b), .unset] [(.ref b), (.ref a)])) _
    refine Jvm.RoadKit.acmp (g := (mkF m 2 #[.val (.ref a), .val (.ref b), .unset] [(.ref b), (.ref a)])) X0 hx rfl rfl rfl (pc0 := 2) (pc' := 7) (same := false) rfl (hb hby d_jdk_42_method_66_code_2) rfl (decide_eq_false fun q => hab (Value.ref.inj q)) (by decide) (by decide) ?_
    show Steps _ _ _ (s₁.setTop (mkF m 7 #[.val (.ref a), .val (.ref b), .unset] [])) _
    refine XS.aloadN X0.here hx rfl (hb hby d_jdk_42_method_66_code_7) rfl rfl ?_
    show Steps _ _ _ (s₁.setTop (mkF m 8 #[.val (.ref a), .val (.ref b), .unset] [(.ref b)])) _
    exact hq)
  obtain ⟨T2, X2, e2, st2⟩ := instY X0 hx hZ hown (hw _ (List.mem_of_getElem? (i := 85) rfl)) e0 (Ins.self R0) (g := (mkF m 8 #[.val (.ref a), .val (.ref b), .unset] [(.ref b)])) rfl rfl (hb hby d_jdk_42_method_66_code_8)
  have k2 : To p.tables e below S0 (T2.setTop (mkF m 11 #[.val (.ref a), .val (.ref b), .unset] [(.int (1 : Int32))])) := fun tt hq => k1 tt (st2 tt hq)
  have k3 : To p.tables e below S0 (T2.setTop (mkF m 15 #[.val (.ref a), .val (.ref b), .unset] [(.ref b)])) := fun tt hq => k2 tt (by
    show Steps _ _ _ (T2.setTop (mkF m 11 #[.val (.ref a), .val (.ref b), .unset] [(.int (1 : Int32))])) _
    refine XS.ifNo X2.here hx rfl (hb hby d_jdk_42_method_66_code_11) rfl ((if0 _ _).trans (feq (by decide)).1) ?_
    show Steps _ _ _ (T2.setTop (mkF m 14 #[.val (.ref a), .val (.ref b), .unset] [])) _
    refine XS.aloadN X2.here hx rfl (hb hby d_jdk_42_method_66_code_14) rfl rfl ?_
    show Steps _ _ _ (T2.setTop (mkF m 15 #[.val (.ref a), .val (.ref b), .unset] [(.ref b)])) _
    exact hq)
  obtain ⟨T4, X4, e4, st4⟩ := castY X2 hx hZ hown (hw _ (List.mem_of_getElem? (i := 85) rfl)) e2 (Ins.self R0) (g := (mkF m 15 #[.val (.ref a), .val (.ref b), .unset] [(.ref b)])) rfl rfl (hb hby d_jdk_42_method_66_code_15)
  have k4 : To p.tables e below S0 (T4.setTop (mkF m 18 #[.val (.ref a), .val (.ref b), .unset] [(.ref b)])) := fun tt hq => k3 tt (st4 tt hq)
  have k5 : To p.tables e below S0 (T4.setTop (mkF m 19 #[.val (.ref a), .val (.ref b), .val (.ref b)] [])) := fun tt hq => k4 tt (by
    show Steps _ _ _ (T4.setTop (mkF m 18 #[.val (.ref a), .val (.ref b), .unset] [(.ref b)])) _
    refine XS.astoreN X4.here hx rfl (hb hby d_jdk_42_method_66_code_18) rfl rfl (l' := #[.val (.ref a), .val (.ref b), .val (.ref b)]) rfl ?_
    show Steps _ _ _ (T4.setTop (mkF m 19 #[.val (.ref a), .val (.ref b), .val (.ref b)] [])) _
    exact hq)
  obtain ⟨T6, X6, e6, st6⟩ := getS2 X4 hx hZ hown (host := "") (Or.inl (hw _ (List.mem_of_getElem? (i := 42) rfl))) Via.refl e4 (staOld S_c O0) (g := (mkF m 19 #[.val (.ref a), .val (.ref b), .val (.ref b)] [])) rfl (hb hby d_jdk_42_method_66_code_19)
  have k6 : To p.tables e below S0 (T6.setTop (mkF m 22 #[.val (.ref a), .val (.ref b), .val (.ref b)] [(.int zc)])) := fun tt hq => k5 tt (st6 tt hq)
  have k7 : To p.tables e below S0 (T6.setTop (mkF m 26 #[.val (.ref a), .val (.ref b), .val (.ref b)] [(.ref a)])) := fun tt hq => k6 tt (by
    show Steps _ _ _ (T6.setTop (mkF m 22 #[.val (.ref a), .val (.ref b), .val (.ref b)] [(.int zc)])) _
    refine XS.ifNo X6.here hx rfl (hb hby d_jdk_42_method_66_code_22) rfl ((if0 _ _).trans (feq hzc).1) ?_
    show Steps _ _ _ (T6.setTop (mkF m 25 #[.val (.ref a), .val (.ref b), .val (.ref b)] [])) _
    refine XS.aloadN X6.here hx rfl (hb hby d_jdk_42_method_66_code_25) rfl rfl ?_
    show Steps _ _ _ (T6.setTop (mkF m 26 #[.val (.ref a), .val (.ref b), .val (.ref b)] [(.ref a)])) _
    exact hq)
  obtain ⟨T8, X8, e8, st8⟩ := getF X6 hx hZ hown (host := "") (Or.inl (hw _ (List.mem_of_getElem? (i := 35) rfl))) Via.refl e6 P2 (g := (mkF m 26 #[.val (.ref a), .val (.ref b), .val (.ref b)] [(.ref a)])) rfl rfl (hb hby d_jdk_42_method_66_code_26)
  have k8 : To p.tables e below S0 (T8.setTop (mkF m 29 #[.val (.ref a), .val (.ref b), .val (.ref b)] [(.int (0 : Int32))])) := fun tt hq => k7 tt (st8 tt hq)
  have k9 : To p.tables e below S0 (T8.setTop (mkF m 30 #[.val (.ref a), .val (.ref b), .val (.ref b)] [(.ref b), (.int (0 : Int32))])) := fun tt hq => k8 tt (by
    show Steps _ _ _ (T8.setTop (mkF m 29 #[.val (.ref a), .val (.ref b), .val (.ref b)] [(.int (0 : Int32))])) _
    refine XS.aloadN X8.here hx rfl (hb hby d_jdk_42_method_66_code_29) rfl rfl ?_
    show Steps _ _ _ (T8.setTop (mkF m 30 #[.val (.ref a), .val (.ref b), .val (.ref b)] [(.ref b), (.int (0 : Int32))])) _
    exact hq)
  obtain ⟨T10, X10, e10, st10⟩ := getF X8 hx hZ hown (host := "") (Or.inl (hw _ (List.mem_of_getElem? (i := 35) rfl))) Via.refl e8 R2 (g := (mkF m 30 #[.val (.ref a), .val (.ref b), .val (.ref b)] [(.ref b), (.int (0 : Int32))])) rfl rfl (hb hby d_jdk_42_method_66_code_30)
  have k10 : To p.tables e below S0 (T10.setTop (mkF m 33 #[.val (.ref a), .val (.ref b), .val (.ref b)] [(.int (0 : Int32)), (.int (0 : Int32))])) := fun tt hq => k9 tt (st10 tt hq)
  have k11 : To p.tables e below S0 (T10.setTop (mkF m 37 #[.val (.ref a), .val (.ref b), .val (.ref b)] [(.ref a)])) := fun tt hq => k10 tt (by
    show Steps _ _ _ (T10.setTop (mkF m 33 #[.val (.ref a), .val (.ref b), .val (.ref b)] [(.int (0 : Int32)), (.int (0 : Int32))])) _
    refine XS.icmpNo X10.here hx rfl (hb hby d_jdk_42_method_66_code_33) rfl (teq (by decide)).2 ?_
    show Steps _ _ _ (T10.setTop (mkF m 36 #[.val (.ref a), .val (.ref b), .val (.ref b)] [])) _
    refine XS.aloadN X10.here hx rfl (hb hby d_jdk_42_method_66_code_36) rfl rfl ?_
    show Steps _ _ _ (T10.setTop (mkF m 37 #[.val (.ref a), .val (.ref b), .val (.ref b)] [(.ref a)])) _
    exact hq)
  obtain ⟨T12, X12, e12, st12⟩ := getF X10 hx hZ hown (host := "") (Or.inl (hw _ (List.mem_of_getElem? (i := 34) rfl))) Via.refl e10 P1 (g := (mkF m 37 #[.val (.ref a), .val (.ref b), .val (.ref b)] [(.ref a)])) rfl rfl (hb hby d_jdk_42_method_66_code_37)
  have k12 : To p.tables e below S0 (T12.setTop (mkF m 40 #[.val (.ref a), .val (.ref b), .val (.ref b)] [(.ref ta)])) := fun tt hq => k11 tt (st12 tt hq)
  have k13 : To p.tables e below S0 (T12.setTop (mkF m 41 #[.val (.ref a), .val (.ref b), .val (.ref b)] [(.ref b), (.ref ta)])) := fun tt hq => k12 tt (by
    show Steps _ _ _ (T12.setTop (mkF m 40 #[.val (.ref a), .val (.ref b), .val (.ref b)] [(.ref ta)])) _
    refine XS.aloadN X12.here hx rfl (hb hby d_jdk_42_method_66_code_40) rfl rfl ?_
    show Steps _ _ _ (T12.setTop (mkF m 41 #[.val (.ref a), .val (.ref b), .val (.ref b)] [(.ref b), (.ref ta)])) _
    exact hq)
  obtain ⟨T14, X14, e14, st14⟩ := getF X12 hx hZ hown (host := "") (Or.inl (hw _ (List.mem_of_getElem? (i := 34) rfl))) Via.refl e12 R1 (g := (mkF m 41 #[.val (.ref a), .val (.ref b), .val (.ref b)] [(.ref b), (.ref ta)])) rfl rfl (hb hby d_jdk_42_method_66_code_41)
  have k14 : To p.tables e below S0 (T14.setTop (mkF m 44 #[.val (.ref a), .val (.ref b), .val (.ref b)] [(.ref tb), (.ref ta)])) := fun tt hq => k13 tt (st14 tt hq)
  obtain ⟨_, T15, L15, X15, ⟨rfl, Nq15, eq15⟩, k15a⟩ := callS' X14 hx hZ (y := (⟨"java/lang/StringLatin1", "equals", "([B[B)Z"⟩ : MethodName)) hown (hw _ (List.mem_of_getElem? (i := 86) rfl)) (hw _ (List.mem_of_getElem? (i := 87) rfl)) (hw _ (List.mem_of_getElem? (i := 88) rfl)) (hw _ (List.mem_of_getElem? (i := 89) rfl)) (by decide) (backC (W := 0) (rm_lq21 l Z a0 hw ta ka c0 c1 tb kb d0 h0 n0 (by omega) P3 R3) hZ (hw _ (List.mem_of_getElem? (i := 89) rfl)) (hw _ (List.mem_of_getElem? (i := 88) rfl)) (by decide) (by decide)) e14 (argsL := [(.ref ta), (.ref tb)]) (rest := []) rfl rfl pd_8 rfl (by rw [hml]; rfl) (hb hby d_jdk_42_method_66_code_44) (Nat.le_of_eq rfl) (by decide) (by decide) k14
  have k15 : To p.tables e below S0 (T15.setTop (mkF m 47 #[.val (.ref a), .val (.ref b), .val (.ref b)] [(.int (if ([c0, c1] : List Int32) = [d0] then (1 : Int32) else (0 : Int32)))])) := k15a
  have N15 := N0.app Nq15
  have e15 : T15.heap = h0 := eq15
  by_cases hc47_16 : (if ([c0, c1] : List Int32) = [d0] then (1 : Int32) else (0 : Int32)) = (0 : Int32)
  · -- pc 47, holds
    have k17 : To p.tables e below S0 (T15.setTop (mkF m 55 #[.val (.ref a), .val (.ref b), .val (.ref b)] [(.int (0 : Int32))])) := fun tt hq => k15 tt (by
      show Steps _ _ _ (T15.setTop (mkF m 47 #[.val (.ref a), .val (.ref b), .val (.ref b)] [(.int (if ([c0, c1] : List Int32) = [d0] then (1 : Int32) else (0 : Int32)))])) _
      refine XS.ifYes X15.here hx rfl (pc0 := 47) (pc' := 54) rfl (hb hby d_jdk_42_method_66_code_47) rfl ((if0 _ _).trans (teq hc47_16).1) (by decide) (by decide) ?_
      show Steps _ _ _ (T15.setTop (mkF m 54 #[.val (.ref a), .val (.ref b), .val (.ref b)] [])) _
      refine XS.iconst X15.here hx rfl (hb hby d_jdk_42_method_66_code_54) ?_
      show Steps _ _ _ (T15.setTop (mkF m 55 #[.val (.ref a), .val (.ref b), .val (.ref b)] [(.int (0 : Int32))])) _
      exact hq)
    have hE := e15
    refine retInt X15 hx hret hlk (by simp) rfl (hb hby d_jdk_42_method_66_code_55) k17 ?_ (by decide) (by decide)
    try rw [hE]
    exact ⟨congrArg (fun z => some (Value.int z)) (Eq.symm hc47_16), N15, rfl⟩
  · -- pc 47, holds not
    have k18 : To p.tables e below S0 (T15.setTop (mkF m 55 #[.val (.ref a), .val (.ref b), .val (.ref b)] [(.int (1 : Int32))])) := fun tt hq => k15 tt (by
      show Steps _ _ _ (T15.setTop (mkF m 47 #[.val (.ref a), .val (.ref b), .val (.ref b)] [(.int (if ([c0, c1] : List Int32) = [d0] then (1 : Int32) else (0 : Int32)))])) _
      refine XS.ifNo X15.here hx rfl (hb hby d_jdk_42_method_66_code_47) rfl ((if0 _ _).trans (feq hc47_16).1) ?_
      show Steps _ _ _ (T15.setTop (mkF m 50 #[.val (.ref a), .val (.ref b), .val (.ref b)] [])) _
      refine XS.iconst X15.here hx rfl (hb hby d_jdk_42_method_66_code_50) ?_
      show Steps _ _ _ (T15.setTop (mkF m 51 #[.val (.ref a), .val (.ref b), .val (.ref b)] [(.int (1 : Int32))])) _
      refine XS.goto X15.here hx rfl (pc0 := 51) (pc' := 55) rfl (hb hby d_jdk_42_method_66_code_51) (by decide) (by decide) ?_
      show Steps _ _ _ (T15.setTop (mkF m 55 #[.val (.ref a), .val (.ref b), .val (.ref b)] [(.int (1 : Int32))])) _
      exact hq)
    have hE := e15
    refine retInt X15 hx hret hlk (by simp) rfl (hb hby d_jdk_42_method_66_code_55) k18 ?_ (by decide) (by decide)
    try rw [hE]
    exact ⟨congrArg (fun z => some (Value.int z)) (Eq.symm (own_if1 hc47_16)), N15, rfl⟩
set_option maxRecDepth 65536 in
set_option maxHeartbeats 40000000 in
theorem rm_sqs (l : Launch) (Z : State) (a0 : Array Value) (hw : ∀ d ∈ tables_1, d.before a0 Z = true) (a : Addr) (h0 : Heap) (n0 : Nat) (hn0 : n0 ≤ h0.size)  :
    Con l Z (⟨"java/lang/String", "equals", "(Ljava/lang/Object;)Z"⟩ : MethodName) jdk_42_method_66_code 3 (some .boolean) [] ({ frames := 0, cells := 0, slots := 0, locals := 0 } : Room) #[(.ref a), (.ref a)] h0 (fun v h L => v = some (.int (1 : Int32)) ∧ Fr n0 L ∧ h = h0) := by
  refine enter (Ls := #[.val (.ref a), .val (.ref a), .unset]) (plainFor_of_name pn_2) (fun m => by exact entry_eq rfl) ?_
  intro p e s m below meth cd_ s₁ S0 hx hby hml hret hlk hnm hown hZ X0 e0 k0
  have N0 := Fr.nil n0
  have k1 : To p.tables e below S0 (s₁.setTop (mkF m 6 #[.val (.ref a), .val (.ref a), .unset] [(.int (1 : Int32))])) := fun tt hq => k0 tt (by
    show Steps _ _ _ (s₁.setTop (mkF m 0 #[.val (.ref a), .val (.ref a), .unset] [])) _
    refine XS.aloadN X0.here hx rfl (hb hby d_jdk_42_method_66_code_0) rfl rfl ?_
    show Steps _ _ _ (s₁.setTop (mkF m 1 #[.val (.ref a), .val (.ref a), .unset] [(.ref a)])) _
    refine XS.aloadN X0.here hx rfl (hb hby d_jdk_42_method_66_code_1) rfl rfl ?_
    show Steps _ _ _ (s₁.setTop (mkF m 2 #[.val (.ref a), .val (.ref a), .unset] [(.ref a), (.ref a)])) _
    refine Jvm.RoadKit.acmp (g := (mkF m 2 #[.val (.ref a), .val (.ref a), .unset] [(.ref a), (.ref a)])) X0 hx rfl rfl rfl (pc0 := 2) (pc' := 5) (same := true) rfl (hb hby d_jdk_42_method_66_code_2) rfl (decide_eq_true rfl) (by decide) (by decide) ?_
    show Steps _ _ _ (s₁.setTop (mkF m 5 #[.val (.ref a), .val (.ref a), .unset] [])) _
    refine XS.iconst X0.here hx rfl (hb hby d_jdk_42_method_66_code_5) ?_
    show Steps _ _ _ (s₁.setTop (mkF m 6 #[.val (.ref a), .val (.ref a), .unset] [(.int (1 : Int32))])) _
    exact hq)
  have hE := e0
  refine retInt X0 hx hret hlk (by simp) rfl (hb hby d_jdk_42_method_66_code_6) k1 ?_ (by decide) (by decide)
  try rw [hE]
  exact ⟨rfl, N0, rfl⟩
theorem rm_sq (l : Launch) (Z : State) (a0 : Array Value) (hw : ∀ d ∈ tables_1, d.before a0 Z = true) (zc : Int32) (a b : Addr) (bs cs : List Int32) (h0 : Heap) (n0 : Nat) (hn0 : n0 ≤ h0.size) (S_c : Sta Z Z.heap "java/lang/String" "COMPACT_STRINGS" "Z" (.int zc)) (hzc : ¬ zc = (0 : Int32)) (O0 : Old Z n0 h0) (hab : ¬ a = b) (S1 : Tx Z h0 a bs) (S2 : Tx Z h0 b cs) :
    Con l Z (⟨"java/lang/String", "equals", "(Ljava/lang/Object;)Z"⟩ : MethodName) jdk_42_method_66_code 3 (some .boolean) [] ({ frames := 1, cells := 0, slots := 0, locals := 14 } : Room) #[(.ref a), (.ref b)] h0 (fun v h L => v = some (.int (if bs = cs then (1 : Int32) else (0 : Int32))) ∧ Fr n0 L ∧ h = h0) := by
  obtain ⟨A1, t1, k1, V1, K1, R1⟩ := S1
  obtain ⟨A2, t2, k2, V2, K2, R2⟩ := S2
  rcases R1 with ⟨rfl, R1⟩ | ⟨c0, rfl, R1⟩ | ⟨c0, c1, rfl, R1⟩ <;> rcases R2 with ⟨rfl, R2⟩ | ⟨d0, rfl, R2⟩ | ⟨d0, d1, rfl, R2⟩
  · exact rm_sq00 l Z a0 hw zc a b t1 k1  t2 k2  h0 n0 hn0 S_c hzc O0 hab A1 V1 K1 R1 A2 V2 K2 R2
  · exact rm_sq01 l Z a0 hw zc a b t1 k1  t2 k2 d0 h0 n0 hn0 S_c hzc O0 hab A1 V1 K1 R1 A2 V2 K2 R2
  · exact rm_sq02 l Z a0 hw zc a b t1 k1  t2 k2 d0 d1 h0 n0 hn0 S_c hzc O0 hab A1 V1 K1 R1 A2 V2 K2 R2
  · exact rm_sq10 l Z a0 hw zc a b t1 k1 c0 t2 k2  h0 n0 hn0 S_c hzc O0 hab A1 V1 K1 R1 A2 V2 K2 R2
  · exact rm_sq11 l Z a0 hw zc a b t1 k1 c0 t2 k2 d0 h0 n0 hn0 S_c hzc O0 hab A1 V1 K1 R1 A2 V2 K2 R2
  · exact rm_sq12 l Z a0 hw zc a b t1 k1 c0 t2 k2 d0 d1 h0 n0 hn0 S_c hzc O0 hab A1 V1 K1 R1 A2 V2 K2 R2
  · exact rm_sq20 l Z a0 hw zc a b t1 k1 c0 c1 t2 k2  h0 n0 hn0 S_c hzc O0 hab A1 V1 K1 R1 A2 V2 K2 R2
  · exact rm_sq21 l Z a0 hw zc a b t1 k1 c0 c1 t2 k2 d0 h0 n0 hn0 S_c hzc O0 hab A1 V1 K1 R1 A2 V2 K2 R2
  · exact rm_sq22 l Z a0 hw zc a b t1 k1 c0 c1 t2 k2 d0 d1 h0 n0 hn0 S_c hzc O0 hab A1 V1 K1 R1 A2 V2 K2 R2
theorem d_jdk_31_method_11_code_0 : decode jdk_31_method_11_code 0 = .ok (.aload_n 0, 1) := by decide +kernel
theorem d_jdk_31_method_11_code_1 : decode jdk_31_method_11_code 1 = .ok (.ifnonnull 12, 3) := by decide +kernel
theorem d_jdk_31_method_11_code_4 : decode jdk_31_method_11_code 4 = .ok (.new 84, 3) := by decide +kernel
theorem d_jdk_31_method_11_code_7 : decode jdk_31_method_11_code 7 = .ok (.dup, 1) := by decide +kernel
theorem d_jdk_31_method_11_code_8 : decode jdk_31_method_11_code 8 = .ok (.aload_n 1, 1) := by decide +kernel
theorem d_jdk_31_method_11_code_9 : decode jdk_31_method_11_code 9 = .ok (.invokespecial 87, 3) := by decide +kernel
theorem d_jdk_31_method_11_code_12 : decode jdk_31_method_11_code 12 = .ok (.athrow, 1) := by decide +kernel
theorem d_jdk_31_method_11_code_13 : decode jdk_31_method_11_code 13 = .ok (.aload_n 0, 1) := by decide +kernel
theorem d_jdk_31_method_11_code_14 : decode jdk_31_method_11_code 14 = .ok (.areturn, 1) := by decide +kernel
theorem pn_4 : plainName "java/util/Objects" = true := by first | (simp [plainName, overriddenIn]; done) | decide +kernel
set_option maxRecDepth 65536 in
set_option maxHeartbeats 40000000 in
theorem rm_rnn (l : Launch) (Z : State) (a0 : Array Value) (hw : ∀ d ∈ tables_1, d.before a0 Z = true) (a : Addr) (b : Addr) (h0 : Heap) (n0 : Nat) (hn0 : n0 ≤ h0.size)  :
    Con l Z (⟨"java/util/Objects", "requireNonNull", "(Ljava/lang/Object;Ljava/lang/String;)Ljava/lang/Object;"⟩ : MethodName) jdk_31_method_11_code 2 (some (.object "java/lang/Object")) [] ({ frames := 0, cells := 0, slots := 0, locals := 0 } : Room) #[(.ref a), (.ref b)] h0 (fun v h L => v = some (.ref a) ∧ Fr n0 L ∧ h = h0) := by
  refine enter (Ls := #[.val (.ref a), .val (.ref b)]) (plainFor_of_name pn_4) (fun m => by exact entry_eq rfl) ?_
  intro p e s m below meth cd_ s₁ S0 hx hby hml hret hlk hnm hown hZ X0 e0 k0
  have N0 := Fr.nil n0
  have k1 : To p.tables e below S0 (s₁.setTop (mkF m 14 #[.val (.ref a), .val (.ref b)] [(.ref a)])) := fun tt hq => k0 tt (by
    show Steps _ _ _ (s₁.setTop (mkF m 0 #[.val (.ref a), .val (.ref b)] [])) _
    refine XS.aloadN X0.here hx rfl (hb hby d_jdk_31_method_11_code_0) rfl rfl ?_
    show Steps _ _ _ (s₁.setTop (mkF m 1 #[.val (.ref a), .val (.ref b)] [(.ref a)])) _
    refine XS.ifnonnullYes X0.here hx rfl (pc0 := 1) (pc' := 13) rfl (hb hby d_jdk_31_method_11_code_1) rfl (by decide) (by decide) ?_
    show Steps _ _ _ (s₁.setTop (mkF m 13 #[.val (.ref a), .val (.ref b)] [])) _
    refine XS.aloadN X0.here hx rfl (hb hby d_jdk_31_method_11_code_13) rfl rfl ?_
    show Steps _ _ _ (s₁.setTop (mkF m 14 #[.val (.ref a), .val (.ref b)] [(.ref a)])) _
    exact hq)
  have hE := e0
  refine retRef X0 hx hret hlk rfl rfl (hb hby d_jdk_31_method_11_code_14) k1 ?_ (by decide) (by decide)
  try rw [hE]
  exact ⟨rfl, N0, rfl⟩
theorem d_prog_6_method_1_code_0 : decode prog_6_method_1_code 0 = .ok (.aload_n 0, 1) := by decide +kernel
theorem d_prog_6_method_1_code_1 : decode prog_6_method_1_code 1 = .ok (.invokespecial 1, 3) := by decide +kernel
theorem d_prog_6_method_1_code_4 : decode prog_6_method_1_code 4 = .ok (.aload_n 0, 1) := by decide +kernel
theorem d_prog_6_method_1_code_5 : decode prog_6_method_1_code 5 = .ok (.aload_n 1, 1) := by decide +kernel
theorem d_prog_6_method_1_code_6 : decode prog_6_method_1_code 6 = .ok (.ldc 7, 2) := by decide +kernel
theorem d_prog_6_method_1_code_8 : decode prog_6_method_1_code 8 = .ok (.invokestatic 9, 3) := by decide +kernel
theorem d_prog_6_method_1_code_11 : decode prog_6_method_1_code 11 = .ok (.checkcast 15, 3) := by decide +kernel
theorem d_prog_6_method_1_code_14 : decode prog_6_method_1_code 14 = .ok (.putfield 17, 3) := by decide +kernel
theorem d_prog_6_method_1_code_17 : decode prog_6_method_1_code 17 = .ok (.aload_n 0, 1) := by decide +kernel
theorem d_prog_6_method_1_code_18 : decode prog_6_method_1_code 18 = .ok (.aload_n 2, 1) := by decide +kernel
theorem d_prog_6_method_1_code_19 : decode prog_6_method_1_code 19 = .ok (.ldc 22, 2) := by decide +kernel
theorem d_prog_6_method_1_code_21 : decode prog_6_method_1_code 21 = .ok (.invokestatic 9, 3) := by decide +kernel
theorem d_prog_6_method_1_code_24 : decode prog_6_method_1_code 24 = .ok (.checkcast 15, 3) := by decide +kernel
theorem d_prog_6_method_1_code_27 : decode prog_6_method_1_code 27 = .ok (.putfield 24, 3) := by decide +kernel
theorem d_prog_6_method_1_code_30 : decode prog_6_method_1_code 30 = .ok (.return_, 1) := by decide +kernel
theorem pn_5 : plainName "com/example/huntaway/huntaway/Obligation" = true := by first | (simp [plainName, overriddenIn]; done) | decide +kernel
theorem pd_9 : parseMethodDescriptor "(Ljava/lang/Object;Ljava/lang/String;)Ljava/lang/Object;" = some ⟨[(.object "java/lang/Object"), (.object "java/lang/String")], some (.object "java/lang/Object")⟩ := by decide +kernel
set_option maxRecDepth 65536 in
set_option maxHeartbeats 40000000 in
theorem rm_oi (l : Launch) (Z : State) (a0 : Array Value) (hw : ∀ d ∈ tables_1, d.before a0 Z = true) (a : Addr) (u1 : Addr) (u2 : Addr) (h0 : Heap) (n0 : Nat) (hn0 : n0 ≤ h0.size) (P0 : Exa Z h0 a "com/example/huntaway/huntaway/Obligation") (P1 : Fld Z h0 a "com/example/huntaway/huntaway/Obligation" "policy" "Ljava/lang/String;" .null) (P2 : Fld Z h0 a "com/example/huntaway/huntaway/Obligation" "controls" "Ljava/lang/String;" .null) (E1 : Exa Z h0 u1 "java/lang/String") (E2 : Exa Z h0 u2 "java/lang/String") (ga : n0 ≤ a) (ya : @LT.lt Nat instLTNat a h0.size) :
    ConW l Z own_EL (⟨"com/example/huntaway/huntaway/Obligation", "<init>", "(Ljava/lang/String;Ljava/lang/String;)V"⟩ : MethodName) prog_6_method_1_code 3 none [] ({ frames := 1, cells := 4, slots := 64, locals := 14 } : Room) #[(.ref a), (.ref u1), (.ref u2)] h0 [] (fun v h L => v = none ∧ Fr n0 L ∧ Keep h0 h [a] ∧ Exa Z h a "com/example/huntaway/huntaway/Obligation" ∧ Fld Z h a "com/example/huntaway/huntaway/Obligation" "policy" "Ljava/lang/String;" (.ref u1) ∧ Fld Z h a "com/example/huntaway/huntaway/Obligation" "controls" "Ljava/lang/String;" (.ref u2)) := by
  refine enterW (Ls := #[.val (.ref a), .val (.ref u1), .val (.ref u2)]) (plainFor_of_name pn_5) (fun m => by exact entry_eq rfl) ?_
  intro p e s m below meth cd_ s₁ S0 vm0 hx hby hml hret hlk hnm hown hZ X0 e0 k0 C0 hsf hS0
  have N0 := Fr.nil n0
  have k1 : To p.tables e below S0 (s₁.setTop (mkF m 1 #[.val (.ref a), .val (.ref u1), .val (.ref u2)] [(.ref a)])) := fun tt hq => k0 tt (by
    show Steps _ _ _ (s₁.setTop (mkF m 0 #[.val (.ref a), .val (.ref u1), .val (.ref u2)] [])) _
    refine XS.aloadN X0.here hx rfl (hb hby d_prog_6_method_1_code_0) rfl rfl ?_
    show Steps _ _ _ (s₁.setTop (mkF m 1 #[.val (.ref a), .val (.ref u1), .val (.ref u2)] [(.ref a)])) _
    exact hq)
  obtain ⟨T2, X2, e2, st2⟩ := initO X0 hx hZ hown (hw _ (List.mem_of_getElem? (i := 56) rfl)) (hw _ (List.mem_of_getElem? (i := 26) rfl)) (hw _ (List.mem_of_getElem? (i := 27) rfl)) e0 (g := (mkF m 1 #[.val (.ref a), .val (.ref u1), .val (.ref u2)] [(.ref a)])) rfl (by rw [hml]; rfl) rfl (hb hby d_prog_6_method_1_code_1) (by decide) (W := 0) (by show 2 * 0 + _ ≤ _; exact Nat.le_of_eq rfl) (by decide)
  have k2 : To p.tables e below S0 (T2.setTop (mkF m 4 #[.val (.ref a), .val (.ref u1), .val (.ref u2)] [])) := fun tt hq => k1 tt (st2 tt hq)
  have k3 : To p.tables e below S0 (T2.setTop (mkF m 6 #[.val (.ref a), .val (.ref u1), .val (.ref u2)] [(.ref u1), (.ref a)])) := fun tt hq => k2 tt (by
    show Steps _ _ _ (T2.setTop (mkF m 4 #[.val (.ref a), .val (.ref u1), .val (.ref u2)] [])) _
    refine XS.aloadN X2.here hx rfl (hb hby d_prog_6_method_1_code_4) rfl rfl ?_
    show Steps _ _ _ (T2.setTop (mkF m 5 #[.val (.ref a), .val (.ref u1), .val (.ref u2)] [(.ref a)])) _
    refine XS.aloadN X2.here hx rfl (hb hby d_prog_6_method_1_code_5) rfl rfl ?_
    show Steps _ _ _ (T2.setTop (mkF m 6 #[.val (.ref a), .val (.ref u1), .val (.ref u2)] [(.ref u1), (.ref a)])) _
    exact hq)
  obtain ⟨a4, T4, h4, kk4, b4, c4, X4, e4, E4, hS4, hk4, hZ4a, hown4a, A4, Fc4, Fv4, V4, ya4, yb4, Cq4, -, hne4, st4⟩ := ldcCH X2 hx hZ hown (hw _ (List.mem_of_getElem? (i := 57) rfl)) (own_wS hw) e2 hS0 (by omega) (own_EW hw) (List.mem_of_getElem? (i := 0) rfl) C0.1 (vs := [(.int (112 : Int32)), (.int (111 : Int32)), (.int (108 : Int32)), (.int (105 : Int32)), (.int (99 : Int32)), (.int (121 : Int32))]) (z := (6 : Int32)) ⟨by decide, by decide⟩ (by decide) (by decide) (g := (mkF m 6 #[.val (.ref a), .val (.ref u1), .val (.ref u2)] [(.ref u1), (.ref a)])) rfl (hb hby d_prog_6_method_1_code_6) (n := 24) (by decide) (by decide) (by decide) (by decide)
  have k4 : To p.tables e below S0 (T4.setTop (mkF m 8 #[.val (.ref a), .val (.ref u1), .val (.ref u2)] [(.ref a4), (.ref u1), (.ref a)])) := fun tt hq => k3 tt (st4 tt hq)
  have hZ4 : Z.Warmed39 T4.vm := hZ4a
  have hown4 : T4.vm.findClass "com/example/huntaway/huntaway/Obligation" = some m.cls := hown4a
  have z4 : h0.size ≤ h4.size := E4.1
  have C4 := C0.trans Cq4
  obtain ⟨_, T5, L5, X5, ⟨rfl, Nq5, eq5⟩, k5a⟩ := callS' X4 hx hZ4 (y := (⟨"java/util/Objects", "requireNonNull", "(Ljava/lang/Object;Ljava/lang/String;)Ljava/lang/Object;"⟩ : MethodName)) hown4 (hw _ (List.mem_of_getElem? (i := 58) rfl)) (hw _ (List.mem_of_getElem? (i := 59) rfl)) (hw _ (List.mem_of_getElem? (i := 60) rfl)) (hw _ (List.mem_of_getElem? (i := 61) rfl)) (by decide) (backC (W := 1) (rm_rnn l Z a0 hw u1 a4 h4 n0 (by omega)) hZ4 (hw _ (List.mem_of_getElem? (i := 61) rfl)) (hw _ (List.mem_of_getElem? (i := 60) rfl)) (by decide) (by decide)) e4 (argsL := [(.ref u1), (.ref a4)]) (rest := [(.ref a)]) rfl rfl pd_9 rfl (by rw [hml]; rfl) (hb hby d_prog_6_method_1_code_8) (Nat.le_of_eq rfl) (by decide) (by decide) k4
  have k5 : To p.tables e below S0 (T5.setTop (mkF m 11 #[.val (.ref a), .val (.ref u1), .val (.ref u2)] [(.ref u1), (.ref a)])) := k5a
  have N5 := N0.app Nq5
  have e5 : T5.heap = h4 := eq5
  have f7 : Exa Z h4 u1 "java/lang/String" := (E1.ext E4)
  obtain ⟨T6, X6, e6, st6⟩ := castY X5 hx hZ4 hown4 (hw _ (List.mem_of_getElem? (i := 62) rfl)) e5 (Ins.self f7) (g := (mkF m 11 #[.val (.ref a), .val (.ref u1), .val (.ref u2)] [(.ref u1), (.ref a)])) rfl rfl (hb hby d_prog_6_method_1_code_11)
  have k6 : To p.tables e below S0 (T6.setTop (mkF m 14 #[.val (.ref a), .val (.ref u1), .val (.ref u2)] [(.ref u1), (.ref a)])) := fun tt hq => k5 tt (st6 tt hq)
  have f8 : Exa Z h4 a "com/example/huntaway/huntaway/Obligation" := (P0.ext E4)
  have f9 : Fld Z h4 a "com/example/huntaway/huntaway/Obligation" "policy" "Ljava/lang/String;" .null := (P1.ext E4)
  obtain ⟨T10, h10, X10, e10, W10, st10⟩ := putF X6 hx hZ4 hown4 (host := "") (Or.inl (hw _ (List.mem_of_getElem? (i := 63) rfl))) Via.refl e6 f9 f8 (Or.inr ⟨(hw _ (List.mem_of_getElem? (i := 64) rfl)), rfl, hnm⟩) (hw _ (List.mem_of_getElem? (i := 1) rfl)) (ty := (.object "java/lang/String")) (by decide) rfl rfl (g := (mkF m 14 #[.val (.ref a), .val (.ref u1), .val (.ref u2)] [(.ref u1), (.ref a)])) rfl rfl (hb hby d_prog_6_method_1_code_14)
  have k10 : To p.tables e below S0 (T10.setTop (mkF m 17 #[.val (.ref a), .val (.ref u1), .val (.ref u2)] [])) := fun tt hq => k6 tt (st10 tt hq)
  have z10 : h10.size = h4.size := W10.size
  have F10 := f9.same W10
  have N10 := Fr.snoc X10 N5 (by omega : n0 ≤ a)
  have C10 := C4.trans (CHr.wr W10 (Safe.exa hZ4.alike f8 (by decide) (by decide)) C4.1)
  have k11 : To p.tables e below S0 (T10.setTop (mkF m 19 #[.val (.ref a), .val (.ref u1), .val (.ref u2)] [(.ref u2), (.ref a)])) := fun tt hq => k10 tt (by
    show Steps _ _ _ (T10.setTop (mkF m 17 #[.val (.ref a), .val (.ref u1), .val (.ref u2)] [])) _
    refine XS.aloadN X10.here hx rfl (hb hby d_prog_6_method_1_code_17) rfl rfl ?_
    show Steps _ _ _ (T10.setTop (mkF m 18 #[.val (.ref a), .val (.ref u1), .val (.ref u2)] [(.ref a)])) _
    refine XS.aloadN X10.here hx rfl (hb hby d_prog_6_method_1_code_18) rfl rfl ?_
    show Steps _ _ _ (T10.setTop (mkF m 19 #[.val (.ref a), .val (.ref u1), .val (.ref u2)] [(.ref u2), (.ref a)])) _
    exact hq)
  obtain ⟨a12, T12, h12, kk12, b12, c12, X12, e12, E12, hS12, hk12, hZ12a, hown12a, A12, Fc12, Fv12, V12, ya12, yb12, Cq12, -, hne12, st12⟩ := ldcCH X10 hx hZ4 hown4 (hw _ (List.mem_of_getElem? (i := 65) rfl)) (own_wS hw) e10 hS4 (by omega) (own_EW hw) (List.mem_of_getElem? (i := 1) rfl) C10.1 (vs := [(.int (99 : Int32)), (.int (111 : Int32)), (.int (110 : Int32)), (.int (116 : Int32)), (.int (114 : Int32)), (.int (111 : Int32)), (.int (108 : Int32)), (.int (115 : Int32))]) (z := (8 : Int32)) ⟨by decide, by decide⟩ (by decide) (by decide) (g := (mkF m 19 #[.val (.ref a), .val (.ref u1), .val (.ref u2)] [(.ref u2), (.ref a)])) rfl (hb hby d_prog_6_method_1_code_19) (n := 32) (by decide) (by decide) (by decide) (by decide)
  have k12 : To p.tables e below S0 (T12.setTop (mkF m 21 #[.val (.ref a), .val (.ref u1), .val (.ref u2)] [(.ref a12), (.ref u2), (.ref a)])) := fun tt hq => k11 tt (st12 tt hq)
  have hZ12 : Z.Warmed39 T12.vm := hZ12a
  have hown12 : T12.vm.findClass "com/example/huntaway/huntaway/Obligation" = some m.cls := hown12a
  have z12 : h10.size ≤ h12.size := E12.1
  have C12 := C10.trans Cq12
  obtain ⟨_, T13, L13, X13, ⟨rfl, Nq13, eq13⟩, k13a⟩ := callS' X12 hx hZ12 (y := (⟨"java/util/Objects", "requireNonNull", "(Ljava/lang/Object;Ljava/lang/String;)Ljava/lang/Object;"⟩ : MethodName)) hown12 (hw _ (List.mem_of_getElem? (i := 58) rfl)) (hw _ (List.mem_of_getElem? (i := 59) rfl)) (hw _ (List.mem_of_getElem? (i := 60) rfl)) (hw _ (List.mem_of_getElem? (i := 61) rfl)) (by decide) (backC (W := 1) (rm_rnn l Z a0 hw u2 a12 h12 n0 (by omega)) hZ12 (hw _ (List.mem_of_getElem? (i := 61) rfl)) (hw _ (List.mem_of_getElem? (i := 60) rfl)) (by decide) (by decide)) e12 (argsL := [(.ref u2), (.ref a12)]) (rest := [(.ref a)]) rfl rfl pd_9 rfl (by rw [hml]; rfl) (hb hby d_prog_6_method_1_code_21) (Nat.le_of_eq rfl) (by decide) (by decide) k12
  have k13 : To p.tables e below S0 (T13.setTop (mkF m 24 #[.val (.ref a), .val (.ref u1), .val (.ref u2)] [(.ref u2), (.ref a)])) := k13a
  have N13 := N10.app Nq13
  have e13 : T13.heap = h12 := eq13
  have f15 : Exa Z h12 u2 "java/lang/String" := (((E2.ext E4).wr W10).ext E12)
  obtain ⟨T14, X14, e14, st14⟩ := castY X13 hx hZ12 hown12 (hw _ (List.mem_of_getElem? (i := 62) rfl)) e13 (Ins.self f15) (g := (mkF m 24 #[.val (.ref a), .val (.ref u1), .val (.ref u2)] [(.ref u2), (.ref a)])) rfl rfl (hb hby d_prog_6_method_1_code_24)
  have k14 : To p.tables e below S0 (T14.setTop (mkF m 27 #[.val (.ref a), .val (.ref u1), .val (.ref u2)] [(.ref u2), (.ref a)])) := fun tt hq => k13 tt (st14 tt hq)
  have f16 : Exa Z h12 a "com/example/huntaway/huntaway/Obligation" := ((f8.wr W10).ext E12)
  have f17 : Fld Z h12 a "com/example/huntaway/huntaway/Obligation" "controls" "Ljava/lang/String;" .null := (((P2.ext E4).other W10 (Or.inr (slot_ne (Or.inr (hw _ (List.mem_of_getElem? (i := 67) rfl))) (Or.inr (hw _ (List.mem_of_getElem? (i := 64) rfl))) (by decide) (t := (.object "java/lang/String")) (t' := (.object "java/lang/String")) (by decide) (by decide)))).ext E12)
  obtain ⟨T18, h18, X18, e18, W18, st18⟩ := putF X14 hx hZ12 hown12 (host := "") (Or.inl (hw _ (List.mem_of_getElem? (i := 66) rfl))) Via.refl e14 f17 f16 (Or.inr ⟨(hw _ (List.mem_of_getElem? (i := 67) rfl)), rfl, hnm⟩) (hw _ (List.mem_of_getElem? (i := 1) rfl)) (ty := (.object "java/lang/String")) (by decide) rfl rfl (g := (mkF m 27 #[.val (.ref a), .val (.ref u1), .val (.ref u2)] [(.ref u2), (.ref a)])) rfl rfl (hb hby d_prog_6_method_1_code_27)
  have k18 : To p.tables e below S0 (T18.setTop (mkF m 30 #[.val (.ref a), .val (.ref u1), .val (.ref u2)] [])) := fun tt hq => k14 tt (st18 tt hq)
  have z18 : h18.size = h12.size := W18.size
  have F18 := f17.same W18
  have N18 := Fr.snoc X18 N13 (by omega : n0 ≤ a)
  have C18 := C12.trans (CHr.wr W18 (Safe.exa hZ12.alike f16 (by decide) (by decide)) C12.1)
  have f19 : Exa Z h18 a "com/example/huntaway/huntaway/Obligation" := (f16.wr W18)
  have f20 : Fld Z h18 a "com/example/huntaway/huntaway/Obligation" "policy" "Ljava/lang/String;" (.ref u1) := ((F10.ext E12).other W18 (Or.inr (slot_ne (Or.inr (hw _ (List.mem_of_getElem? (i := 64) rfl))) (Or.inr (hw _ (List.mem_of_getElem? (i := 67) rfl))) (by decide) (t := (.object "java/lang/String")) (t' := (.object "java/lang/String")) (by decide) (by decide))))
  refine retVoidW X18 hx hZ12 (own_EW hw) hS12 (by omega) C18 e18 hret hlk (hb hby d_prog_6_method_1_code_30) k18 ?_ (by decide) (by decide)
  exact ⟨rfl, N18, (((((Keep.refl h0 [a]).ext E4).wr W10 (Or.inl (by simp))).ext E12).wr W18 (Or.inl (by simp))), f19, f20, F18⟩
theorem d_prog_6_method_4_code_0 : decode prog_6_method_4_code 0 = .ok (.aload_n 1, 1) := by decide +kernel
theorem d_prog_6_method_4_code_1 : decode prog_6_method_4_code 1 = .ok (.instanceof 18, 3) := by decide +kernel
theorem d_prog_6_method_4_code_4 : decode prog_6_method_4_code 4 = .ok (.ifCond .eq 40, 3) := by decide +kernel
theorem d_prog_6_method_4_code_7 : decode prog_6_method_4_code 7 = .ok (.aload_n 1, 1) := by decide +kernel
theorem d_prog_6_method_4_code_8 : decode prog_6_method_4_code 8 = .ok (.checkcast 18, 3) := by decide +kernel
theorem d_prog_6_method_4_code_11 : decode prog_6_method_4_code 11 = .ok (.astore_n 2, 1) := by decide +kernel
theorem d_prog_6_method_4_code_12 : decode prog_6_method_4_code 12 = .ok (.aload_n 0, 1) := by decide +kernel
theorem d_prog_6_method_4_code_13 : decode prog_6_method_4_code 13 = .ok (.getfield 17, 3) := by decide +kernel
theorem d_prog_6_method_4_code_16 : decode prog_6_method_4_code 16 = .ok (.aload_n 2, 1) := by decide +kernel
theorem d_prog_6_method_4_code_17 : decode prog_6_method_4_code 17 = .ok (.getfield 17, 3) := by decide +kernel
theorem d_prog_6_method_4_code_20 : decode prog_6_method_4_code 20 = .ok (.invokevirtual 26, 3) := by decide +kernel
theorem d_prog_6_method_4_code_23 : decode prog_6_method_4_code 23 = .ok (.ifCond .eq 21, 3) := by decide +kernel
theorem d_prog_6_method_4_code_26 : decode prog_6_method_4_code 26 = .ok (.aload_n 0, 1) := by decide +kernel
theorem d_prog_6_method_4_code_27 : decode prog_6_method_4_code 27 = .ok (.getfield 24, 3) := by decide +kernel
theorem d_prog_6_method_4_code_30 : decode prog_6_method_4_code 30 = .ok (.aload_n 2, 1) := by decide +kernel
theorem d_prog_6_method_4_code_31 : decode prog_6_method_4_code 31 = .ok (.getfield 24, 3) := by decide +kernel
theorem d_prog_6_method_4_code_34 : decode prog_6_method_4_code 34 = .ok (.invokevirtual 26, 3) := by decide +kernel
theorem d_prog_6_method_4_code_37 : decode prog_6_method_4_code 37 = .ok (.ifCond .eq 7, 3) := by decide +kernel
theorem d_prog_6_method_4_code_40 : decode prog_6_method_4_code 40 = .ok (.iconst 1, 1) := by decide +kernel
theorem d_prog_6_method_4_code_41 : decode prog_6_method_4_code 41 = .ok (.goto 4, 3) := by decide +kernel
theorem d_prog_6_method_4_code_44 : decode prog_6_method_4_code 44 = .ok (.iconst 0, 1) := by decide +kernel
theorem d_prog_6_method_4_code_45 : decode prog_6_method_4_code 45 = .ok (.ireturn, 1) := by decide +kernel
theorem pd_10 : parseMethodDescriptor "(Ljava/lang/Object;)Z" = some ⟨[(.object "java/lang/Object")], some .boolean⟩ := by decide +kernel
set_option maxRecDepth 65536 in
set_option maxHeartbeats 40000000 in
theorem rm_oeq (l : Launch) (Z : State) (a0 : Array Value) (hw : ∀ d ∈ tables_1, d.before a0 Z = true) (zc : Int32) (a : Addr) (b : Addr) (u1 : Addr) (u2 : Addr) (u3 : Addr) (u4 : Addr) (b1 : List Int32) (b2 : List Int32) (b3 : List Int32) (b4 : List Int32) (h0 : Heap) (n0 : Nat) (hn0 : n0 ≤ h0.size) (S_c : Sta Z Z.heap "java/lang/String" "COMPACT_STRINGS" "Z" (.int zc)) (hzc : ¬ zc = (0 : Int32)) (O0 : Old Z n0 h0) (P0 : Exa Z h0 a "com/example/huntaway/huntaway/Obligation") (P1 : Fld Z h0 a "com/example/huntaway/huntaway/Obligation" "policy" "Ljava/lang/String;" (.ref u1)) (P2 : Fld Z h0 a "com/example/huntaway/huntaway/Obligation" "controls" "Ljava/lang/String;" (.ref u2)) (R0 : Exa Z h0 b "com/example/huntaway/huntaway/Obligation") (R1 : Fld Z h0 b "com/example/huntaway/huntaway/Obligation" "policy" "Ljava/lang/String;" (.ref u3)) (R2 : Fld Z h0 b "com/example/huntaway/huntaway/Obligation" "controls" "Ljava/lang/String;" (.ref u4)) (S1 : Tx Z h0 u1 b1) (S2 : Tx Z h0 u2 b2) (S3 : Tx Z h0 u3 b3) (S4 : Tx Z h0 u4 b4) (E1 : Exa Z h0 u1 "java/lang/String") (E2 : Exa Z h0 u2 "java/lang/String") (E3 : Exa Z h0 u3 "java/lang/String") (E4 : Exa Z h0 u4 "java/lang/String") (n13 : ¬ (@Eq Nat u1 u3)) (n24 : ¬ (@Eq Nat u2 u4)) :
    Con l Z (⟨"com/example/huntaway/huntaway/Obligation", "equals", "(Ljava/lang/Object;)Z"⟩ : MethodName) prog_6_method_4_code 3 (some .boolean) [] ({ frames := 2, cells := 0, slots := 0, locals := 28 } : Room) #[(.ref a), (.ref b)] h0 (fun v h L => v = some (.int (if b1 = b3 ∧ b2 = b4 then (1 : Int32) else (0 : Int32))) ∧ Fr n0 L ∧ h = h0) := by
  refine enter (Ls := #[.val (.ref a), .val (.ref b), .unset]) (plainFor_of_name pn_5) (fun m => by exact entry_eq rfl) ?_
  intro p e s m below meth cd_ s₁ S0 hx hby hml hret hlk hnm hown hZ X0 e0 k0
  have N0 := Fr.nil n0
  have k1 : To p.tables e below S0 (s₁.setTop (mkF m 1 #[.val (.ref a), .val (.ref b), .unset] [(.ref b)])) := fun tt hq => k0 tt (by
    show Steps _ _ _ (s₁.setTop (mkF m 0 #[.val (.ref a), .val (.ref b), .unset] [])) _
    refine XS.aloadN X0.here hx rfl (hb hby d_prog_6_method_4_code_0) rfl rfl ?_
    show Steps _ _ _ (s₁.setTop (mkF m 1 #[.val (.ref a), .val (.ref b), .unset] [(.ref b)])) _
    exact hq)
  obtain ⟨T2, X2, e2, st2⟩ := instY X0 hx hZ hown (hw _ (List.mem_of_getElem? (i := 73) rfl)) e0 (Ins.self R0) (g := (mkF m 1 #[.val (.ref a), .val (.ref b), .unset] [(.ref b)])) rfl rfl (hb hby d_prog_6_method_4_code_1)
  have k2 : To p.tables e below S0 (T2.setTop (mkF m 4 #[.val (.ref a), .val (.ref b), .unset] [(.int (1 : Int32))])) := fun tt hq => k1 tt (st2 tt hq)
  have k3 : To p.tables e below S0 (T2.setTop (mkF m 8 #[.val (.ref a), .val (.ref b), .unset] [(.ref b)])) := fun tt hq => k2 tt (by
    show Steps _ _ _ (T2.setTop (mkF m 4 #[.val (.ref a), .val (.ref b), .unset] [(.int (1 : Int32))])) _
    refine XS.ifNo X2.here hx rfl (hb hby d_prog_6_method_4_code_4) rfl ((if0 _ _).trans (feq (by decide)).1) ?_
    show Steps _ _ _ (T2.setTop (mkF m 7 #[.val (.ref a), .val (.ref b), .unset] [])) _
    refine XS.aloadN X2.here hx rfl (hb hby d_prog_6_method_4_code_7) rfl rfl ?_
    show Steps _ _ _ (T2.setTop (mkF m 8 #[.val (.ref a), .val (.ref b), .unset] [(.ref b)])) _
    exact hq)
  obtain ⟨T4, X4, e4, st4⟩ := castY X2 hx hZ hown (hw _ (List.mem_of_getElem? (i := 73) rfl)) e2 (Ins.self R0) (g := (mkF m 8 #[.val (.ref a), .val (.ref b), .unset] [(.ref b)])) rfl rfl (hb hby d_prog_6_method_4_code_8)
  have k4 : To p.tables e below S0 (T4.setTop (mkF m 11 #[.val (.ref a), .val (.ref b), .unset] [(.ref b)])) := fun tt hq => k3 tt (st4 tt hq)
  have k5 : To p.tables e below S0 (T4.setTop (mkF m 13 #[.val (.ref a), .val (.ref b), .val (.ref b)] [(.ref a)])) := fun tt hq => k4 tt (by
    show Steps _ _ _ (T4.setTop (mkF m 11 #[.val (.ref a), .val (.ref b), .unset] [(.ref b)])) _
    refine XS.astoreN X4.here hx rfl (hb hby d_prog_6_method_4_code_11) rfl rfl (l' := #[.val (.ref a), .val (.ref b), .val (.ref b)]) rfl ?_
    show Steps _ _ _ (T4.setTop (mkF m 12 #[.val (.ref a), .val (.ref b), .val (.ref b)] [])) _
    refine XS.aloadN X4.here hx rfl (hb hby d_prog_6_method_4_code_12) rfl rfl ?_
    show Steps _ _ _ (T4.setTop (mkF m 13 #[.val (.ref a), .val (.ref b), .val (.ref b)] [(.ref a)])) _
    exact hq)
  obtain ⟨T6, X6, e6, st6⟩ := getF X4 hx hZ hown (host := "") (Or.inl (hw _ (List.mem_of_getElem? (i := 63) rfl))) Via.refl e4 P1 (g := (mkF m 13 #[.val (.ref a), .val (.ref b), .val (.ref b)] [(.ref a)])) rfl rfl (hb hby d_prog_6_method_4_code_13)
  have k6 : To p.tables e below S0 (T6.setTop (mkF m 16 #[.val (.ref a), .val (.ref b), .val (.ref b)] [(.ref u1)])) := fun tt hq => k5 tt (st6 tt hq)
  have k7 : To p.tables e below S0 (T6.setTop (mkF m 17 #[.val (.ref a), .val (.ref b), .val (.ref b)] [(.ref b), (.ref u1)])) := fun tt hq => k6 tt (by
    show Steps _ _ _ (T6.setTop (mkF m 16 #[.val (.ref a), .val (.ref b), .val (.ref b)] [(.ref u1)])) _
    refine XS.aloadN X6.here hx rfl (hb hby d_prog_6_method_4_code_16) rfl rfl ?_
    show Steps _ _ _ (T6.setTop (mkF m 17 #[.val (.ref a), .val (.ref b), .val (.ref b)] [(.ref b), (.ref u1)])) _
    exact hq)
  obtain ⟨T8, X8, e8, st8⟩ := getF X6 hx hZ hown (host := "") (Or.inl (hw _ (List.mem_of_getElem? (i := 63) rfl))) Via.refl e6 R1 (g := (mkF m 17 #[.val (.ref a), .val (.ref b), .val (.ref b)] [(.ref b), (.ref u1)])) rfl rfl (hb hby d_prog_6_method_4_code_17)
  have k8 : To p.tables e below S0 (T8.setTop (mkF m 20 #[.val (.ref a), .val (.ref b), .val (.ref b)] [(.ref u3), (.ref u1)])) := fun tt hq => k7 tt (st8 tt hq)
  obtain ⟨_, T9, L9, X9, ⟨rfl, Nq9, eq9⟩, k9a⟩ := callV' X8 hx hZ (y := (⟨"java/lang/String", "equals", "(Ljava/lang/Object;)Z"⟩ : MethodName)) (z := (⟨"java/lang/String", "equals", "(Ljava/lang/Object;)Z"⟩ : MethodName)) hown (hw _ (List.mem_of_getElem? (i := 75) rfl)) (hw _ (List.mem_of_getElem? (i := 76) rfl)) (notFace_of_selects (args := #[]) (mvT hZ (hw _ (List.mem_of_getElem? (i := 78) rfl)))) (hw _ (List.mem_of_getElem? (i := 78) rfl)) (hw _ (List.mem_of_getElem? (i := 77) rfl)) (by decide) E1 (backC (W := 0) (rm_sq l Z a0 hw zc u1 u3 b1 b3 h0 n0 (by omega) S_c hzc O0 (adr_ne (by omega)) S1 S3) hZ (hw _ (List.mem_of_getElem? (i := 79) rfl)) (hw _ (List.mem_of_getElem? (i := 16) rfl)) (by decide) (by decide)) e8 (argsL := [(.ref u3)]) (rest := []) rfl rfl pd_10 rfl (by rw [hml]; rfl) (hb hby d_prog_6_method_4_code_20) (Nat.le_of_eq rfl) (by decide) (by decide) k8
  have k9 : To p.tables e below S0 (T9.setTop (mkF m 23 #[.val (.ref a), .val (.ref b), .val (.ref b)] [(.int (if b1 = b3 then (1 : Int32) else (0 : Int32)))])) := k9a
  have N9 := N0.app Nq9
  have e9 : T9.heap = h0 := eq9
  by_cases hc23_10 : (if b1 = b3 then (1 : Int32) else (0 : Int32)) = (0 : Int32)
  · -- pc 23, holds
    have k11 : To p.tables e below S0 (T9.setTop (mkF m 45 #[.val (.ref a), .val (.ref b), .val (.ref b)] [(.int (0 : Int32))])) := fun tt hq => k9 tt (by
      show Steps _ _ _ (T9.setTop (mkF m 23 #[.val (.ref a), .val (.ref b), .val (.ref b)] [(.int (if b1 = b3 then (1 : Int32) else (0 : Int32)))])) _
      refine XS.ifYes X9.here hx rfl (pc0 := 23) (pc' := 44) rfl (hb hby d_prog_6_method_4_code_23) rfl ((if0 _ _).trans (teq hc23_10).1) (by decide) (by decide) ?_
      show Steps _ _ _ (T9.setTop (mkF m 44 #[.val (.ref a), .val (.ref b), .val (.ref b)] [])) _
      refine XS.iconst X9.here hx rfl (hb hby d_prog_6_method_4_code_44) ?_
      show Steps _ _ _ (T9.setTop (mkF m 45 #[.val (.ref a), .val (.ref b), .val (.ref b)] [(.int (0 : Int32))])) _
      exact hq)
    have hE := e9
    refine retInt X9 hx hret hlk (by simp) rfl (hb hby d_prog_6_method_4_code_45) k11 ?_ (by decide) (by decide)
    try rw [hE]
    exact ⟨congrArg (fun z => some (Value.int z)) (Eq.symm (if_neg (fun q => own_ifF hc23_10 q.1))), N9, rfl⟩
  · -- pc 23, holds not
    have k12 : To p.tables e below S0 (T9.setTop (mkF m 27 #[.val (.ref a), .val (.ref b), .val (.ref b)] [(.ref a)])) := fun tt hq => k9 tt (by
      show Steps _ _ _ (T9.setTop (mkF m 23 #[.val (.ref a), .val (.ref b), .val (.ref b)] [(.int (if b1 = b3 then (1 : Int32) else (0 : Int32)))])) _
      refine XS.ifNo X9.here hx rfl (hb hby d_prog_6_method_4_code_23) rfl ((if0 _ _).trans (feq hc23_10).1) ?_
      show Steps _ _ _ (T9.setTop (mkF m 26 #[.val (.ref a), .val (.ref b), .val (.ref b)] [])) _
      refine XS.aloadN X9.here hx rfl (hb hby d_prog_6_method_4_code_26) rfl rfl ?_
      show Steps _ _ _ (T9.setTop (mkF m 27 #[.val (.ref a), .val (.ref b), .val (.ref b)] [(.ref a)])) _
      exact hq)
    obtain ⟨T13, X13, e13, st13⟩ := getF X9 hx hZ hown (host := "") (Or.inl (hw _ (List.mem_of_getElem? (i := 66) rfl))) Via.refl e9 P2 (g := (mkF m 27 #[.val (.ref a), .val (.ref b), .val (.ref b)] [(.ref a)])) rfl rfl (hb hby d_prog_6_method_4_code_27)
    have k13 : To p.tables e below S0 (T13.setTop (mkF m 30 #[.val (.ref a), .val (.ref b), .val (.ref b)] [(.ref u2)])) := fun tt hq => k12 tt (st13 tt hq)
    have k14 : To p.tables e below S0 (T13.setTop (mkF m 31 #[.val (.ref a), .val (.ref b), .val (.ref b)] [(.ref b), (.ref u2)])) := fun tt hq => k13 tt (by
      show Steps _ _ _ (T13.setTop (mkF m 30 #[.val (.ref a), .val (.ref b), .val (.ref b)] [(.ref u2)])) _
      refine XS.aloadN X13.here hx rfl (hb hby d_prog_6_method_4_code_30) rfl rfl ?_
      show Steps _ _ _ (T13.setTop (mkF m 31 #[.val (.ref a), .val (.ref b), .val (.ref b)] [(.ref b), (.ref u2)])) _
      exact hq)
    obtain ⟨T15, X15, e15, st15⟩ := getF X13 hx hZ hown (host := "") (Or.inl (hw _ (List.mem_of_getElem? (i := 66) rfl))) Via.refl e13 R2 (g := (mkF m 31 #[.val (.ref a), .val (.ref b), .val (.ref b)] [(.ref b), (.ref u2)])) rfl rfl (hb hby d_prog_6_method_4_code_31)
    have k15 : To p.tables e below S0 (T15.setTop (mkF m 34 #[.val (.ref a), .val (.ref b), .val (.ref b)] [(.ref u4), (.ref u2)])) := fun tt hq => k14 tt (st15 tt hq)
    obtain ⟨_, T16, L16, X16, ⟨rfl, Nq16, eq16⟩, k16a⟩ := callV' X15 hx hZ (y := (⟨"java/lang/String", "equals", "(Ljava/lang/Object;)Z"⟩ : MethodName)) (z := (⟨"java/lang/String", "equals", "(Ljava/lang/Object;)Z"⟩ : MethodName)) hown (hw _ (List.mem_of_getElem? (i := 75) rfl)) (hw _ (List.mem_of_getElem? (i := 76) rfl)) (notFace_of_selects (args := #[]) (mvT hZ (hw _ (List.mem_of_getElem? (i := 78) rfl)))) (hw _ (List.mem_of_getElem? (i := 78) rfl)) (hw _ (List.mem_of_getElem? (i := 77) rfl)) (by decide) E2 (backC (W := 0) (rm_sq l Z a0 hw zc u2 u4 b2 b4 h0 n0 (by omega) S_c hzc O0 (adr_ne (by omega)) S2 S4) hZ (hw _ (List.mem_of_getElem? (i := 79) rfl)) (hw _ (List.mem_of_getElem? (i := 16) rfl)) (by decide) (by decide)) e15 (argsL := [(.ref u4)]) (rest := []) rfl rfl pd_10 rfl (by rw [hml]; rfl) (hb hby d_prog_6_method_4_code_34) (Nat.le_of_eq rfl) (by decide) (by decide) k15
    have k16 : To p.tables e below S0 (T16.setTop (mkF m 37 #[.val (.ref a), .val (.ref b), .val (.ref b)] [(.int (if b2 = b4 then (1 : Int32) else (0 : Int32)))])) := k16a
    have N16 := N9.app Nq16
    have e16 : T16.heap = h0 := eq16
    by_cases hc37_17 : (if b2 = b4 then (1 : Int32) else (0 : Int32)) = (0 : Int32)
    · -- pc 37, holds
      have k18 : To p.tables e below S0 (T16.setTop (mkF m 45 #[.val (.ref a), .val (.ref b), .val (.ref b)] [(.int (0 : Int32))])) := fun tt hq => k16 tt (by
        show Steps _ _ _ (T16.setTop (mkF m 37 #[.val (.ref a), .val (.ref b), .val (.ref b)] [(.int (if b2 = b4 then (1 : Int32) else (0 : Int32)))])) _
        refine XS.ifYes X16.here hx rfl (pc0 := 37) (pc' := 44) rfl (hb hby d_prog_6_method_4_code_37) rfl ((if0 _ _).trans (teq hc37_17).1) (by decide) (by decide) ?_
        show Steps _ _ _ (T16.setTop (mkF m 44 #[.val (.ref a), .val (.ref b), .val (.ref b)] [])) _
        refine XS.iconst X16.here hx rfl (hb hby d_prog_6_method_4_code_44) ?_
        show Steps _ _ _ (T16.setTop (mkF m 45 #[.val (.ref a), .val (.ref b), .val (.ref b)] [(.int (0 : Int32))])) _
        exact hq)
      have hE := e16
      refine retInt X16 hx hret hlk (by simp) rfl (hb hby d_prog_6_method_4_code_45) k18 ?_ (by decide) (by decide)
      try rw [hE]
      exact ⟨congrArg (fun z => some (Value.int z)) (Eq.symm (if_neg (fun q => own_ifF hc37_17 q.2))), N16, rfl⟩
    · -- pc 37, holds not
      have k19 : To p.tables e below S0 (T16.setTop (mkF m 45 #[.val (.ref a), .val (.ref b), .val (.ref b)] [(.int (1 : Int32))])) := fun tt hq => k16 tt (by
        show Steps _ _ _ (T16.setTop (mkF m 37 #[.val (.ref a), .val (.ref b), .val (.ref b)] [(.int (if b2 = b4 then (1 : Int32) else (0 : Int32)))])) _
        refine XS.ifNo X16.here hx rfl (hb hby d_prog_6_method_4_code_37) rfl ((if0 _ _).trans (feq hc37_17).1) ?_
        show Steps _ _ _ (T16.setTop (mkF m 40 #[.val (.ref a), .val (.ref b), .val (.ref b)] [])) _
        refine XS.iconst X16.here hx rfl (hb hby d_prog_6_method_4_code_40) ?_
        show Steps _ _ _ (T16.setTop (mkF m 41 #[.val (.ref a), .val (.ref b), .val (.ref b)] [(.int (1 : Int32))])) _
        refine XS.goto X16.here hx rfl (pc0 := 41) (pc' := 45) rfl (hb hby d_prog_6_method_4_code_41) (by decide) (by decide) ?_
        show Steps _ _ _ (T16.setTop (mkF m 45 #[.val (.ref a), .val (.ref b), .val (.ref b)] [(.int (1 : Int32))])) _
        exact hq)
      have hE := e16
      refine retInt X16 hx hret hlk (by simp) rfl (hb hby d_prog_6_method_4_code_45) k19 ?_ (by decide) (by decide)
      try rw [hE]
      exact ⟨congrArg (fun z => some (Value.int z)) (Eq.symm (if_pos ⟨own_ifT hc23_10, own_ifT hc37_17⟩)), N16, rfl⟩
set_option maxRecDepth 65536 in
set_option maxHeartbeats 40000000 in
theorem rm_ose (l : Launch) (Z : State) (a0 : Array Value) (hw : ∀ d ∈ tables_1, d.before a0 Z = true) (zc : Int32) (a : Addr) (u1 : Addr) (u2 : Addr) (h0 : Heap) (n0 : Nat) (hn0 : n0 ≤ h0.size) (S_c : Sta Z Z.heap "java/lang/String" "COMPACT_STRINGS" "Z" (.int zc)) (hzc : ¬ zc = (0 : Int32)) (O0 : Old Z n0 h0) (P0 : Exa Z h0 a "com/example/huntaway/huntaway/Obligation") (P1 : Fld Z h0 a "com/example/huntaway/huntaway/Obligation" "policy" "Ljava/lang/String;" (.ref u1)) (P2 : Fld Z h0 a "com/example/huntaway/huntaway/Obligation" "controls" "Ljava/lang/String;" (.ref u2)) (E1 : Exa Z h0 u1 "java/lang/String") (E2 : Exa Z h0 u2 "java/lang/String") :
    Con l Z (⟨"com/example/huntaway/huntaway/Obligation", "equals", "(Ljava/lang/Object;)Z"⟩ : MethodName) prog_6_method_4_code 3 (some .boolean) [] ({ frames := 1, cells := 0, slots := 0, locals := 14 } : Room) #[(.ref a), (.ref a)] h0 (fun v h L => v = some (.int (1 : Int32)) ∧ Fr n0 L ∧ h = h0) := by
  refine enter (Ls := #[.val (.ref a), .val (.ref a), .unset]) (plainFor_of_name pn_5) (fun m => by exact entry_eq rfl) ?_
  intro p e s m below meth cd_ s₁ S0 hx hby hml hret hlk hnm hown hZ X0 e0 k0
  have N0 := Fr.nil n0
  have k1 : To p.tables e below S0 (s₁.setTop (mkF m 1 #[.val (.ref a), .val (.ref a), .unset] [(.ref a)])) := fun tt hq => k0 tt (by
    show Steps _ _ _ (s₁.setTop (mkF m 0 #[.val (.ref a), .val (.ref a), .unset] [])) _
    refine XS.aloadN X0.here hx rfl (hb hby d_prog_6_method_4_code_0) rfl rfl ?_
    show Steps _ _ _ (s₁.setTop (mkF m 1 #[.val (.ref a), .val (.ref a), .unset] [(.ref a)])) _
    exact hq)
  obtain ⟨T2, X2, e2, st2⟩ := instY X0 hx hZ hown (hw _ (List.mem_of_getElem? (i := 73) rfl)) e0 (Ins.self P0) (g := (mkF m 1 #[.val (.ref a), .val (.ref a), .unset] [(.ref a)])) rfl rfl (hb hby d_prog_6_method_4_code_1)
  have k2 : To p.tables e below S0 (T2.setTop (mkF m 4 #[.val (.ref a), .val (.ref a), .unset] [(.int (1 : Int32))])) := fun tt hq => k1 tt (st2 tt hq)
  have k3 : To p.tables e below S0 (T2.setTop (mkF m 8 #[.val (.ref a), .val (.ref a), .unset] [(.ref a)])) := fun tt hq => k2 tt (by
    show Steps _ _ _ (T2.setTop (mkF m 4 #[.val (.ref a), .val (.ref a), .unset] [(.int (1 : Int32))])) _
    refine XS.ifNo X2.here hx rfl (hb hby d_prog_6_method_4_code_4) rfl ((if0 _ _).trans (feq (by decide)).1) ?_
    show Steps _ _ _ (T2.setTop (mkF m 7 #[.val (.ref a), .val (.ref a), .unset] [])) _
    refine XS.aloadN X2.here hx rfl (hb hby d_prog_6_method_4_code_7) rfl rfl ?_
    show Steps _ _ _ (T2.setTop (mkF m 8 #[.val (.ref a), .val (.ref a), .unset] [(.ref a)])) _
    exact hq)
  obtain ⟨T4, X4, e4, st4⟩ := castY X2 hx hZ hown (hw _ (List.mem_of_getElem? (i := 73) rfl)) e2 (Ins.self P0) (g := (mkF m 8 #[.val (.ref a), .val (.ref a), .unset] [(.ref a)])) rfl rfl (hb hby d_prog_6_method_4_code_8)
  have k4 : To p.tables e below S0 (T4.setTop (mkF m 11 #[.val (.ref a), .val (.ref a), .unset] [(.ref a)])) := fun tt hq => k3 tt (st4 tt hq)
  have k5 : To p.tables e below S0 (T4.setTop (mkF m 13 #[.val (.ref a), .val (.ref a), .val (.ref a)] [(.ref a)])) := fun tt hq => k4 tt (by
    show Steps _ _ _ (T4.setTop (mkF m 11 #[.val (.ref a), .val (.ref a), .unset] [(.ref a)])) _
    refine XS.astoreN X4.here hx rfl (hb hby d_prog_6_method_4_code_11) rfl rfl (l' := #[.val (.ref a), .val (.ref a), .val (.ref a)]) rfl ?_
    show Steps _ _ _ (T4.setTop (mkF m 12 #[.val (.ref a), .val (.ref a), .val (.ref a)] [])) _
    refine XS.aloadN X4.here hx rfl (hb hby d_prog_6_method_4_code_12) rfl rfl ?_
    show Steps _ _ _ (T4.setTop (mkF m 13 #[.val (.ref a), .val (.ref a), .val (.ref a)] [(.ref a)])) _
    exact hq)
  obtain ⟨T6, X6, e6, st6⟩ := getF X4 hx hZ hown (host := "") (Or.inl (hw _ (List.mem_of_getElem? (i := 63) rfl))) Via.refl e4 P1 (g := (mkF m 13 #[.val (.ref a), .val (.ref a), .val (.ref a)] [(.ref a)])) rfl rfl (hb hby d_prog_6_method_4_code_13)
  have k6 : To p.tables e below S0 (T6.setTop (mkF m 16 #[.val (.ref a), .val (.ref a), .val (.ref a)] [(.ref u1)])) := fun tt hq => k5 tt (st6 tt hq)
  have k7 : To p.tables e below S0 (T6.setTop (mkF m 17 #[.val (.ref a), .val (.ref a), .val (.ref a)] [(.ref a), (.ref u1)])) := fun tt hq => k6 tt (by
    show Steps _ _ _ (T6.setTop (mkF m 16 #[.val (.ref a), .val (.ref a), .val (.ref a)] [(.ref u1)])) _
    refine XS.aloadN X6.here hx rfl (hb hby d_prog_6_method_4_code_16) rfl rfl ?_
    show Steps _ _ _ (T6.setTop (mkF m 17 #[.val (.ref a), .val (.ref a), .val (.ref a)] [(.ref a), (.ref u1)])) _
    exact hq)
  obtain ⟨T8, X8, e8, st8⟩ := getF X6 hx hZ hown (host := "") (Or.inl (hw _ (List.mem_of_getElem? (i := 63) rfl))) Via.refl e6 P1 (g := (mkF m 17 #[.val (.ref a), .val (.ref a), .val (.ref a)] [(.ref a), (.ref u1)])) rfl rfl (hb hby d_prog_6_method_4_code_17)
  have k8 : To p.tables e below S0 (T8.setTop (mkF m 20 #[.val (.ref a), .val (.ref a), .val (.ref a)] [(.ref u1), (.ref u1)])) := fun tt hq => k7 tt (st8 tt hq)
  obtain ⟨_, T9, L9, X9, ⟨rfl, Nq9, eq9⟩, k9a⟩ := callV' X8 hx hZ (y := (⟨"java/lang/String", "equals", "(Ljava/lang/Object;)Z"⟩ : MethodName)) (z := (⟨"java/lang/String", "equals", "(Ljava/lang/Object;)Z"⟩ : MethodName)) hown (hw _ (List.mem_of_getElem? (i := 75) rfl)) (hw _ (List.mem_of_getElem? (i := 76) rfl)) (notFace_of_selects (args := #[]) (mvT hZ (hw _ (List.mem_of_getElem? (i := 78) rfl)))) (hw _ (List.mem_of_getElem? (i := 78) rfl)) (hw _ (List.mem_of_getElem? (i := 77) rfl)) (by decide) E1 (backC (W := 0) (rm_sqs l Z a0 hw u1 h0 n0 (by omega)) hZ (hw _ (List.mem_of_getElem? (i := 79) rfl)) (hw _ (List.mem_of_getElem? (i := 16) rfl)) (by decide) (by decide)) e8 (argsL := [(.ref u1)]) (rest := []) rfl rfl pd_10 rfl (by rw [hml]; rfl) (hb hby d_prog_6_method_4_code_20) (Nat.le_of_eq rfl) (by decide) (by decide) k8
  have k9 : To p.tables e below S0 (T9.setTop (mkF m 23 #[.val (.ref a), .val (.ref a), .val (.ref a)] [(.int (1 : Int32))])) := k9a
  have N9 := N0.app Nq9
  have e9 : T9.heap = h0 := eq9
  have k10 : To p.tables e below S0 (T9.setTop (mkF m 27 #[.val (.ref a), .val (.ref a), .val (.ref a)] [(.ref a)])) := fun tt hq => k9 tt (by
    show Steps _ _ _ (T9.setTop (mkF m 23 #[.val (.ref a), .val (.ref a), .val (.ref a)] [(.int (1 : Int32))])) _
    refine XS.ifNo X9.here hx rfl (hb hby d_prog_6_method_4_code_23) rfl ((if0 _ _).trans (feq (by decide)).1) ?_
    show Steps _ _ _ (T9.setTop (mkF m 26 #[.val (.ref a), .val (.ref a), .val (.ref a)] [])) _
    refine XS.aloadN X9.here hx rfl (hb hby d_prog_6_method_4_code_26) rfl rfl ?_
    show Steps _ _ _ (T9.setTop (mkF m 27 #[.val (.ref a), .val (.ref a), .val (.ref a)] [(.ref a)])) _
    exact hq)
  obtain ⟨T11, X11, e11, st11⟩ := getF X9 hx hZ hown (host := "") (Or.inl (hw _ (List.mem_of_getElem? (i := 66) rfl))) Via.refl e9 P2 (g := (mkF m 27 #[.val (.ref a), .val (.ref a), .val (.ref a)] [(.ref a)])) rfl rfl (hb hby d_prog_6_method_4_code_27)
  have k11 : To p.tables e below S0 (T11.setTop (mkF m 30 #[.val (.ref a), .val (.ref a), .val (.ref a)] [(.ref u2)])) := fun tt hq => k10 tt (st11 tt hq)
  have k12 : To p.tables e below S0 (T11.setTop (mkF m 31 #[.val (.ref a), .val (.ref a), .val (.ref a)] [(.ref a), (.ref u2)])) := fun tt hq => k11 tt (by
    show Steps _ _ _ (T11.setTop (mkF m 30 #[.val (.ref a), .val (.ref a), .val (.ref a)] [(.ref u2)])) _
    refine XS.aloadN X11.here hx rfl (hb hby d_prog_6_method_4_code_30) rfl rfl ?_
    show Steps _ _ _ (T11.setTop (mkF m 31 #[.val (.ref a), .val (.ref a), .val (.ref a)] [(.ref a), (.ref u2)])) _
    exact hq)
  obtain ⟨T13, X13, e13, st13⟩ := getF X11 hx hZ hown (host := "") (Or.inl (hw _ (List.mem_of_getElem? (i := 66) rfl))) Via.refl e11 P2 (g := (mkF m 31 #[.val (.ref a), .val (.ref a), .val (.ref a)] [(.ref a), (.ref u2)])) rfl rfl (hb hby d_prog_6_method_4_code_31)
  have k13 : To p.tables e below S0 (T13.setTop (mkF m 34 #[.val (.ref a), .val (.ref a), .val (.ref a)] [(.ref u2), (.ref u2)])) := fun tt hq => k12 tt (st13 tt hq)
  obtain ⟨_, T14, L14, X14, ⟨rfl, Nq14, eq14⟩, k14a⟩ := callV' X13 hx hZ (y := (⟨"java/lang/String", "equals", "(Ljava/lang/Object;)Z"⟩ : MethodName)) (z := (⟨"java/lang/String", "equals", "(Ljava/lang/Object;)Z"⟩ : MethodName)) hown (hw _ (List.mem_of_getElem? (i := 75) rfl)) (hw _ (List.mem_of_getElem? (i := 76) rfl)) (notFace_of_selects (args := #[]) (mvT hZ (hw _ (List.mem_of_getElem? (i := 78) rfl)))) (hw _ (List.mem_of_getElem? (i := 78) rfl)) (hw _ (List.mem_of_getElem? (i := 77) rfl)) (by decide) E2 (backC (W := 0) (rm_sqs l Z a0 hw u2 h0 n0 (by omega)) hZ (hw _ (List.mem_of_getElem? (i := 79) rfl)) (hw _ (List.mem_of_getElem? (i := 16) rfl)) (by decide) (by decide)) e13 (argsL := [(.ref u2)]) (rest := []) rfl rfl pd_10 rfl (by rw [hml]; rfl) (hb hby d_prog_6_method_4_code_34) (Nat.le_of_eq rfl) (by decide) (by decide) k13
  have k14 : To p.tables e below S0 (T14.setTop (mkF m 37 #[.val (.ref a), .val (.ref a), .val (.ref a)] [(.int (1 : Int32))])) := k14a
  have N14 := N9.app Nq14
  have e14 : T14.heap = h0 := eq14
  have k15 : To p.tables e below S0 (T14.setTop (mkF m 45 #[.val (.ref a), .val (.ref a), .val (.ref a)] [(.int (1 : Int32))])) := fun tt hq => k14 tt (by
    show Steps _ _ _ (T14.setTop (mkF m 37 #[.val (.ref a), .val (.ref a), .val (.ref a)] [(.int (1 : Int32))])) _
    refine XS.ifNo X14.here hx rfl (hb hby d_prog_6_method_4_code_37) rfl ((if0 _ _).trans (feq (by decide)).1) ?_
    show Steps _ _ _ (T14.setTop (mkF m 40 #[.val (.ref a), .val (.ref a), .val (.ref a)] [])) _
    refine XS.iconst X14.here hx rfl (hb hby d_prog_6_method_4_code_40) ?_
    show Steps _ _ _ (T14.setTop (mkF m 41 #[.val (.ref a), .val (.ref a), .val (.ref a)] [(.int (1 : Int32))])) _
    refine XS.goto X14.here hx rfl (pc0 := 41) (pc' := 45) rfl (hb hby d_prog_6_method_4_code_41) (by decide) (by decide) ?_
    show Steps _ _ _ (T14.setTop (mkF m 45 #[.val (.ref a), .val (.ref a), .val (.ref a)] [(.int (1 : Int32))])) _
    exact hq)
  have hE := e14
  refine retInt X14 hx hret hlk (by simp) rfl (hb hby d_prog_6_method_4_code_45) k15 ?_ (by decide) (by decide)
  try rw [hE]
  exact ⟨rfl, N14, rfl⟩
set_option maxRecDepth 65536 in
set_option maxHeartbeats 40000000 in
theorem rm_onu (l : Launch) (Z : State) (a0 : Array Value) (hw : ∀ d ∈ tables_1, d.before a0 Z = true) (a : Addr) (h0 : Heap) (n0 : Nat) (hn0 : n0 ≤ h0.size)  :
    Con l Z (⟨"com/example/huntaway/huntaway/Obligation", "equals", "(Ljava/lang/Object;)Z"⟩ : MethodName) prog_6_method_4_code 3 (some .boolean) [] ({ frames := 0, cells := 0, slots := 0, locals := 0 } : Room) #[(.ref a), .null] h0 (fun v h L => v = some (.int (0 : Int32)) ∧ Fr n0 L ∧ h = h0) := by
  refine enter (Ls := #[.val (.ref a), .val .null, .unset]) (plainFor_of_name pn_5) (fun m => by exact entry_eq rfl) ?_
  intro p e s m below meth cd_ s₁ S0 hx hby hml hret hlk hnm hown hZ X0 e0 k0
  have N0 := Fr.nil n0
  have k1 : To p.tables e below S0 (s₁.setTop (mkF m 1 #[.val (.ref a), .val .null, .unset] [.null])) := fun tt hq => k0 tt (by
    show Steps _ _ _ (s₁.setTop (mkF m 0 #[.val (.ref a), .val .null, .unset] [])) _
    refine XS.aloadN X0.here hx rfl (hb hby d_prog_6_method_4_code_0) rfl rfl ?_
    show Steps _ _ _ (s₁.setTop (mkF m 1 #[.val (.ref a), .val .null, .unset] [.null])) _
    exact hq)
  have k3 : To p.tables e below S0 (s₁.setTop (mkF m 45 #[.val (.ref a), .val .null, .unset] [(.int (0 : Int32))])) := fun tt hq => k1 tt (by
    show Steps _ _ _ (s₁.setTop (mkF m 1 #[.val (.ref a), .val .null, .unset] [.null])) _
    refine X0.instanceofNull hx (g := (mkF m 1 #[.val (.ref a), .val .null, .unset] [.null])) rfl rfl (hb hby d_prog_6_method_4_code_1) _ ?_
    show Steps _ _ _ (s₁.setTop (mkF m 4 #[.val (.ref a), .val .null, .unset] [(.int (0 : Int32))])) _
    refine XS.ifYes X0.here hx rfl (pc0 := 4) (pc' := 44) rfl (hb hby d_prog_6_method_4_code_4) rfl ((if0 _ _).trans (teq (by decide)).1) (by decide) (by decide) ?_
    show Steps _ _ _ (s₁.setTop (mkF m 44 #[.val (.ref a), .val .null, .unset] [])) _
    refine XS.iconst X0.here hx rfl (hb hby d_prog_6_method_4_code_44) ?_
    show Steps _ _ _ (s₁.setTop (mkF m 45 #[.val (.ref a), .val .null, .unset] [(.int (0 : Int32))])) _
    exact hq)
  have hE := e0
  refine retInt X0 hx hret hlk (by simp) rfl (hb hby d_prog_6_method_4_code_45) k3 ?_ (by decide) (by decide)
  try rw [hE]
  exact ⟨rfl, N0, rfl⟩
set_option maxRecDepth 65536 in
set_option maxHeartbeats 40000000 in
theorem rm_ost (l : Launch) (Z : State) (a0 : Array Value) (hw : ∀ d ∈ tables_1, d.before a0 Z = true) (a : Addr) (b : Addr) (h0 : Heap) (n0 : Nat) (hn0 : n0 ≤ h0.size) (E1 : Exa Z h0 b "java/lang/String") :
    Con l Z (⟨"com/example/huntaway/huntaway/Obligation", "equals", "(Ljava/lang/Object;)Z"⟩ : MethodName) prog_6_method_4_code 3 (some .boolean) [] ({ frames := 0, cells := 0, slots := 0, locals := 0 } : Room) #[(.ref a), (.ref b)] h0 (fun v h L => v = some (.int (0 : Int32)) ∧ Fr n0 L ∧ h = h0) := by
  refine enter (Ls := #[.val (.ref a), .val (.ref b), .unset]) (plainFor_of_name pn_5) (fun m => by exact entry_eq rfl) ?_
  intro p e s m below meth cd_ s₁ S0 hx hby hml hret hlk hnm hown hZ X0 e0 k0
  have N0 := Fr.nil n0
  have k1 : To p.tables e below S0 (s₁.setTop (mkF m 1 #[.val (.ref a), .val (.ref b), .unset] [(.ref b)])) := fun tt hq => k0 tt (by
    show Steps _ _ _ (s₁.setTop (mkF m 0 #[.val (.ref a), .val (.ref b), .unset] [])) _
    refine XS.aloadN X0.here hx rfl (hb hby d_prog_6_method_4_code_0) rfl rfl ?_
    show Steps _ _ _ (s₁.setTop (mkF m 1 #[.val (.ref a), .val (.ref b), .unset] [(.ref b)])) _
    exact hq)
  obtain ⟨T2, X2, e2, st2⟩ := instNo X0 hx hZ hown (hw _ (List.mem_of_getElem? (i := 73) rfl)) e0 E1 (own_no (hw _ (List.mem_of_getElem? (i := 80) rfl)) (hw _ (List.mem_of_getElem? (i := 81) rfl)) (hw _ (List.mem_of_getElem? (i := 1) rfl)) (by decide) (by decide)) (g := (mkF m 1 #[.val (.ref a), .val (.ref b), .unset] [(.ref b)])) rfl rfl (hb hby d_prog_6_method_4_code_1)
  have k2 : To p.tables e below S0 (T2.setTop (mkF m 4 #[.val (.ref a), .val (.ref b), .unset] [(.int (0 : Int32))])) := fun tt hq => k1 tt (st2 tt hq)
  have k3 : To p.tables e below S0 (T2.setTop (mkF m 45 #[.val (.ref a), .val (.ref b), .unset] [(.int (0 : Int32))])) := fun tt hq => k2 tt (by
    show Steps _ _ _ (T2.setTop (mkF m 4 #[.val (.ref a), .val (.ref b), .unset] [(.int (0 : Int32))])) _
    refine XS.ifYes X2.here hx rfl (pc0 := 4) (pc' := 44) rfl (hb hby d_prog_6_method_4_code_4) rfl ((if0 _ _).trans (teq (by decide)).1) (by decide) (by decide) ?_
    show Steps _ _ _ (T2.setTop (mkF m 44 #[.val (.ref a), .val (.ref b), .unset] [])) _
    refine XS.iconst X2.here hx rfl (hb hby d_prog_6_method_4_code_44) ?_
    show Steps _ _ _ (T2.setTop (mkF m 45 #[.val (.ref a), .val (.ref b), .unset] [(.int (0 : Int32))])) _
    exact hq)
  have hE := e2
  refine retInt X2 hx hret hlk (by simp) rfl (hb hby d_prog_6_method_4_code_45) k3 ?_ (by decide) (by decide)
  try rw [hE]
  exact ⟨rfl, N0, rfl⟩
theorem pd_11 : parseMethodDescriptor "(I)Ljava/lang/String;" = some ⟨[.int], some (.object "java/lang/String")⟩ := by decide +kernel
theorem pd_12 : parseMethodDescriptor "(Ljava/lang/String;Ljava/lang/String;)V" = some ⟨[(.object "java/lang/String"), (.object "java/lang/String")], none⟩ := by decide +kernel
theorem pd_13 : parseMethodDescriptor "(II)Z" = some ⟨[.int, .int], some .boolean⟩ := by decide +kernel
set_option maxRecDepth 65536 in
set_option maxHeartbeats 40000000 in
theorem rm0 (l : Launch) (Z : State) (a0 : Array Value) (hw : ∀ d ∈ tables_1, d.before a0 Z = true) (zc : Int32) (p1 : Int32) (p2 : Int32) (p3 : Int32) (p4 : Int32) (md : Int32) (kd : Int32) (h0 : Heap) (n0 : Nat) (hn0 : n0 ≤ h0.size) (S_c : Sta Z Z.heap "java/lang/String" "COMPACT_STRINGS" "Z" (.int zc)) (hzc : ¬ zc = (0 : Int32)) (O0 : Old Z n0 h0) :
    ConW l Z own_EL x code maxLocals ret tables_1 room_1 #[(.int p1), (.int p2), (.int p3), (.int p4), (.int md), (.int kd)] h0 [] (fun v h L => v = some (.int 1) ∧ Fr n0 L) := by
  refine enterW (Ls := #[.val (.int p1), .val (.int p2), .val (.int p3), .val (.int p4), .val (.int md), .val (.int kd), .unset, .unset, .unset, .unset, .unset, .unset]) (plainFor_of_name pn_0) (fun m => by exact entry_eq rfl) ?_
  intro p e s m below meth cd_ s₁ S0 vm0 hx hby hml hret hlk hnm hown hZ X0 e0 k0 C0 hsf hS0
  have N0 := Fr.nil n0
  let l1 : Array Slot := #[.val (.int p1), .val (.int p2), .val (.int p3), .val (.int p4), .val (.int md), .val (.int kd), .unset, .unset, .unset, .unset, .unset, .unset]
  have k2 : To p.tables e below S0 (s₁.setTop (mkF m 4 l1 [(.int (md &&& (1 : Int32)))])) := fun tt hq => k0 tt (by
    show Steps _ _ _ (s₁.setTop (mkF m 0 l1 [])) _
    refine XS.iload X0.here hx rfl (hb hby at_0) rfl ?_
    show Steps _ _ _ (s₁.setTop (mkF m 2 l1 [(.int md)])) _
    refine XS.iconst X0.here hx rfl (hb hby at_2) ?_
    show Steps _ _ _ (s₁.setTop (mkF m 3 l1 [(.int (1 : Int32)), (.int md)])) _
    refine XS.iand X0.here hx rfl (hb hby at_3) rfl ?_
    show Steps _ _ _ (s₁.setTop (mkF m 4 l1 [(.int (md &&& (1 : Int32)))])) _
    exact hq)
  refine joinT (S0 := S0) X0 e0 (mkF m 12 l1 [(.int (if (md &&& (1 : Int32)) = (0 : Int32) then p3 else p1))]) (fun kont => ?_) (fun T3 X3 e3 k3 => ?_)
  · -- the roads to pc 12
    by_cases hc4_4 : (md &&& (1 : Int32)) = (0 : Int32)
    · -- pc 4, holds
      have k5 : To p.tables e below S0 (s₁.setTop (mkF m 12 l1 [(.int p3)])) := fun tt hq => k2 tt (by
        show Steps _ _ _ (s₁.setTop (mkF m 4 l1 [(.int (md &&& (1 : Int32)))])) _
        refine XS.ifYes X0.here hx rfl (pc0 := 4) (pc' := 11) rfl (hb hby at_4) rfl ((if0 _ _).trans (teq hc4_4).1) (by decide) (by decide) ?_
        show Steps _ _ _ (s₁.setTop (mkF m 11 l1 [])) _
        refine XS.iloadN X0.here hx rfl (hb hby at_11) rfl ?_
        show Steps _ _ _ (s₁.setTop (mkF m 12 l1 [(.int p3)])) _
        exact hq)
      exact kont s₁ X0 e0 (fun tt hq => k5 tt (by simpa only [if_pos hc4_4, l1] using hq))
    · -- pc 4, holds not
      have k6 : To p.tables e below S0 (s₁.setTop (mkF m 12 l1 [(.int p1)])) := fun tt hq => k2 tt (by
        show Steps _ _ _ (s₁.setTop (mkF m 4 l1 [(.int (md &&& (1 : Int32)))])) _
        refine XS.ifNo X0.here hx rfl (hb hby at_4) rfl ((if0 _ _).trans (feq hc4_4).1) ?_
        show Steps _ _ _ (s₁.setTop (mkF m 7 l1 [])) _
        refine XS.iloadN X0.here hx rfl (hb hby at_7) rfl ?_
        show Steps _ _ _ (s₁.setTop (mkF m 8 l1 [(.int p1)])) _
        refine XS.goto X0.here hx rfl (pc0 := 8) (pc' := 12) rfl (hb hby at_8) (by decide) (by decide) ?_
        show Steps _ _ _ (s₁.setTop (mkF m 12 l1 [(.int p1)])) _
        exact hq)
      exact kont s₁ X0 e0 (fun tt hq => k6 tt (by simpa only [if_neg hc4_4, l1] using hq))
  obtain ⟨v7, hv7⟩ : ∃ z : Int32, z = (if (md &&& (1 : Int32)) = (0 : Int32) then p3 else p1) := ⟨_, rfl⟩
  have k7 : To p.tables e below S0 (T3.setTop (mkF m 12 l1 [(.int v7)])) := by rw [hv7]; exact k3
  let l8 : Array Slot := #[.val (.int p1), .val (.int p2), .val (.int p3), .val (.int p4), .val (.int md), .val (.int kd), .val (.int v7), .unset, .unset, .unset, .unset, .unset]
  have k9 : To p.tables e below S0 (T3.setTop (mkF m 18 l8 [(.int (md &&& (2 : Int32)))])) := fun tt hq => k7 tt (by
    show Steps _ _ _ (T3.setTop (mkF m 12 l1 [(.int v7)])) _
    refine XS.istore X3.here hx rfl (hb hby at_12) rfl (l' := l8) rfl ?_
    show Steps _ _ _ (T3.setTop (mkF m 14 l8 [])) _
    refine XS.iload X3.here hx rfl (hb hby at_14) rfl ?_
    show Steps _ _ _ (T3.setTop (mkF m 16 l8 [(.int md)])) _
    refine XS.iconst X3.here hx rfl (hb hby at_16) ?_
    show Steps _ _ _ (T3.setTop (mkF m 17 l8 [(.int (2 : Int32)), (.int md)])) _
    refine XS.iand X3.here hx rfl (hb hby at_17) rfl ?_
    show Steps _ _ _ (T3.setTop (mkF m 18 l8 [(.int (md &&& (2 : Int32)))])) _
    exact hq)
  refine joinT (S0 := S0) X3 e3 (mkF m 26 l8 [(.int (if (md &&& (2 : Int32)) = (0 : Int32) then p4 else p2))]) (fun kont => ?_) (fun T10 X10 e10 k10 => ?_)
  · -- the roads to pc 26
    by_cases hc18_11 : (md &&& (2 : Int32)) = (0 : Int32)
    · -- pc 18, holds
      have k12 : To p.tables e below S0 (T3.setTop (mkF m 26 l8 [(.int p4)])) := fun tt hq => k9 tt (by
        show Steps _ _ _ (T3.setTop (mkF m 18 l8 [(.int (md &&& (2 : Int32)))])) _
        refine XS.ifYes X3.here hx rfl (pc0 := 18) (pc' := 25) rfl (hb hby at_18) rfl ((if0 _ _).trans (teq hc18_11).1) (by decide) (by decide) ?_
        show Steps _ _ _ (T3.setTop (mkF m 25 l8 [])) _
        refine XS.iloadN X3.here hx rfl (hb hby at_25) rfl ?_
        show Steps _ _ _ (T3.setTop (mkF m 26 l8 [(.int p4)])) _
        exact hq)
      exact kont T3 X3 e3 (fun tt hq => k12 tt (by simpa only [if_pos hc18_11, l8] using hq))
    · -- pc 18, holds not
      have k13 : To p.tables e below S0 (T3.setTop (mkF m 26 l8 [(.int p2)])) := fun tt hq => k9 tt (by
        show Steps _ _ _ (T3.setTop (mkF m 18 l8 [(.int (md &&& (2 : Int32)))])) _
        refine XS.ifNo X3.here hx rfl (hb hby at_18) rfl ((if0 _ _).trans (feq hc18_11).1) ?_
        show Steps _ _ _ (T3.setTop (mkF m 21 l8 [])) _
        refine XS.iloadN X3.here hx rfl (hb hby at_21) rfl ?_
        show Steps _ _ _ (T3.setTop (mkF m 22 l8 [(.int p2)])) _
        refine XS.goto X3.here hx rfl (pc0 := 22) (pc' := 26) rfl (hb hby at_22) (by decide) (by decide) ?_
        show Steps _ _ _ (T3.setTop (mkF m 26 l8 [(.int p2)])) _
        exact hq)
      exact kont T3 X3 e3 (fun tt hq => k13 tt (by simpa only [if_neg hc18_11, l8] using hq))
  obtain ⟨v14, hv14⟩ : ∃ z : Int32, z = (if (md &&& (2 : Int32)) = (0 : Int32) then p4 else p2) := ⟨_, rfl⟩
  have k14 : To p.tables e below S0 (T10.setTop (mkF m 26 l8 [(.int v14)])) := by rw [hv14]; exact k10
  let l15 : Array Slot := #[.val (.int p1), .val (.int p2), .val (.int p3), .val (.int p4), .val (.int md), .val (.int kd), .val (.int v7), .val (.int v14), .unset, .unset, .unset, .unset]
  have k16 : To p.tables e below S0 (T10.setTop (mkF m 28 l15 [])) := fun tt hq => k14 tt (by
    show Steps _ _ _ (T10.setTop (mkF m 26 l8 [(.int v14)])) _
    refine XS.istore X10.here hx rfl (hb hby at_26) rfl (l' := l15) rfl ?_
    show Steps _ _ _ (T10.setTop (mkF m 28 l15 [])) _
    exact hq)
  obtain ⟨T17, h17, X17, e17, E17, A17, D17, -, st17⟩ := newO X10 hx hZ hown (hw _ (List.mem_of_getElem? (i := 0) rfl)) (hw _ (List.mem_of_getElem? (i := 1) rfl)) (hw _ (List.mem_of_getElem? (i := 2) rfl)) e10 (g := (mkF m 28 l15 [])) rfl (hb hby at_28) (by decide) (by decide)
  obtain ⟨b17, g17⟩ : ∃ z, z = h0.size := ⟨_, rfl⟩
  rw [← g17] at A17 D17 st17
  have k17 : To p.tables e below S0 (T17.setTop (mkF m 31 l15 [(.ref b17)])) := fun tt hq => k16 tt (st17 tt hq)
  have z17 : h0.size ≤ h17.size := E17.1
  have y17 : @LT.lt Nat instLTNat b17 h17.size := A17.lt
  have C17 := C0.trans (CHr.ext E17 C0.1)
  have F17_policy : Fld Z h17 b17 "com/example/huntaway/huntaway/Obligation" "policy" "Ljava/lang/String;" .null := D17 (Or.inr (hw _ (List.mem_of_getElem? (i := 64) rfl))) (ty := (.object "java/lang/String")) (by decide)
  have F17_controls : Fld Z h17 b17 "com/example/huntaway/huntaway/Obligation" "controls" "Ljava/lang/String;" .null := D17 (Or.inr (hw _ (List.mem_of_getElem? (i := 67) rfl))) (ty := (.object "java/lang/String")) (by decide)
  have k18 : To p.tables e below S0 (T17.setTop (mkF m 33 l15 [(.int p1), (.ref b17), (.ref b17)])) := fun tt hq => k17 tt (by
    show Steps _ _ _ (T17.setTop (mkF m 31 l15 [(.ref b17)])) _
    refine XS.dup X17.here hx rfl (hb hby at_31) rfl rfl ?_
    show Steps _ _ _ (T17.setTop (mkF m 32 l15 [(.ref b17), (.ref b17)])) _
    refine XS.iloadN X17.here hx rfl (hb hby at_32) rfl ?_
    show Steps _ _ _ (T17.setTop (mkF m 33 l15 [(.int p1), (.ref b17), (.ref b17)])) _
    exact hq)
  have f19 : Old Z n0 h17 := (O0.ext E17)
  obtain ⟨_, T20, L20, X20, ⟨a20, rfl, Nq20, ga20, Kq20, S20⟩, k20a, Cq20, hS20, hZ20, hown20⟩ := callSW X17 hx hZ (y := (⟨"com/example/huntaway/huntaway/ObligationEqualsPinLaw", "mk", "(I)Ljava/lang/String;"⟩ : MethodName)) hown hS0 (by omega) (hw _ (List.mem_of_getElem? (i := 3) rfl)) (hw _ (List.mem_of_getElem? (i := 4) rfl)) (hw _ (List.mem_of_getElem? (i := 5) rfl)) (hw _ (List.mem_of_getElem? (i := 6) rfl)) (by decide) (backOfW (W := 2) (rm_mk l Z a0 hw zc p1 h17 n0 (by omega) S_c hzc f19) hZ (hw _ (List.mem_of_getElem? (i := 6) rfl)) (hw _ (List.mem_of_getElem? (i := 5) rfl)) (by decide) (by decide) (own_EW hw) C17.1 all0) e17 (argsL := [(.int p1)]) (rest := [(.ref b17), (.ref b17)]) rfl rfl pd_11 rfl (by rw [hml]; rfl) (hb hby at_33) (Nat.le_of_eq rfl) (by decide) (by decide) k18
  have k20 : To p.tables e below S0 (T20.setTop (mkF m 36 l15 [(.ref a20), (.ref b17), (.ref b17)])) := k20a
  have N20 := N0.app Nq20
  obtain ⟨h20, e20⟩ : ∃ z, T20.heap = z := ⟨_, rfl⟩
  rw [e20] at Kq20 S20 Cq20 hS20
  have z20 : h17.size ≤ h20.size := Kq20.1
  have C20 := C17.trans Cq20
  have y20 : @LT.lt Nat instLTNat a20 h20.size := S20.1.lt
  have k21 : To p.tables e below S0 (T20.setTop (mkF m 37 l15 [(.int p2), (.ref a20), (.ref b17), (.ref b17)])) := fun tt hq => k20 tt (by
    show Steps _ _ _ (T20.setTop (mkF m 36 l15 [(.ref a20), (.ref b17), (.ref b17)])) _
    refine XS.iloadN X20.here hx rfl (hb hby at_36) rfl ?_
    show Steps _ _ _ (T20.setTop (mkF m 37 l15 [(.int p2), (.ref a20), (.ref b17), (.ref b17)])) _
    exact hq)
  have f22 : Old Z n0 h20 := (f19.keep Kq20 all0)
  obtain ⟨_, T23, L23, X23, ⟨a23, rfl, Nq23, ga23, Kq23, S23⟩, k23a, Cq23, hS23, hZ23, hown23⟩ := callSW X20 hx hZ20 (y := (⟨"com/example/huntaway/huntaway/ObligationEqualsPinLaw", "mk", "(I)Ljava/lang/String;"⟩ : MethodName)) hown20 hS20 (by omega) (hw _ (List.mem_of_getElem? (i := 3) rfl)) (hw _ (List.mem_of_getElem? (i := 4) rfl)) (hw _ (List.mem_of_getElem? (i := 5) rfl)) (hw _ (List.mem_of_getElem? (i := 6) rfl)) (by decide) (backOfW (W := 3) (rm_mk l Z a0 hw zc p2 h20 n0 (by omega) S_c hzc f22) hZ20 (hw _ (List.mem_of_getElem? (i := 6) rfl)) (hw _ (List.mem_of_getElem? (i := 5) rfl)) (by decide) (by decide) (own_EW hw) C20.1 all0) e20 (argsL := [(.int p2)]) (rest := [(.ref a20), (.ref b17), (.ref b17)]) rfl rfl pd_11 rfl (by rw [hml]; rfl) (hb hby at_37) (Nat.le_of_eq rfl) (by decide) (by decide) k21
  have k23 : To p.tables e below S0 (T23.setTop (mkF m 40 l15 [(.ref a23), (.ref a20), (.ref b17), (.ref b17)])) := k23a
  have N23 := N20.app Nq23
  obtain ⟨h23, e23⟩ : ∃ z, T23.heap = z := ⟨_, rfl⟩
  rw [e23] at Kq23 S23 Cq23 hS23
  have z23 : h20.size ≤ h23.size := Kq23.1
  have C23 := C20.trans Cq23
  have y23 : @LT.lt Nat instLTNat a23 h23.size := S23.1.lt
  have f24 : Exa Z h23 b17 "com/example/huntaway/huntaway/Obligation" := ((A17.keep Kq20).keep Kq23)
  have f25 : Fld Z h23 b17 "com/example/huntaway/huntaway/Obligation" "policy" "Ljava/lang/String;" .null := ((F17_policy.keep Kq20 nin0).keep Kq23 nin0)
  have f26 : Fld Z h23 b17 "com/example/huntaway/huntaway/Obligation" "controls" "Ljava/lang/String;" .null := ((F17_controls.keep Kq20 nin0).keep Kq23 nin0)
  have f27 : Exa Z h23 a20 "java/lang/String" := (S20.1.keep Kq23)
  obtain ⟨_, T28, L28, X28, ⟨rfl, Nq28, Kq28, P280, P281, P282⟩, k28a, Cq28, hS28, hZ28, hown28⟩ := callCW X23 hx hZ23 (y := (⟨"com/example/huntaway/huntaway/Obligation", "<init>", "(Ljava/lang/String;Ljava/lang/String;)V"⟩ : MethodName)) rfl hown23 hS23 (by omega) (hw _ (List.mem_of_getElem? (i := 53) rfl)) (hw _ (List.mem_of_getElem? (i := 54) rfl)) (hw _ (List.mem_of_getElem? (i := 55) rfl)) (by decide) (backOfW (W := 1) (rm_oi l Z a0 hw b17 a20 a23 h23 n0 (by omega) f24 f25 f26 f27 S23.1 (by omega) (by omega)) hZ23 (hw _ (List.mem_of_getElem? (i := 55) rfl)) (hw _ (List.mem_of_getElem? (i := 2) rfl)) (by decide) (by decide) (own_EW hw) C23.1 all0) e23 (argsL := [(.ref a20), (.ref a23)]) (rest := [(.ref b17)]) rfl rfl pd_12 rfl (by rw [hml]; rfl) (hb hby at_40) (Nat.le_of_eq rfl) (by decide) (by decide) k23
  have k28 : To p.tables e below S0 (T28.setTop (mkF m 43 l15 [(.ref b17)])) := k28a
  have N28 := N23.app Nq28
  obtain ⟨h28, e28⟩ : ∃ z, T28.heap = z := ⟨_, rfl⟩
  rw [e28] at Kq28 P280 P281 P282 Cq28 hS28
  have z28 : h23.size ≤ h28.size := Kq28.1
  have C28 := C23.trans Cq28
  let l29 : Array Slot := #[.val (.int p1), .val (.int p2), .val (.int p3), .val (.int p4), .val (.int md), .val (.int kd), .val (.int v7), .val (.int v14), .val (.ref b17), .unset, .unset, .unset]
  have k30 : To p.tables e below S0 (T28.setTop (mkF m 45 l29 [])) := fun tt hq => k28 tt (by
    show Steps _ _ _ (T28.setTop (mkF m 43 l15 [(.ref b17)])) _
    refine XS.astore X28.here hx rfl (hb hby at_43) rfl rfl (l' := l29) rfl ?_
    show Steps _ _ _ (T28.setTop (mkF m 45 l29 [])) _
    exact hq)
  obtain ⟨T31, h31, X31, e31, E31, A31, D31, -, st31⟩ := newO X28 hx hZ28 hown28 (hw _ (List.mem_of_getElem? (i := 0) rfl)) (hw _ (List.mem_of_getElem? (i := 1) rfl)) (hw _ (List.mem_of_getElem? (i := 2) rfl)) e28 (g := (mkF m 45 l29 [])) rfl (hb hby at_45) (by decide) (by decide)
  obtain ⟨b31, g31⟩ : ∃ z, z = h28.size := ⟨_, rfl⟩
  rw [← g31] at A31 D31 st31
  have k31 : To p.tables e below S0 (T31.setTop (mkF m 48 l29 [(.ref b31)])) := fun tt hq => k30 tt (st31 tt hq)
  have z31 : h28.size ≤ h31.size := E31.1
  have y31 : @LT.lt Nat instLTNat b31 h31.size := A31.lt
  have C31 := C28.trans (CHr.ext E31 C28.1)
  have F31_policy : Fld Z h31 b31 "com/example/huntaway/huntaway/Obligation" "policy" "Ljava/lang/String;" .null := D31 (Or.inr (hw _ (List.mem_of_getElem? (i := 64) rfl))) (ty := (.object "java/lang/String")) (by decide)
  have F31_controls : Fld Z h31 b31 "com/example/huntaway/huntaway/Obligation" "controls" "Ljava/lang/String;" .null := D31 (Or.inr (hw _ (List.mem_of_getElem? (i := 67) rfl))) (ty := (.object "java/lang/String")) (by decide)
  have k32 : To p.tables e below S0 (T31.setTop (mkF m 51 l29 [(.int v7), (.ref b31), (.ref b31)])) := fun tt hq => k31 tt (by
    show Steps _ _ _ (T31.setTop (mkF m 48 l29 [(.ref b31)])) _
    refine XS.dup X31.here hx rfl (hb hby at_48) rfl rfl ?_
    show Steps _ _ _ (T31.setTop (mkF m 49 l29 [(.ref b31), (.ref b31)])) _
    refine XS.iload X31.here hx rfl (hb hby at_49) rfl ?_
    show Steps _ _ _ (T31.setTop (mkF m 51 l29 [(.int v7), (.ref b31), (.ref b31)])) _
    exact hq)
  have f33 : Old Z n0 h31 := (((f22.keep Kq23 all0).keep Kq28 (allS (by omega) all0)).ext E31)
  obtain ⟨_, T34, L34, X34, ⟨a34, rfl, Nq34, ga34, Kq34, S34⟩, k34a, Cq34, hS34, hZ34, hown34⟩ := callSW X31 hx hZ28 (y := (⟨"com/example/huntaway/huntaway/ObligationEqualsPinLaw", "mk", "(I)Ljava/lang/String;"⟩ : MethodName)) hown28 hS28 (by omega) (hw _ (List.mem_of_getElem? (i := 3) rfl)) (hw _ (List.mem_of_getElem? (i := 4) rfl)) (hw _ (List.mem_of_getElem? (i := 5) rfl)) (hw _ (List.mem_of_getElem? (i := 6) rfl)) (by decide) (backOfW (W := 2) (rm_mk l Z a0 hw zc v7 h31 n0 (by omega) S_c hzc f33) hZ28 (hw _ (List.mem_of_getElem? (i := 6) rfl)) (hw _ (List.mem_of_getElem? (i := 5) rfl)) (by decide) (by decide) (own_EW hw) C31.1 all0) e31 (argsL := [(.int v7)]) (rest := [(.ref b31), (.ref b31)]) rfl rfl pd_11 rfl (by rw [hml]; rfl) (hb hby at_51) (Nat.le_of_eq rfl) (by decide) (by decide) k32
  have k34 : To p.tables e below S0 (T34.setTop (mkF m 54 l29 [(.ref a34), (.ref b31), (.ref b31)])) := k34a
  have N34 := N28.app Nq34
  obtain ⟨h34, e34⟩ : ∃ z, T34.heap = z := ⟨_, rfl⟩
  rw [e34] at Kq34 S34 Cq34 hS34
  have z34 : h31.size ≤ h34.size := Kq34.1
  have C34 := C31.trans Cq34
  have y34 : @LT.lt Nat instLTNat a34 h34.size := S34.1.lt
  have k35 : To p.tables e below S0 (T34.setTop (mkF m 56 l29 [(.int v14), (.ref a34), (.ref b31), (.ref b31)])) := fun tt hq => k34 tt (by
    show Steps _ _ _ (T34.setTop (mkF m 54 l29 [(.ref a34), (.ref b31), (.ref b31)])) _
    refine XS.iload X34.here hx rfl (hb hby at_54) rfl ?_
    show Steps _ _ _ (T34.setTop (mkF m 56 l29 [(.int v14), (.ref a34), (.ref b31), (.ref b31)])) _
    exact hq)
  have f36 : Old Z n0 h34 := (f33.keep Kq34 all0)
  obtain ⟨_, T37, L37, X37, ⟨a37, rfl, Nq37, ga37, Kq37, S37⟩, k37a, Cq37, hS37, hZ37, hown37⟩ := callSW X34 hx hZ34 (y := (⟨"com/example/huntaway/huntaway/ObligationEqualsPinLaw", "mk", "(I)Ljava/lang/String;"⟩ : MethodName)) hown34 hS34 (by omega) (hw _ (List.mem_of_getElem? (i := 3) rfl)) (hw _ (List.mem_of_getElem? (i := 4) rfl)) (hw _ (List.mem_of_getElem? (i := 5) rfl)) (hw _ (List.mem_of_getElem? (i := 6) rfl)) (by decide) (backOfW (W := 3) (rm_mk l Z a0 hw zc v14 h34 n0 (by omega) S_c hzc f36) hZ34 (hw _ (List.mem_of_getElem? (i := 6) rfl)) (hw _ (List.mem_of_getElem? (i := 5) rfl)) (by decide) (by decide) (own_EW hw) C34.1 all0) e34 (argsL := [(.int v14)]) (rest := [(.ref a34), (.ref b31), (.ref b31)]) rfl rfl pd_11 rfl (by rw [hml]; rfl) (hb hby at_56) (Nat.le_of_eq rfl) (by decide) (by decide) k35
  have k37 : To p.tables e below S0 (T37.setTop (mkF m 59 l29 [(.ref a37), (.ref a34), (.ref b31), (.ref b31)])) := k37a
  have N37 := N34.app Nq37
  obtain ⟨h37, e37⟩ : ∃ z, T37.heap = z := ⟨_, rfl⟩
  rw [e37] at Kq37 S37 Cq37 hS37
  have z37 : h34.size ≤ h37.size := Kq37.1
  have C37 := C34.trans Cq37
  have y37 : @LT.lt Nat instLTNat a37 h37.size := S37.1.lt
  have f38 : Exa Z h37 b31 "com/example/huntaway/huntaway/Obligation" := ((A31.keep Kq34).keep Kq37)
  have f39 : Fld Z h37 b31 "com/example/huntaway/huntaway/Obligation" "policy" "Ljava/lang/String;" .null := ((F31_policy.keep Kq34 nin0).keep Kq37 nin0)
  have f40 : Fld Z h37 b31 "com/example/huntaway/huntaway/Obligation" "controls" "Ljava/lang/String;" .null := ((F31_controls.keep Kq34 nin0).keep Kq37 nin0)
  have f41 : Exa Z h37 a34 "java/lang/String" := (S34.1.keep Kq37)
  obtain ⟨_, T42, L42, X42, ⟨rfl, Nq42, Kq42, P420, P421, P422⟩, k42a, Cq42, hS42, hZ42, hown42⟩ := callCW X37 hx hZ37 (y := (⟨"com/example/huntaway/huntaway/Obligation", "<init>", "(Ljava/lang/String;Ljava/lang/String;)V"⟩ : MethodName)) rfl hown37 hS37 (by omega) (hw _ (List.mem_of_getElem? (i := 53) rfl)) (hw _ (List.mem_of_getElem? (i := 54) rfl)) (hw _ (List.mem_of_getElem? (i := 55) rfl)) (by decide) (backOfW (W := 1) (rm_oi l Z a0 hw b31 a34 a37 h37 n0 (by omega) f38 f39 f40 f41 S37.1 (by omega) (by omega)) hZ37 (hw _ (List.mem_of_getElem? (i := 55) rfl)) (hw _ (List.mem_of_getElem? (i := 2) rfl)) (by decide) (by decide) (own_EW hw) C37.1 all0) e37 (argsL := [(.ref a34), (.ref a37)]) (rest := [(.ref b31)]) rfl rfl pd_12 rfl (by rw [hml]; rfl) (hb hby at_59) (Nat.le_of_eq rfl) (by decide) (by decide) k37
  have k42 : To p.tables e below S0 (T42.setTop (mkF m 62 l29 [(.ref b31)])) := k42a
  have N42 := N37.app Nq42
  obtain ⟨h42, e42⟩ : ∃ z, T42.heap = z := ⟨_, rfl⟩
  rw [e42] at Kq42 P420 P421 P422 Cq42 hS42
  have z42 : h37.size ≤ h42.size := Kq42.1
  have C42 := C37.trans Cq42
  let l43 : Array Slot := #[.val (.int p1), .val (.int p2), .val (.int p3), .val (.int p4), .val (.int md), .val (.int kd), .val (.int v7), .val (.int v14), .val (.ref b17), .val (.ref b31), .unset, .unset]
  let l44 : Array Slot := #[.val (.int p1), .val (.int p2), .val (.int p3), .val (.int p4), .val (.int md), .val (.int kd), .val (.int v7), .val (.int v14), .val (.ref b17), .val (.ref b31), .val (.int (kd &&& (3 : Int32))), .unset]
  have k45 : To p.tables e below S0 (T42.setTop (mkF m 72 l44 [(.int (kd &&& (3 : Int32)))])) := fun tt hq => k42 tt (by
    show Steps _ _ _ (T42.setTop (mkF m 62 l29 [(.ref b31)])) _
    refine XS.astore X42.here hx rfl (hb hby at_62) rfl rfl (l' := l43) rfl ?_
    show Steps _ _ _ (T42.setTop (mkF m 64 l43 [])) _
    refine XS.iload X42.here hx rfl (hb hby at_64) rfl ?_
    show Steps _ _ _ (T42.setTop (mkF m 66 l43 [(.int kd)])) _
    refine XS.iconst X42.here hx rfl (hb hby at_66) ?_
    show Steps _ _ _ (T42.setTop (mkF m 67 l43 [(.int (3 : Int32)), (.int kd)])) _
    refine XS.iand X42.here hx rfl (hb hby at_67) rfl ?_
    show Steps _ _ _ (T42.setTop (mkF m 68 l43 [(.int (kd &&& (3 : Int32)))])) _
    refine XS.istore X42.here hx rfl (hb hby at_68) rfl (l' := l44) rfl ?_
    show Steps _ _ _ (T42.setTop (mkF m 70 l44 [])) _
    refine XS.iload X42.here hx rfl (hb hby at_70) rfl ?_
    show Steps _ _ _ (T42.setTop (mkF m 72 l44 [(.int (kd &&& (3 : Int32)))])) _
    exact hq)
  by_cases hc72_46 : (kd &&& (3 : Int32)) = (0 : Int32)
  · -- pc 72, holds
    have k47 : To p.tables e below S0 (T42.setTop (mkF m 78 l44 [(.int v7), (.int p1)])) := fun tt hq => k45 tt (by
      show Steps _ _ _ (T42.setTop (mkF m 72 l44 [(.int (kd &&& (3 : Int32)))])) _
      refine XS.ifNo X42.here hx rfl (hb hby at_72) rfl ((if0 _ _).trans (teq hc72_46).2) ?_
      show Steps _ _ _ (T42.setTop (mkF m 75 l44 [])) _
      refine XS.iloadN X42.here hx rfl (hb hby at_75) rfl ?_
      show Steps _ _ _ (T42.setTop (mkF m 76 l44 [(.int p1)])) _
      refine XS.iload X42.here hx rfl (hb hby at_76) rfl ?_
      show Steps _ _ _ (T42.setTop (mkF m 78 l44 [(.int v7), (.int p1)])) _
      exact hq)
    obtain ⟨_, T48, L48, X48, ⟨rfl, Nq48, eq48⟩, k48a⟩ := callS' X42 hx hZ42 (y := (⟨"com/example/huntaway/huntaway/ObligationEqualsPinLaw", "same", "(II)Z"⟩ : MethodName)) hown42 (hw _ (List.mem_of_getElem? (i := 82) rfl)) (hw _ (List.mem_of_getElem? (i := 83) rfl)) (hw _ (List.mem_of_getElem? (i := 5) rfl)) (hw _ (List.mem_of_getElem? (i := 84) rfl)) (by decide) (backC (W := 0) (rm_same l Z a0 hw p1 v7 h42 n0 (by omega)) hZ42 (hw _ (List.mem_of_getElem? (i := 84) rfl)) (hw _ (List.mem_of_getElem? (i := 5) rfl)) (by decide) (by decide)) e42 (argsL := [(.int p1), (.int v7)]) (rest := []) rfl rfl pd_13 rfl (by rw [hml]; rfl) (hb hby at_78) (Nat.le_of_eq rfl) (by decide) (by decide) k47
    have k48 : To p.tables e below S0 (T48.setTop (mkF m 81 l44 [(.int (if own_T p1 = own_T v7 then (1 : Int32) else (0 : Int32)))])) := k48a
    have N48 := N42.app Nq48
    have e48 : T48.heap = h42 := eq48
    by_cases hc81_49 : (if own_T p1 = own_T v7 then (1 : Int32) else (0 : Int32)) = (0 : Int32)
    · -- pc 81, holds
      let l50 : Array Slot := #[.val (.int p1), .val (.int p2), .val (.int p3), .val (.int p4), .val (.int md), .val (.int kd), .val (.int v7), .val (.int v14), .val (.ref b17), .val (.ref b31), .val (.int (kd &&& (3 : Int32))), .val (.int (0 : Int32))]
      have k51 : To p.tables e below S0 (T48.setTop (mkF m 104 l50 [(.ref b31), (.ref b17)])) := fun tt hq => k48 tt (by
        show Steps _ _ _ (T48.setTop (mkF m 81 l44 [(.int (if own_T p1 = own_T v7 then (1 : Int32) else (0 : Int32)))])) _
        refine XS.ifYes X48.here hx rfl (pc0 := 81) (pc' := 97) rfl (hb hby at_81) rfl ((if0 _ _).trans (teq hc81_49).1) (by decide) (by decide) ?_
        show Steps _ _ _ (T48.setTop (mkF m 97 l44 [])) _
        refine XS.iconst X48.here hx rfl (hb hby at_97) ?_
        show Steps _ _ _ (T48.setTop (mkF m 98 l44 [(.int (0 : Int32))])) _
        refine XS.istore X48.here hx rfl (hb hby at_98) rfl (l' := l50) rfl ?_
        show Steps _ _ _ (T48.setTop (mkF m 100 l50 [])) _
        refine XS.aload X48.here hx rfl (hb hby at_100) rfl rfl ?_
        show Steps _ _ _ (T48.setTop (mkF m 102 l50 [(.ref b17)])) _
        refine XS.aload X48.here hx rfl (hb hby at_102) rfl rfl ?_
        show Steps _ _ _ (T48.setTop (mkF m 104 l50 [(.ref b31), (.ref b17)])) _
        exact hq)
      have f52 : Old Z n0 h42 := ((f36.keep Kq37 all0).keep Kq42 (allS (by omega) all0))
      have f53 : Exa Z h42 b17 "com/example/huntaway/huntaway/Obligation" := ((((P280.ext E31).keep Kq34).keep Kq37).keep Kq42)
      have f54 : Fld Z h42 b17 "com/example/huntaway/huntaway/Obligation" "policy" "Ljava/lang/String;" (.ref a20) := ((((P281.ext E31).keep Kq34 nin0).keep Kq37 nin0).keep Kq42 (ninS (adr_ne (by omega)) nin0))
      have f55 : Fld Z h42 b17 "com/example/huntaway/huntaway/Obligation" "controls" "Ljava/lang/String;" (.ref a23) := ((((P282.ext E31).keep Kq34 nin0).keep Kq37 nin0).keep Kq42 (ninS (adr_ne (by omega)) nin0))
      have f56 : Tx Z h42 a20 (own_T p1) := (txKeepP (txKeep0 (txKeep0 (txExt (txKeepP (txKeep0 S20 Kq23) Kq28 f24 (hw _ (List.mem_of_getElem? (i := 1) rfl))) E31) Kq34) Kq37) Kq42 f38 (hw _ (List.mem_of_getElem? (i := 1) rfl)))
      have f57 : Tx Z h42 a23 (own_T p2) := (txKeepP (txKeep0 (txKeep0 (txExt (txKeepP S23 Kq28 f24 (hw _ (List.mem_of_getElem? (i := 1) rfl))) E31) Kq34) Kq37) Kq42 f38 (hw _ (List.mem_of_getElem? (i := 1) rfl)))
      have f58 : Tx Z h42 a34 (own_T v7) := (txKeepP (txKeep0 S34 Kq37) Kq42 f38 (hw _ (List.mem_of_getElem? (i := 1) rfl)))
      have f59 : Tx Z h42 a37 (own_T v14) := (txKeepP S37 Kq42 f38 (hw _ (List.mem_of_getElem? (i := 1) rfl)))
      have f60 : Exa Z h42 a20 "java/lang/String" := (((((f27.keep Kq28).ext E31).keep Kq34).keep Kq37).keep Kq42)
      have f61 : Exa Z h42 a23 "java/lang/String" := (((((S23.1.keep Kq28).ext E31).keep Kq34).keep Kq37).keep Kq42)
      have f62 : Exa Z h42 a34 "java/lang/String" := (f41.keep Kq42)
      have f63 : Exa Z h42 a37 "java/lang/String" := (S37.1.keep Kq42)
      obtain ⟨_, T64, L64, X64, ⟨rfl, Nq64, eq64⟩, k64a⟩ := callV' X48 hx hZ42 (y := (⟨"com/example/huntaway/huntaway/Obligation", "equals", "(Ljava/lang/Object;)Z"⟩ : MethodName)) (z := (⟨"com/example/huntaway/huntaway/Obligation", "equals", "(Ljava/lang/Object;)Z"⟩ : MethodName)) hown42 (hw _ (List.mem_of_getElem? (i := 68) rfl)) (hw _ (List.mem_of_getElem? (i := 69) rfl)) (notFace_of_selects (args := #[]) (mvT hZ42 (hw _ (List.mem_of_getElem? (i := 71) rfl)))) (hw _ (List.mem_of_getElem? (i := 71) rfl)) (hw _ (List.mem_of_getElem? (i := 70) rfl)) (by decide) f53 (backC (W := 0) (rm_oeq l Z a0 hw zc b17 b31 a20 a23 a34 a37 (own_T p1) (own_T p2) (own_T v7) (own_T v14) h42 n0 (by omega) S_c hzc f52 f53 f54 f55 P420 P421 P422 f56 f57 f58 f59 f60 f61 f62 f63 (by omega) (by omega)) hZ42 (hw _ (List.mem_of_getElem? (i := 72) rfl)) (hw _ (List.mem_of_getElem? (i := 2) rfl)) (by decide) (by decide)) e48 (argsL := [(.ref b31)]) (rest := []) rfl rfl pd_10 rfl (by rw [hml]; rfl) (hb hby at_104) (Nat.le_of_eq rfl) (by decide) (by decide) k51
      have k64 : To p.tables e below S0 (T64.setTop (mkF m 107 l50 [(.int (if (own_T p1) = (own_T v7) ∧ (own_T p2) = (own_T v14) then (1 : Int32) else (0 : Int32)))])) := k64a
      have N64 := N48.app Nq64
      have e64 : T64.heap = h42 := eq64
      have k65 : To p.tables e below S0 (T64.setTop (mkF m 109 l50 [(.int (0 : Int32)), (.int (if (own_T p1) = (own_T v7) ∧ (own_T p2) = (own_T v14) then (1 : Int32) else (0 : Int32)))])) := fun tt hq => k64 tt (by
        show Steps _ _ _ (T64.setTop (mkF m 107 l50 [(.int (if (own_T p1) = (own_T v7) ∧ (own_T p2) = (own_T v14) then (1 : Int32) else (0 : Int32)))])) _
        refine XS.iload X64.here hx rfl (hb hby at_107) rfl ?_
        show Steps _ _ _ (T64.setTop (mkF m 109 l50 [(.int (0 : Int32)), (.int (if (own_T p1) = (own_T v7) ∧ (own_T p2) = (own_T v14) then (1 : Int32) else (0 : Int32)))])) _
        exact hq)
      by_cases hc109_66 : (if (own_T p1) = (own_T v7) ∧ (own_T p2) = (own_T v14) then (1 : Int32) else (0 : Int32)) = (0 : Int32)
      · -- pc 109, holds
        have k67 : To p.tables e below S0 (T64.setTop (mkF m 116 l50 [(.ref b17), (.ref b31)])) := fun tt hq => k65 tt (by
          show Steps _ _ _ (T64.setTop (mkF m 109 l50 [(.int (0 : Int32)), (.int (if (own_T p1) = (own_T v7) ∧ (own_T p2) = (own_T v14) then (1 : Int32) else (0 : Int32)))])) _
          refine XS.icmpNo X64.here hx rfl (hb hby at_109) rfl (teq hc109_66).2 ?_
          show Steps _ _ _ (T64.setTop (mkF m 112 l50 [])) _
          refine XS.aload X64.here hx rfl (hb hby at_112) rfl rfl ?_
          show Steps _ _ _ (T64.setTop (mkF m 114 l50 [(.ref b31)])) _
          refine XS.aload X64.here hx rfl (hb hby at_114) rfl rfl ?_
          show Steps _ _ _ (T64.setTop (mkF m 116 l50 [(.ref b17), (.ref b31)])) _
          exact hq)
        obtain ⟨_, T68, L68, X68, ⟨rfl, Nq68, eq68⟩, k68a⟩ := callV' X64 hx hZ42 (y := (⟨"com/example/huntaway/huntaway/Obligation", "equals", "(Ljava/lang/Object;)Z"⟩ : MethodName)) (z := (⟨"com/example/huntaway/huntaway/Obligation", "equals", "(Ljava/lang/Object;)Z"⟩ : MethodName)) hown42 (hw _ (List.mem_of_getElem? (i := 68) rfl)) (hw _ (List.mem_of_getElem? (i := 69) rfl)) (notFace_of_selects (args := #[]) (mvT hZ42 (hw _ (List.mem_of_getElem? (i := 71) rfl)))) (hw _ (List.mem_of_getElem? (i := 71) rfl)) (hw _ (List.mem_of_getElem? (i := 70) rfl)) (by decide) P420 (backC (W := 0) (rm_oeq l Z a0 hw zc b31 b17 a34 a37 a20 a23 (own_T v7) (own_T v14) (own_T p1) (own_T p2) h42 n0 (by omega) S_c hzc f52 P420 P421 P422 f53 f54 f55 f58 f59 f56 f57 f62 f63 f60 f61 (by omega) (by omega)) hZ42 (hw _ (List.mem_of_getElem? (i := 72) rfl)) (hw _ (List.mem_of_getElem? (i := 2) rfl)) (by decide) (by decide)) e64 (argsL := [(.ref b17)]) (rest := []) rfl rfl pd_10 rfl (by rw [hml]; rfl) (hb hby at_116) (Nat.le_of_eq rfl) (by decide) (by decide) k67
        have k68 : To p.tables e below S0 (T68.setTop (mkF m 119 l50 [(.int (if (own_T v7) = (own_T p1) ∧ (own_T v14) = (own_T p2) then (1 : Int32) else (0 : Int32)))])) := k68a
        have N68 := N64.app Nq68
        have e68 : T68.heap = h42 := eq68
        have k69 : To p.tables e below S0 (T68.setTop (mkF m 121 l50 [(.int (0 : Int32)), (.int (if (own_T v7) = (own_T p1) ∧ (own_T v14) = (own_T p2) then (1 : Int32) else (0 : Int32)))])) := fun tt hq => k68 tt (by
          show Steps _ _ _ (T68.setTop (mkF m 119 l50 [(.int (if (own_T v7) = (own_T p1) ∧ (own_T v14) = (own_T p2) then (1 : Int32) else (0 : Int32)))])) _
          refine XS.iload X68.here hx rfl (hb hby at_119) rfl ?_
          show Steps _ _ _ (T68.setTop (mkF m 121 l50 [(.int (0 : Int32)), (.int (if (own_T v7) = (own_T p1) ∧ (own_T v14) = (own_T p2) then (1 : Int32) else (0 : Int32)))])) _
          exact hq)
        by_cases hc121_70 : (if (own_T v7) = (own_T p1) ∧ (own_T v14) = (own_T p2) then (1 : Int32) else (0 : Int32)) = (0 : Int32)
        · -- pc 121, holds
          have k71 : To p.tables e below S0 (T68.setTop (mkF m 129 l50 [(.int (1 : Int32))])) := fun tt hq => k69 tt (by
            show Steps _ _ _ (T68.setTop (mkF m 121 l50 [(.int (0 : Int32)), (.int (if (own_T v7) = (own_T p1) ∧ (own_T v14) = (own_T p2) then (1 : Int32) else (0 : Int32)))])) _
            refine XS.icmpNo X68.here hx rfl (hb hby at_121) rfl (teq hc121_70).2 ?_
            show Steps _ _ _ (T68.setTop (mkF m 124 l50 [])) _
            refine XS.iconst X68.here hx rfl (hb hby at_124) ?_
            show Steps _ _ _ (T68.setTop (mkF m 125 l50 [(.int (1 : Int32))])) _
            refine XS.goto X68.here hx rfl (pc0 := 125) (pc' := 129) rfl (hb hby at_125) (by decide) (by decide) ?_
            show Steps _ _ _ (T68.setTop (mkF m 129 l50 [(.int (1 : Int32))])) _
            exact hq)
          refine retIntW X68 hx hZ42 (own_EW hw) hS42 (by omega) C42 e68 hret hlk (by simp) rfl (hb hby at_129) k71 ?_ (by decide) (by decide)
          exact ⟨rfl, N68⟩
        · -- pc 121, holds not
          exact absurd (own_ifT hc121_70).1.symm (own_ifF hc81_49)
      · -- pc 109, holds not
        exact absurd (own_ifT hc109_66).1 (own_ifF hc81_49)
    · -- pc 81, holds not
      have k72 : To p.tables e below S0 (T48.setTop (mkF m 87 l44 [(.int v14), (.int p2)])) := fun tt hq => k48 tt (by
        show Steps _ _ _ (T48.setTop (mkF m 81 l44 [(.int (if own_T p1 = own_T v7 then (1 : Int32) else (0 : Int32)))])) _
        refine XS.ifNo X48.here hx rfl (hb hby at_81) rfl ((if0 _ _).trans (feq hc81_49).1) ?_
        show Steps _ _ _ (T48.setTop (mkF m 84 l44 [])) _
        refine XS.iloadN X48.here hx rfl (hb hby at_84) rfl ?_
        show Steps _ _ _ (T48.setTop (mkF m 85 l44 [(.int p2)])) _
        refine XS.iload X48.here hx rfl (hb hby at_85) rfl ?_
        show Steps _ _ _ (T48.setTop (mkF m 87 l44 [(.int v14), (.int p2)])) _
        exact hq)
      obtain ⟨_, T73, L73, X73, ⟨rfl, Nq73, eq73⟩, k73a⟩ := callS' X48 hx hZ42 (y := (⟨"com/example/huntaway/huntaway/ObligationEqualsPinLaw", "same", "(II)Z"⟩ : MethodName)) hown42 (hw _ (List.mem_of_getElem? (i := 82) rfl)) (hw _ (List.mem_of_getElem? (i := 83) rfl)) (hw _ (List.mem_of_getElem? (i := 5) rfl)) (hw _ (List.mem_of_getElem? (i := 84) rfl)) (by decide) (backC (W := 0) (rm_same l Z a0 hw p2 v14 h42 n0 (by omega)) hZ42 (hw _ (List.mem_of_getElem? (i := 84) rfl)) (hw _ (List.mem_of_getElem? (i := 5) rfl)) (by decide) (by decide)) e48 (argsL := [(.int p2), (.int v14)]) (rest := []) rfl rfl pd_13 rfl (by rw [hml]; rfl) (hb hby at_87) (Nat.le_of_eq rfl) (by decide) (by decide) k72
      have k73 : To p.tables e below S0 (T73.setTop (mkF m 90 l44 [(.int (if own_T p2 = own_T v14 then (1 : Int32) else (0 : Int32)))])) := k73a
      have N73 := N48.app Nq73
      have e73 : T73.heap = h42 := eq73
      by_cases hc90_74 : (if own_T p2 = own_T v14 then (1 : Int32) else (0 : Int32)) = (0 : Int32)
      · -- pc 90, holds
        let l75 : Array Slot := #[.val (.int p1), .val (.int p2), .val (.int p3), .val (.int p4), .val (.int md), .val (.int kd), .val (.int v7), .val (.int v14), .val (.ref b17), .val (.ref b31), .val (.int (kd &&& (3 : Int32))), .val (.int (0 : Int32))]
        have k76 : To p.tables e below S0 (T73.setTop (mkF m 104 l75 [(.ref b31), (.ref b17)])) := fun tt hq => k73 tt (by
          show Steps _ _ _ (T73.setTop (mkF m 90 l44 [(.int (if own_T p2 = own_T v14 then (1 : Int32) else (0 : Int32)))])) _
          refine XS.ifYes X73.here hx rfl (pc0 := 90) (pc' := 97) rfl (hb hby at_90) rfl ((if0 _ _).trans (teq hc90_74).1) (by decide) (by decide) ?_
          show Steps _ _ _ (T73.setTop (mkF m 97 l44 [])) _
          refine XS.iconst X73.here hx rfl (hb hby at_97) ?_
          show Steps _ _ _ (T73.setTop (mkF m 98 l44 [(.int (0 : Int32))])) _
          refine XS.istore X73.here hx rfl (hb hby at_98) rfl (l' := l75) rfl ?_
          show Steps _ _ _ (T73.setTop (mkF m 100 l75 [])) _
          refine XS.aload X73.here hx rfl (hb hby at_100) rfl rfl ?_
          show Steps _ _ _ (T73.setTop (mkF m 102 l75 [(.ref b17)])) _
          refine XS.aload X73.here hx rfl (hb hby at_102) rfl rfl ?_
          show Steps _ _ _ (T73.setTop (mkF m 104 l75 [(.ref b31), (.ref b17)])) _
          exact hq)
        have f77 : Old Z n0 h42 := ((f36.keep Kq37 all0).keep Kq42 (allS (by omega) all0))
        have f78 : Exa Z h42 b17 "com/example/huntaway/huntaway/Obligation" := ((((P280.ext E31).keep Kq34).keep Kq37).keep Kq42)
        have f79 : Fld Z h42 b17 "com/example/huntaway/huntaway/Obligation" "policy" "Ljava/lang/String;" (.ref a20) := ((((P281.ext E31).keep Kq34 nin0).keep Kq37 nin0).keep Kq42 (ninS (adr_ne (by omega)) nin0))
        have f80 : Fld Z h42 b17 "com/example/huntaway/huntaway/Obligation" "controls" "Ljava/lang/String;" (.ref a23) := ((((P282.ext E31).keep Kq34 nin0).keep Kq37 nin0).keep Kq42 (ninS (adr_ne (by omega)) nin0))
        have f81 : Tx Z h42 a20 (own_T p1) := (txKeepP (txKeep0 (txKeep0 (txExt (txKeepP (txKeep0 S20 Kq23) Kq28 f24 (hw _ (List.mem_of_getElem? (i := 1) rfl))) E31) Kq34) Kq37) Kq42 f38 (hw _ (List.mem_of_getElem? (i := 1) rfl)))
        have f82 : Tx Z h42 a23 (own_T p2) := (txKeepP (txKeep0 (txKeep0 (txExt (txKeepP S23 Kq28 f24 (hw _ (List.mem_of_getElem? (i := 1) rfl))) E31) Kq34) Kq37) Kq42 f38 (hw _ (List.mem_of_getElem? (i := 1) rfl)))
        have f83 : Tx Z h42 a34 (own_T v7) := (txKeepP (txKeep0 S34 Kq37) Kq42 f38 (hw _ (List.mem_of_getElem? (i := 1) rfl)))
        have f84 : Tx Z h42 a37 (own_T v14) := (txKeepP S37 Kq42 f38 (hw _ (List.mem_of_getElem? (i := 1) rfl)))
        have f85 : Exa Z h42 a20 "java/lang/String" := (((((f27.keep Kq28).ext E31).keep Kq34).keep Kq37).keep Kq42)
        have f86 : Exa Z h42 a23 "java/lang/String" := (((((S23.1.keep Kq28).ext E31).keep Kq34).keep Kq37).keep Kq42)
        have f87 : Exa Z h42 a34 "java/lang/String" := (f41.keep Kq42)
        have f88 : Exa Z h42 a37 "java/lang/String" := (S37.1.keep Kq42)
        obtain ⟨_, T89, L89, X89, ⟨rfl, Nq89, eq89⟩, k89a⟩ := callV' X73 hx hZ42 (y := (⟨"com/example/huntaway/huntaway/Obligation", "equals", "(Ljava/lang/Object;)Z"⟩ : MethodName)) (z := (⟨"com/example/huntaway/huntaway/Obligation", "equals", "(Ljava/lang/Object;)Z"⟩ : MethodName)) hown42 (hw _ (List.mem_of_getElem? (i := 68) rfl)) (hw _ (List.mem_of_getElem? (i := 69) rfl)) (notFace_of_selects (args := #[]) (mvT hZ42 (hw _ (List.mem_of_getElem? (i := 71) rfl)))) (hw _ (List.mem_of_getElem? (i := 71) rfl)) (hw _ (List.mem_of_getElem? (i := 70) rfl)) (by decide) f78 (backC (W := 0) (rm_oeq l Z a0 hw zc b17 b31 a20 a23 a34 a37 (own_T p1) (own_T p2) (own_T v7) (own_T v14) h42 n0 (by omega) S_c hzc f77 f78 f79 f80 P420 P421 P422 f81 f82 f83 f84 f85 f86 f87 f88 (by omega) (by omega)) hZ42 (hw _ (List.mem_of_getElem? (i := 72) rfl)) (hw _ (List.mem_of_getElem? (i := 2) rfl)) (by decide) (by decide)) e73 (argsL := [(.ref b31)]) (rest := []) rfl rfl pd_10 rfl (by rw [hml]; rfl) (hb hby at_104) (Nat.le_of_eq rfl) (by decide) (by decide) k76
        have k89 : To p.tables e below S0 (T89.setTop (mkF m 107 l75 [(.int (if (own_T p1) = (own_T v7) ∧ (own_T p2) = (own_T v14) then (1 : Int32) else (0 : Int32)))])) := k89a
        have N89 := N73.app Nq89
        have e89 : T89.heap = h42 := eq89
        have k90 : To p.tables e below S0 (T89.setTop (mkF m 109 l75 [(.int (0 : Int32)), (.int (if (own_T p1) = (own_T v7) ∧ (own_T p2) = (own_T v14) then (1 : Int32) else (0 : Int32)))])) := fun tt hq => k89 tt (by
          show Steps _ _ _ (T89.setTop (mkF m 107 l75 [(.int (if (own_T p1) = (own_T v7) ∧ (own_T p2) = (own_T v14) then (1 : Int32) else (0 : Int32)))])) _
          refine XS.iload X89.here hx rfl (hb hby at_107) rfl ?_
          show Steps _ _ _ (T89.setTop (mkF m 109 l75 [(.int (0 : Int32)), (.int (if (own_T p1) = (own_T v7) ∧ (own_T p2) = (own_T v14) then (1 : Int32) else (0 : Int32)))])) _
          exact hq)
        by_cases hc109_91 : (if (own_T p1) = (own_T v7) ∧ (own_T p2) = (own_T v14) then (1 : Int32) else (0 : Int32)) = (0 : Int32)
        · -- pc 109, holds
          have k92 : To p.tables e below S0 (T89.setTop (mkF m 116 l75 [(.ref b17), (.ref b31)])) := fun tt hq => k90 tt (by
            show Steps _ _ _ (T89.setTop (mkF m 109 l75 [(.int (0 : Int32)), (.int (if (own_T p1) = (own_T v7) ∧ (own_T p2) = (own_T v14) then (1 : Int32) else (0 : Int32)))])) _
            refine XS.icmpNo X89.here hx rfl (hb hby at_109) rfl (teq hc109_91).2 ?_
            show Steps _ _ _ (T89.setTop (mkF m 112 l75 [])) _
            refine XS.aload X89.here hx rfl (hb hby at_112) rfl rfl ?_
            show Steps _ _ _ (T89.setTop (mkF m 114 l75 [(.ref b31)])) _
            refine XS.aload X89.here hx rfl (hb hby at_114) rfl rfl ?_
            show Steps _ _ _ (T89.setTop (mkF m 116 l75 [(.ref b17), (.ref b31)])) _
            exact hq)
          obtain ⟨_, T93, L93, X93, ⟨rfl, Nq93, eq93⟩, k93a⟩ := callV' X89 hx hZ42 (y := (⟨"com/example/huntaway/huntaway/Obligation", "equals", "(Ljava/lang/Object;)Z"⟩ : MethodName)) (z := (⟨"com/example/huntaway/huntaway/Obligation", "equals", "(Ljava/lang/Object;)Z"⟩ : MethodName)) hown42 (hw _ (List.mem_of_getElem? (i := 68) rfl)) (hw _ (List.mem_of_getElem? (i := 69) rfl)) (notFace_of_selects (args := #[]) (mvT hZ42 (hw _ (List.mem_of_getElem? (i := 71) rfl)))) (hw _ (List.mem_of_getElem? (i := 71) rfl)) (hw _ (List.mem_of_getElem? (i := 70) rfl)) (by decide) P420 (backC (W := 0) (rm_oeq l Z a0 hw zc b31 b17 a34 a37 a20 a23 (own_T v7) (own_T v14) (own_T p1) (own_T p2) h42 n0 (by omega) S_c hzc f77 P420 P421 P422 f78 f79 f80 f83 f84 f81 f82 f87 f88 f85 f86 (by omega) (by omega)) hZ42 (hw _ (List.mem_of_getElem? (i := 72) rfl)) (hw _ (List.mem_of_getElem? (i := 2) rfl)) (by decide) (by decide)) e89 (argsL := [(.ref b17)]) (rest := []) rfl rfl pd_10 rfl (by rw [hml]; rfl) (hb hby at_116) (Nat.le_of_eq rfl) (by decide) (by decide) k92
          have k93 : To p.tables e below S0 (T93.setTop (mkF m 119 l75 [(.int (if (own_T v7) = (own_T p1) ∧ (own_T v14) = (own_T p2) then (1 : Int32) else (0 : Int32)))])) := k93a
          have N93 := N89.app Nq93
          have e93 : T93.heap = h42 := eq93
          have k94 : To p.tables e below S0 (T93.setTop (mkF m 121 l75 [(.int (0 : Int32)), (.int (if (own_T v7) = (own_T p1) ∧ (own_T v14) = (own_T p2) then (1 : Int32) else (0 : Int32)))])) := fun tt hq => k93 tt (by
            show Steps _ _ _ (T93.setTop (mkF m 119 l75 [(.int (if (own_T v7) = (own_T p1) ∧ (own_T v14) = (own_T p2) then (1 : Int32) else (0 : Int32)))])) _
            refine XS.iload X93.here hx rfl (hb hby at_119) rfl ?_
            show Steps _ _ _ (T93.setTop (mkF m 121 l75 [(.int (0 : Int32)), (.int (if (own_T v7) = (own_T p1) ∧ (own_T v14) = (own_T p2) then (1 : Int32) else (0 : Int32)))])) _
            exact hq)
          by_cases hc121_95 : (if (own_T v7) = (own_T p1) ∧ (own_T v14) = (own_T p2) then (1 : Int32) else (0 : Int32)) = (0 : Int32)
          · -- pc 121, holds
            have k96 : To p.tables e below S0 (T93.setTop (mkF m 129 l75 [(.int (1 : Int32))])) := fun tt hq => k94 tt (by
              show Steps _ _ _ (T93.setTop (mkF m 121 l75 [(.int (0 : Int32)), (.int (if (own_T v7) = (own_T p1) ∧ (own_T v14) = (own_T p2) then (1 : Int32) else (0 : Int32)))])) _
              refine XS.icmpNo X93.here hx rfl (hb hby at_121) rfl (teq hc121_95).2 ?_
              show Steps _ _ _ (T93.setTop (mkF m 124 l75 [])) _
              refine XS.iconst X93.here hx rfl (hb hby at_124) ?_
              show Steps _ _ _ (T93.setTop (mkF m 125 l75 [(.int (1 : Int32))])) _
              refine XS.goto X93.here hx rfl (pc0 := 125) (pc' := 129) rfl (hb hby at_125) (by decide) (by decide) ?_
              show Steps _ _ _ (T93.setTop (mkF m 129 l75 [(.int (1 : Int32))])) _
              exact hq)
            refine retIntW X93 hx hZ42 (own_EW hw) hS42 (by omega) C42 e93 hret hlk (by simp) rfl (hb hby at_129) k96 ?_ (by decide) (by decide)
            exact ⟨rfl, N93⟩
          · -- pc 121, holds not
            exact absurd (own_ifT hc121_95).2.symm (own_ifF hc90_74)
        · -- pc 109, holds not
          exact absurd (own_ifT hc109_91).2 (own_ifF hc90_74)
      · -- pc 90, holds not
        let l97 : Array Slot := #[.val (.int p1), .val (.int p2), .val (.int p3), .val (.int p4), .val (.int md), .val (.int kd), .val (.int v7), .val (.int v14), .val (.ref b17), .val (.ref b31), .val (.int (kd &&& (3 : Int32))), .val (.int (1 : Int32))]
        have k98 : To p.tables e below S0 (T73.setTop (mkF m 104 l97 [(.ref b31), (.ref b17)])) := fun tt hq => k73 tt (by
          show Steps _ _ _ (T73.setTop (mkF m 90 l44 [(.int (if own_T p2 = own_T v14 then (1 : Int32) else (0 : Int32)))])) _
          refine XS.ifNo X73.here hx rfl (hb hby at_90) rfl ((if0 _ _).trans (feq hc90_74).1) ?_
          show Steps _ _ _ (T73.setTop (mkF m 93 l44 [])) _
          refine XS.iconst X73.here hx rfl (hb hby at_93) ?_
          show Steps _ _ _ (T73.setTop (mkF m 94 l44 [(.int (1 : Int32))])) _
          refine XS.goto X73.here hx rfl (pc0 := 94) (pc' := 98) rfl (hb hby at_94) (by decide) (by decide) ?_
          show Steps _ _ _ (T73.setTop (mkF m 98 l44 [(.int (1 : Int32))])) _
          refine XS.istore X73.here hx rfl (hb hby at_98) rfl (l' := l97) rfl ?_
          show Steps _ _ _ (T73.setTop (mkF m 100 l97 [])) _
          refine XS.aload X73.here hx rfl (hb hby at_100) rfl rfl ?_
          show Steps _ _ _ (T73.setTop (mkF m 102 l97 [(.ref b17)])) _
          refine XS.aload X73.here hx rfl (hb hby at_102) rfl rfl ?_
          show Steps _ _ _ (T73.setTop (mkF m 104 l97 [(.ref b31), (.ref b17)])) _
          exact hq)
        have f99 : Old Z n0 h42 := ((f36.keep Kq37 all0).keep Kq42 (allS (by omega) all0))
        have f100 : Exa Z h42 b17 "com/example/huntaway/huntaway/Obligation" := ((((P280.ext E31).keep Kq34).keep Kq37).keep Kq42)
        have f101 : Fld Z h42 b17 "com/example/huntaway/huntaway/Obligation" "policy" "Ljava/lang/String;" (.ref a20) := ((((P281.ext E31).keep Kq34 nin0).keep Kq37 nin0).keep Kq42 (ninS (adr_ne (by omega)) nin0))
        have f102 : Fld Z h42 b17 "com/example/huntaway/huntaway/Obligation" "controls" "Ljava/lang/String;" (.ref a23) := ((((P282.ext E31).keep Kq34 nin0).keep Kq37 nin0).keep Kq42 (ninS (adr_ne (by omega)) nin0))
        have f103 : Tx Z h42 a20 (own_T p1) := (txKeepP (txKeep0 (txKeep0 (txExt (txKeepP (txKeep0 S20 Kq23) Kq28 f24 (hw _ (List.mem_of_getElem? (i := 1) rfl))) E31) Kq34) Kq37) Kq42 f38 (hw _ (List.mem_of_getElem? (i := 1) rfl)))
        have f104 : Tx Z h42 a23 (own_T p2) := (txKeepP (txKeep0 (txKeep0 (txExt (txKeepP S23 Kq28 f24 (hw _ (List.mem_of_getElem? (i := 1) rfl))) E31) Kq34) Kq37) Kq42 f38 (hw _ (List.mem_of_getElem? (i := 1) rfl)))
        have f105 : Tx Z h42 a34 (own_T v7) := (txKeepP (txKeep0 S34 Kq37) Kq42 f38 (hw _ (List.mem_of_getElem? (i := 1) rfl)))
        have f106 : Tx Z h42 a37 (own_T v14) := (txKeepP S37 Kq42 f38 (hw _ (List.mem_of_getElem? (i := 1) rfl)))
        have f107 : Exa Z h42 a20 "java/lang/String" := (((((f27.keep Kq28).ext E31).keep Kq34).keep Kq37).keep Kq42)
        have f108 : Exa Z h42 a23 "java/lang/String" := (((((S23.1.keep Kq28).ext E31).keep Kq34).keep Kq37).keep Kq42)
        have f109 : Exa Z h42 a34 "java/lang/String" := (f41.keep Kq42)
        have f110 : Exa Z h42 a37 "java/lang/String" := (S37.1.keep Kq42)
        obtain ⟨_, T111, L111, X111, ⟨rfl, Nq111, eq111⟩, k111a⟩ := callV' X73 hx hZ42 (y := (⟨"com/example/huntaway/huntaway/Obligation", "equals", "(Ljava/lang/Object;)Z"⟩ : MethodName)) (z := (⟨"com/example/huntaway/huntaway/Obligation", "equals", "(Ljava/lang/Object;)Z"⟩ : MethodName)) hown42 (hw _ (List.mem_of_getElem? (i := 68) rfl)) (hw _ (List.mem_of_getElem? (i := 69) rfl)) (notFace_of_selects (args := #[]) (mvT hZ42 (hw _ (List.mem_of_getElem? (i := 71) rfl)))) (hw _ (List.mem_of_getElem? (i := 71) rfl)) (hw _ (List.mem_of_getElem? (i := 70) rfl)) (by decide) f100 (backC (W := 0) (rm_oeq l Z a0 hw zc b17 b31 a20 a23 a34 a37 (own_T p1) (own_T p2) (own_T v7) (own_T v14) h42 n0 (by omega) S_c hzc f99 f100 f101 f102 P420 P421 P422 f103 f104 f105 f106 f107 f108 f109 f110 (by omega) (by omega)) hZ42 (hw _ (List.mem_of_getElem? (i := 72) rfl)) (hw _ (List.mem_of_getElem? (i := 2) rfl)) (by decide) (by decide)) e73 (argsL := [(.ref b31)]) (rest := []) rfl rfl pd_10 rfl (by rw [hml]; rfl) (hb hby at_104) (Nat.le_of_eq rfl) (by decide) (by decide) k98
        have k111 : To p.tables e below S0 (T111.setTop (mkF m 107 l97 [(.int (if (own_T p1) = (own_T v7) ∧ (own_T p2) = (own_T v14) then (1 : Int32) else (0 : Int32)))])) := k111a
        have N111 := N73.app Nq111
        have e111 : T111.heap = h42 := eq111
        have k112 : To p.tables e below S0 (T111.setTop (mkF m 109 l97 [(.int (1 : Int32)), (.int (if (own_T p1) = (own_T v7) ∧ (own_T p2) = (own_T v14) then (1 : Int32) else (0 : Int32)))])) := fun tt hq => k111 tt (by
          show Steps _ _ _ (T111.setTop (mkF m 107 l97 [(.int (if (own_T p1) = (own_T v7) ∧ (own_T p2) = (own_T v14) then (1 : Int32) else (0 : Int32)))])) _
          refine XS.iload X111.here hx rfl (hb hby at_107) rfl ?_
          show Steps _ _ _ (T111.setTop (mkF m 109 l97 [(.int (1 : Int32)), (.int (if (own_T p1) = (own_T v7) ∧ (own_T p2) = (own_T v14) then (1 : Int32) else (0 : Int32)))])) _
          exact hq)
        by_cases hc109_113 : (if (own_T p1) = (own_T v7) ∧ (own_T p2) = (own_T v14) then (1 : Int32) else (0 : Int32)) = (1 : Int32)
        · -- pc 109, holds
          have k114 : To p.tables e below S0 (T111.setTop (mkF m 116 l97 [(.ref b17), (.ref b31)])) := fun tt hq => k112 tt (by
            show Steps _ _ _ (T111.setTop (mkF m 109 l97 [(.int (1 : Int32)), (.int (if (own_T p1) = (own_T v7) ∧ (own_T p2) = (own_T v14) then (1 : Int32) else (0 : Int32)))])) _
            refine XS.icmpNo X111.here hx rfl (hb hby at_109) rfl (teq hc109_113).2 ?_
            show Steps _ _ _ (T111.setTop (mkF m 112 l97 [])) _
            refine XS.aload X111.here hx rfl (hb hby at_112) rfl rfl ?_
            show Steps _ _ _ (T111.setTop (mkF m 114 l97 [(.ref b31)])) _
            refine XS.aload X111.here hx rfl (hb hby at_114) rfl rfl ?_
            show Steps _ _ _ (T111.setTop (mkF m 116 l97 [(.ref b17), (.ref b31)])) _
            exact hq)
          obtain ⟨_, T115, L115, X115, ⟨rfl, Nq115, eq115⟩, k115a⟩ := callV' X111 hx hZ42 (y := (⟨"com/example/huntaway/huntaway/Obligation", "equals", "(Ljava/lang/Object;)Z"⟩ : MethodName)) (z := (⟨"com/example/huntaway/huntaway/Obligation", "equals", "(Ljava/lang/Object;)Z"⟩ : MethodName)) hown42 (hw _ (List.mem_of_getElem? (i := 68) rfl)) (hw _ (List.mem_of_getElem? (i := 69) rfl)) (notFace_of_selects (args := #[]) (mvT hZ42 (hw _ (List.mem_of_getElem? (i := 71) rfl)))) (hw _ (List.mem_of_getElem? (i := 71) rfl)) (hw _ (List.mem_of_getElem? (i := 70) rfl)) (by decide) P420 (backC (W := 0) (rm_oeq l Z a0 hw zc b31 b17 a34 a37 a20 a23 (own_T v7) (own_T v14) (own_T p1) (own_T p2) h42 n0 (by omega) S_c hzc f99 P420 P421 P422 f100 f101 f102 f105 f106 f103 f104 f109 f110 f107 f108 (by omega) (by omega)) hZ42 (hw _ (List.mem_of_getElem? (i := 72) rfl)) (hw _ (List.mem_of_getElem? (i := 2) rfl)) (by decide) (by decide)) e111 (argsL := [(.ref b17)]) (rest := []) rfl rfl pd_10 rfl (by rw [hml]; rfl) (hb hby at_116) (Nat.le_of_eq rfl) (by decide) (by decide) k114
          have k115 : To p.tables e below S0 (T115.setTop (mkF m 119 l97 [(.int (if (own_T v7) = (own_T p1) ∧ (own_T v14) = (own_T p2) then (1 : Int32) else (0 : Int32)))])) := k115a
          have N115 := N111.app Nq115
          have e115 : T115.heap = h42 := eq115
          have k116 : To p.tables e below S0 (T115.setTop (mkF m 121 l97 [(.int (1 : Int32)), (.int (if (own_T v7) = (own_T p1) ∧ (own_T v14) = (own_T p2) then (1 : Int32) else (0 : Int32)))])) := fun tt hq => k115 tt (by
            show Steps _ _ _ (T115.setTop (mkF m 119 l97 [(.int (if (own_T v7) = (own_T p1) ∧ (own_T v14) = (own_T p2) then (1 : Int32) else (0 : Int32)))])) _
            refine XS.iload X115.here hx rfl (hb hby at_119) rfl ?_
            show Steps _ _ _ (T115.setTop (mkF m 121 l97 [(.int (1 : Int32)), (.int (if (own_T v7) = (own_T p1) ∧ (own_T v14) = (own_T p2) then (1 : Int32) else (0 : Int32)))])) _
            exact hq)
          by_cases hc121_117 : (if (own_T v7) = (own_T p1) ∧ (own_T v14) = (own_T p2) then (1 : Int32) else (0 : Int32)) = (1 : Int32)
          · -- pc 121, holds
            have k118 : To p.tables e below S0 (T115.setTop (mkF m 129 l97 [(.int (1 : Int32))])) := fun tt hq => k116 tt (by
              show Steps _ _ _ (T115.setTop (mkF m 121 l97 [(.int (1 : Int32)), (.int (if (own_T v7) = (own_T p1) ∧ (own_T v14) = (own_T p2) then (1 : Int32) else (0 : Int32)))])) _
              refine XS.icmpNo X115.here hx rfl (hb hby at_121) rfl (teq hc121_117).2 ?_
              show Steps _ _ _ (T115.setTop (mkF m 124 l97 [])) _
              refine XS.iconst X115.here hx rfl (hb hby at_124) ?_
              show Steps _ _ _ (T115.setTop (mkF m 125 l97 [(.int (1 : Int32))])) _
              refine XS.goto X115.here hx rfl (pc0 := 125) (pc' := 129) rfl (hb hby at_125) (by decide) (by decide) ?_
              show Steps _ _ _ (T115.setTop (mkF m 129 l97 [(.int (1 : Int32))])) _
              exact hq)
            refine retIntW X115 hx hZ42 (own_EW hw) hS42 (by omega) C42 e115 hret hlk (by simp) rfl (hb hby at_129) k118 ?_ (by decide) (by decide)
            exact ⟨rfl, N115⟩
          · -- pc 121, holds not
            exact absurd (if_pos ⟨(own_ifT hc81_49).symm, (own_ifT hc90_74).symm⟩) hc121_117
        · -- pc 109, holds not
          exact absurd (if_pos ⟨(own_ifT hc81_49), (own_ifT hc90_74)⟩) hc109_113
  · -- pc 72, holds not
    have k119 : To p.tables e below S0 (T42.setTop (mkF m 133 l44 [(.int (1 : Int32)), (.int (kd &&& (3 : Int32)))])) := fun tt hq => k45 tt (by
      show Steps _ _ _ (T42.setTop (mkF m 72 l44 [(.int (kd &&& (3 : Int32)))])) _
      refine XS.ifYes X42.here hx rfl (pc0 := 72) (pc' := 130) rfl (hb hby at_72) rfl ((if0 _ _).trans (feq hc72_46).2) (by decide) (by decide) ?_
      show Steps _ _ _ (T42.setTop (mkF m 130 l44 [])) _
      refine XS.iload X42.here hx rfl (hb hby at_130) rfl ?_
      show Steps _ _ _ (T42.setTop (mkF m 132 l44 [(.int (kd &&& (3 : Int32)))])) _
      refine XS.iconst X42.here hx rfl (hb hby at_132) ?_
      show Steps _ _ _ (T42.setTop (mkF m 133 l44 [(.int (1 : Int32)), (.int (kd &&& (3 : Int32)))])) _
      exact hq)
    by_cases hc133_120 : (kd &&& (3 : Int32)) = (1 : Int32)
    · -- pc 133, holds
      have k121 : To p.tables e below S0 (T42.setTop (mkF m 139 l44 [.null, (.ref b17)])) := fun tt hq => k119 tt (by
        show Steps _ _ _ (T42.setTop (mkF m 133 l44 [(.int (1 : Int32)), (.int (kd &&& (3 : Int32)))])) _
        refine XS.icmpNo X42.here hx rfl (hb hby at_133) rfl (teq hc133_120).2 ?_
        show Steps _ _ _ (T42.setTop (mkF m 136 l44 [])) _
        refine XS.aload X42.here hx rfl (hb hby at_136) rfl rfl ?_
        show Steps _ _ _ (T42.setTop (mkF m 138 l44 [(.ref b17)])) _
        refine XS.aconstNull X42.here hx rfl (hb hby at_138) ?_
        show Steps _ _ _ (T42.setTop (mkF m 139 l44 [.null, (.ref b17)])) _
        exact hq)
      have f123 : Exa Z h42 b17 "com/example/huntaway/huntaway/Obligation" := ((((P280.ext E31).keep Kq34).keep Kq37).keep Kq42)
      obtain ⟨_, T122, L122, X122, ⟨rfl, Nq122, eq122⟩, k122a⟩ := callV' X42 hx hZ42 (y := (⟨"com/example/huntaway/huntaway/Obligation", "equals", "(Ljava/lang/Object;)Z"⟩ : MethodName)) (z := (⟨"com/example/huntaway/huntaway/Obligation", "equals", "(Ljava/lang/Object;)Z"⟩ : MethodName)) hown42 (hw _ (List.mem_of_getElem? (i := 68) rfl)) (hw _ (List.mem_of_getElem? (i := 69) rfl)) (notFace_of_selects (args := #[]) (mvT hZ42 (hw _ (List.mem_of_getElem? (i := 71) rfl)))) (hw _ (List.mem_of_getElem? (i := 71) rfl)) (hw _ (List.mem_of_getElem? (i := 70) rfl)) (by decide) f123 (backC (W := 0) (rm_onu l Z a0 hw b17 h42 n0 (by omega)) hZ42 (hw _ (List.mem_of_getElem? (i := 72) rfl)) (hw _ (List.mem_of_getElem? (i := 2) rfl)) (by decide) (by decide)) e42 (argsL := [.null]) (rest := []) rfl rfl pd_10 rfl (by rw [hml]; rfl) (hb hby at_139) (Nat.le_of_eq rfl) (by decide) (by decide) k121
      have k122 : To p.tables e below S0 (T122.setTop (mkF m 142 l44 [(.int (0 : Int32))])) := k122a
      have N122 := N42.app Nq122
      have e122 : T122.heap = h42 := eq122
      have k124 : To p.tables e below S0 (T122.setTop (mkF m 150 l44 [(.int (1 : Int32))])) := fun tt hq => k122 tt (by
        show Steps _ _ _ (T122.setTop (mkF m 142 l44 [(.int (0 : Int32))])) _
        refine XS.ifNo X122.here hx rfl (hb hby at_142) rfl ((if0 _ _).trans (teq (by decide)).2) ?_
        show Steps _ _ _ (T122.setTop (mkF m 145 l44 [])) _
        refine XS.iconst X122.here hx rfl (hb hby at_145) ?_
        show Steps _ _ _ (T122.setTop (mkF m 146 l44 [(.int (1 : Int32))])) _
        refine XS.goto X122.here hx rfl (pc0 := 146) (pc' := 150) rfl (hb hby at_146) (by decide) (by decide) ?_
        show Steps _ _ _ (T122.setTop (mkF m 150 l44 [(.int (1 : Int32))])) _
        exact hq)
      refine retIntW X122 hx hZ42 (own_EW hw) hS42 (by omega) C42 e122 hret hlk (by simp) rfl (hb hby at_150) k124 ?_ (by decide) (by decide)
      exact ⟨rfl, N122⟩
    · -- pc 133, holds not
      have k125 : To p.tables e below S0 (T42.setTop (mkF m 154 l44 [(.int (2 : Int32)), (.int (kd &&& (3 : Int32)))])) := fun tt hq => k119 tt (by
        show Steps _ _ _ (T42.setTop (mkF m 133 l44 [(.int (1 : Int32)), (.int (kd &&& (3 : Int32)))])) _
        refine XS.icmpYes X42.here hx rfl (pc0 := 133) (pc' := 151) rfl (hb hby at_133) rfl (feq hc133_120).2 (by decide) (by decide) ?_
        show Steps _ _ _ (T42.setTop (mkF m 151 l44 [])) _
        refine XS.iload X42.here hx rfl (hb hby at_151) rfl ?_
        show Steps _ _ _ (T42.setTop (mkF m 153 l44 [(.int (kd &&& (3 : Int32)))])) _
        refine XS.iconst X42.here hx rfl (hb hby at_153) ?_
        show Steps _ _ _ (T42.setTop (mkF m 154 l44 [(.int (2 : Int32)), (.int (kd &&& (3 : Int32)))])) _
        exact hq)
      by_cases hc154_126 : (kd &&& (3 : Int32)) = (2 : Int32)
      · -- pc 154, holds
        have k127 : To p.tables e below S0 (T42.setTop (mkF m 158 l44 [(.int p1)])) := fun tt hq => k125 tt (by
          show Steps _ _ _ (T42.setTop (mkF m 154 l44 [(.int (2 : Int32)), (.int (kd &&& (3 : Int32)))])) _
          refine XS.icmpNo X42.here hx rfl (hb hby at_154) rfl (teq hc154_126).2 ?_
          show Steps _ _ _ (T42.setTop (mkF m 157 l44 [])) _
          refine XS.iloadN X42.here hx rfl (hb hby at_157) rfl ?_
          show Steps _ _ _ (T42.setTop (mkF m 158 l44 [(.int p1)])) _
          exact hq)
        have f128 : Old Z n0 h42 := ((f36.keep Kq37 all0).keep Kq42 (allS (by omega) all0))
        obtain ⟨_, T129, L129, X129, ⟨a129, rfl, Nq129, ga129, Kq129, S129⟩, k129a, Cq129, hS129, hZ129, hown129⟩ := callSW X42 hx hZ42 (y := (⟨"com/example/huntaway/huntaway/ObligationEqualsPinLaw", "mk", "(I)Ljava/lang/String;"⟩ : MethodName)) hown42 hS42 (by omega) (hw _ (List.mem_of_getElem? (i := 3) rfl)) (hw _ (List.mem_of_getElem? (i := 4) rfl)) (hw _ (List.mem_of_getElem? (i := 5) rfl)) (hw _ (List.mem_of_getElem? (i := 6) rfl)) (by decide) (backOfW (W := 0) (rm_mk l Z a0 hw zc p1 h42 n0 (by omega) S_c hzc f128) hZ42 (hw _ (List.mem_of_getElem? (i := 6) rfl)) (hw _ (List.mem_of_getElem? (i := 5) rfl)) (by decide) (by decide) (own_EW hw) C42.1 all0) e42 (argsL := [(.int p1)]) (rest := []) rfl rfl pd_11 rfl (by rw [hml]; rfl) (hb hby at_158) (Nat.le_of_eq rfl) (by decide) (by decide) k127
        have k129 : To p.tables e below S0 (T129.setTop (mkF m 161 l44 [(.ref a129)])) := k129a
        have N129 := N42.app Nq129
        obtain ⟨h129, e129⟩ : ∃ z, T129.heap = z := ⟨_, rfl⟩
        rw [e129] at Kq129 S129 Cq129 hS129
        have z129 : h42.size ≤ h129.size := Kq129.1
        have C129 := C42.trans Cq129
        have y129 : @LT.lt Nat instLTNat a129 h129.size := S129.1.lt
        let l130 : Array Slot := #[.val (.int p1), .val (.int p2), .val (.int p3), .val (.int p4), .val (.int md), .val (.int kd), .val (.int v7), .val (.int v14), .val (.ref b17), .val (.ref b31), .val (.int (kd &&& (3 : Int32))), .val (.ref a129)]
        have k131 : To p.tables e below S0 (T129.setTop (mkF m 167 l130 [(.ref a129), (.ref b17)])) := fun tt hq => k129 tt (by
          show Steps _ _ _ (T129.setTop (mkF m 161 l44 [(.ref a129)])) _
          refine XS.astore X129.here hx rfl (hb hby at_161) rfl rfl (l' := l130) rfl ?_
          show Steps _ _ _ (T129.setTop (mkF m 163 l130 [])) _
          refine XS.aload X129.here hx rfl (hb hby at_163) rfl rfl ?_
          show Steps _ _ _ (T129.setTop (mkF m 165 l130 [(.ref b17)])) _
          refine XS.aload X129.here hx rfl (hb hby at_165) rfl rfl ?_
          show Steps _ _ _ (T129.setTop (mkF m 167 l130 [(.ref a129), (.ref b17)])) _
          exact hq)
        have f133 : Exa Z h129 b17 "com/example/huntaway/huntaway/Obligation" := (((((P280.ext E31).keep Kq34).keep Kq37).keep Kq42).keep Kq129)
        obtain ⟨_, T132, L132, X132, ⟨rfl, Nq132, eq132⟩, k132a⟩ := callV' X129 hx hZ129 (y := (⟨"com/example/huntaway/huntaway/Obligation", "equals", "(Ljava/lang/Object;)Z"⟩ : MethodName)) (z := (⟨"com/example/huntaway/huntaway/Obligation", "equals", "(Ljava/lang/Object;)Z"⟩ : MethodName)) hown129 (hw _ (List.mem_of_getElem? (i := 68) rfl)) (hw _ (List.mem_of_getElem? (i := 69) rfl)) (notFace_of_selects (args := #[]) (mvT hZ129 (hw _ (List.mem_of_getElem? (i := 71) rfl)))) (hw _ (List.mem_of_getElem? (i := 71) rfl)) (hw _ (List.mem_of_getElem? (i := 70) rfl)) (by decide) f133 (backC (W := 0) (rm_ost l Z a0 hw b17 a129 h129 n0 (by omega) S129.1) hZ129 (hw _ (List.mem_of_getElem? (i := 72) rfl)) (hw _ (List.mem_of_getElem? (i := 2) rfl)) (by decide) (by decide)) e129 (argsL := [(.ref a129)]) (rest := []) rfl rfl pd_10 rfl (by rw [hml]; rfl) (hb hby at_167) (Nat.le_of_eq rfl) (by decide) (by decide) k131
        have k132 : To p.tables e below S0 (T132.setTop (mkF m 170 l130 [(.int (0 : Int32))])) := k132a
        have N132 := N129.app Nq132
        have e132 : T132.heap = h129 := eq132
        have k134 : To p.tables e below S0 (T132.setTop (mkF m 178 l130 [(.int (1 : Int32))])) := fun tt hq => k132 tt (by
          show Steps _ _ _ (T132.setTop (mkF m 170 l130 [(.int (0 : Int32))])) _
          refine XS.ifNo X132.here hx rfl (hb hby at_170) rfl ((if0 _ _).trans (teq (by decide)).2) ?_
          show Steps _ _ _ (T132.setTop (mkF m 173 l130 [])) _
          refine XS.iconst X132.here hx rfl (hb hby at_173) ?_
          show Steps _ _ _ (T132.setTop (mkF m 174 l130 [(.int (1 : Int32))])) _
          refine XS.goto X132.here hx rfl (pc0 := 174) (pc' := 178) rfl (hb hby at_174) (by decide) (by decide) ?_
          show Steps _ _ _ (T132.setTop (mkF m 178 l130 [(.int (1 : Int32))])) _
          exact hq)
        refine retIntW X132 hx hZ129 (own_EW hw) hS129 (by omega) C129 e132 hret hlk (by simp) rfl (hb hby at_178) k134 ?_ (by decide) (by decide)
        exact ⟨rfl, N132⟩
      · -- pc 154, holds not
        have k135 : To p.tables e below S0 (T42.setTop (mkF m 183 l44 [(.ref b17), (.ref b17)])) := fun tt hq => k125 tt (by
          show Steps _ _ _ (T42.setTop (mkF m 154 l44 [(.int (2 : Int32)), (.int (kd &&& (3 : Int32)))])) _
          refine XS.icmpYes X42.here hx rfl (pc0 := 154) (pc' := 179) rfl (hb hby at_154) rfl (feq hc154_126).2 (by decide) (by decide) ?_
          show Steps _ _ _ (T42.setTop (mkF m 179 l44 [])) _
          refine XS.aload X42.here hx rfl (hb hby at_179) rfl rfl ?_
          show Steps _ _ _ (T42.setTop (mkF m 181 l44 [(.ref b17)])) _
          refine XS.aload X42.here hx rfl (hb hby at_181) rfl rfl ?_
          show Steps _ _ _ (T42.setTop (mkF m 183 l44 [(.ref b17), (.ref b17)])) _
          exact hq)
        have f136 : Old Z n0 h42 := ((f36.keep Kq37 all0).keep Kq42 (allS (by omega) all0))
        have f137 : Exa Z h42 b17 "com/example/huntaway/huntaway/Obligation" := ((((P280.ext E31).keep Kq34).keep Kq37).keep Kq42)
        have f138 : Fld Z h42 b17 "com/example/huntaway/huntaway/Obligation" "policy" "Ljava/lang/String;" (.ref a20) := ((((P281.ext E31).keep Kq34 nin0).keep Kq37 nin0).keep Kq42 (ninS (adr_ne (by omega)) nin0))
        have f139 : Fld Z h42 b17 "com/example/huntaway/huntaway/Obligation" "controls" "Ljava/lang/String;" (.ref a23) := ((((P282.ext E31).keep Kq34 nin0).keep Kq37 nin0).keep Kq42 (ninS (adr_ne (by omega)) nin0))
        have f140 : Exa Z h42 a20 "java/lang/String" := (((((f27.keep Kq28).ext E31).keep Kq34).keep Kq37).keep Kq42)
        have f141 : Exa Z h42 a23 "java/lang/String" := (((((S23.1.keep Kq28).ext E31).keep Kq34).keep Kq37).keep Kq42)
        obtain ⟨_, T142, L142, X142, ⟨rfl, Nq142, eq142⟩, k142a⟩ := callV' X42 hx hZ42 (y := (⟨"com/example/huntaway/huntaway/Obligation", "equals", "(Ljava/lang/Object;)Z"⟩ : MethodName)) (z := (⟨"com/example/huntaway/huntaway/Obligation", "equals", "(Ljava/lang/Object;)Z"⟩ : MethodName)) hown42 (hw _ (List.mem_of_getElem? (i := 68) rfl)) (hw _ (List.mem_of_getElem? (i := 69) rfl)) (notFace_of_selects (args := #[]) (mvT hZ42 (hw _ (List.mem_of_getElem? (i := 71) rfl)))) (hw _ (List.mem_of_getElem? (i := 71) rfl)) (hw _ (List.mem_of_getElem? (i := 70) rfl)) (by decide) f137 (backC (W := 0) (rm_ose l Z a0 hw zc b17 a20 a23 h42 n0 (by omega) S_c hzc f136 f137 f138 f139 f140 f141) hZ42 (hw _ (List.mem_of_getElem? (i := 72) rfl)) (hw _ (List.mem_of_getElem? (i := 2) rfl)) (by decide) (by decide)) e42 (argsL := [(.ref b17)]) (rest := []) rfl rfl pd_10 rfl (by rw [hml]; rfl) (hb hby at_183) (Nat.le_of_eq rfl) (by decide) (by decide) k135
        have k142 : To p.tables e below S0 (T142.setTop (mkF m 186 l44 [(.int (1 : Int32))])) := k142a
        have N142 := N42.app Nq142
        have e142 : T142.heap = h42 := eq142
        refine retIntW X142 hx hZ42 (own_EW hw) hS42 (by omega) C42 e142 hret hlk (by simp) rfl (hb hby at_186) k142 ?_ (by decide) (by decide)
        exact ⟨rfl, N142⟩
set_option maxRecDepth 65536 in
set_option maxHeartbeats 40000000 in
theorem comes_1 {Post : Tables → Env → Array Value → State → Outcome → State → Prop} (hpost : ∀ tb e args s v u, (limb_1_1.after args s (.returned v) u = true ∧ limb_1_2.after args s (.returned v) u = true ∧ True) → ReturnedEndW s (.returned v) u (Jvm.fieldLocs frame_1_writes args s ++ Jvm.arrayLocs frame_1_arrays args s ++ Jvm.staticLocs frame_1_statics s) 48 3264 → Post tb e args s (.returned v) u) :
    ArmFor flags0 classFile x code maxLocals ret World_1 tables_1 room_1 Calls_1 rest_1 Pre_1 Post := by
  intro l hfl _ _ p e ha hc hk s m args below hf hA hF happ hP
  obtain ⟨hcalls, hrest, hpre⟩ := hP
  obtain ⟨-, -, -, hnamed, -, -, -, hat⟩ := (Spec.applies_iff hf).mp happ
  obtain ⟨hg, hn⟩ := and_e (Cond.before_iff.mp (show (Jvm.Cond.and given_1 narrow_1).before args s = true from hpre))
  obtain ⟨u1, u2⟩ := and_e hg
  obtain ⟨u3, u4⟩ := and_e u2
  obtain ⟨u5, u6⟩ := and_e u4
  obtain ⟨u7, u8⟩ := and_e u6
  obtain ⟨u9, u10⟩ := and_e u8
  obtain ⟨u11, u12⟩ := and_e u10
  obtain ⟨w0, w1, w2, w3, w4, w5, rfl⟩ : ∃ w0 w1 w2 w3 w4 w5 : Value, args = #[w0, w1, w2, w3, w4, w5] := by
    have hs : args.size = 6 := by simpa [Cond.value, given_1] using u1
    obtain ⟨L⟩ := args
    match L, hs with
    | [w0, w1, w2, w3, w4, w5], _ => exact ⟨w0, w1, w2, w3, w4, w5, rfl⟩
  have hw := fun d (hd : d ∈ tables_1) => atoms_spec (ws := Jvm.Cond.code x code maxLocals ret :: tables_1) hat d (List.mem_cons_of_mem _ hd)
  have hfit : Fit s := fun {y c} hc i hi => by
    obtain ⟨ha, rfl⟩ := Array.getElem?_eq_some_iff.mp hc
    have q := List.all_eq_true.mp ((Array.all_eq_true_iff_forall_mem.mp hF) _ (Array.getElem_mem ha)) i (List.mem_range.mpr hi)
    simpa [Array.getElem?_eq_getElem hi] using q
  obtain ⟨hsets, hown0⟩ := atoms_of _ (rest_1_c_eq ▸ (show rest_1_c.before _ s = true from hrest))
  obtain ⟨i0, ei0⟩ := is_v u3
  obtain rfl : w0 = (.int i0) := Option.some.inj ei0
  obtain ⟨i1, ei1⟩ := is_v u5
  obtain rfl : w1 = (.int i1) := Option.some.inj ei1
  obtain ⟨i2, ei2⟩ := is_v u7
  obtain rfl : w2 = (.int i2) := Option.some.inj ei2
  obtain ⟨i3, ei3⟩ := is_v u9
  obtain rfl : w3 = (.int i3) := Option.some.inj ei3
  obtain ⟨i4, ei4⟩ := is_v u11
  obtain rfl : w4 = (.int i4) := Option.some.inj ei4
  obtain ⟨i5, ei5⟩ := is_v u12
  obtain rfl : w5 = (.int i5) := Option.some.inj ei5
  obtain ⟨zc, ezc⟩ := is_v (Cond.before_iff.mp (hsets _ (List.mem_of_getElem? (i := 1) rfl)))
  have S_c := Sta.start ezc (Or.inl (hsets _ (List.mem_of_getElem? (i := 0) rfl)))
  have hzc : ¬ zc = (0 : Int32) := own_nz ezc (Cond.before_iff.mp (hsets _ (List.mem_of_getElem? (i := 2) rfl)))
  obtain ⟨n, o, h1, h2, h3, _, L, rfl, ⟨rfl, N⟩, -, hq⟩ := rm0 l s _ hw zc i0 i1 i2 i3 i4 i5 s.heap s.heap.size (Nat.le_refl _) S_c hzc (Old.start s) p e ha hc hk s m _ below hf ((Spec.applies_iff_loose hf).mp happ).1 ⟨rfl, State.Warmed39.refl s, rfl, (CHv.start (own_EW hw) (fun q hq => hcalls.1 q hq) (hsets _ (List.mem_of_getElem? (i := 2) rfl)) (hw _ (List.mem_of_getElem? (i := 29) rfl)) (hw _ (List.mem_of_getElem? (i := 15) rfl))), fun _ q => nomatch q⟩ trivial
  refine ⟨n, _, h1, h2, h3, hpost _ _ _ _ _ _ ⟨Cond.after_iff.mpr rfl, Cond.after_iff.mpr (eq_i res_at (Term.int_eval (1)) rfl), trivial⟩ ⟨hq.1, hq.2.1, hq.2.2.1, (hq.2.2.2.sift fun y hy => Or.inr (N y hy)).mono (by decide) (by decide)⟩⟩
theorem main_1_1 : Claimed_1_1 := comes_1 fun _ _ _ _ _ _ h hF => ⟨h.1, hF⟩
theorem main_1_2 : Claimed_1_2 := comes_1 fun _ _ _ _ _ _ h hF => ⟨h.2.1, hF⟩
end Jvm.Pilot.@@N@@
namespace Jvm.Pilot.@@N@@
open Jvm Jvm.ClassFile Sem Op Lib Jvm.Free Jvm.Stand Jvm.Pilot.@@N@@.Jvm.D
/-! MADE BY PROGRAM (witnessworld.py) out of the Statement's table words and the real class files: 22 classes; the members and pool entries that the words name. The judged class is class 1, her method 6. -/
namespace start1
open Jvm.ClassFile
def u (s : String) : CpInfo := .utf8 (stringToUtf16 s)
/-- a pool by its gaps: so many unusable entries, then the entry; so many at the end -/
def gap : Nat → List CpInfo → List CpInfo
  | 0, r => r
  | n + 1, r => .unusable :: gap n r
def poolList (es : List (Nat × CpInfo)) (last : Nat) : List CpInfo := es.foldr (fun e r => gap e.1 (e.2 :: r)) (gap last [])
def pool (es : List (Nat × CpInfo)) (last : Nat) : Array CpInfo := ⟨poolList es last⟩
def fileOf (pool : Array CpInfo) (this : Nat) (attrs : Array Attribute := #[]) (ms : Array MethodInfo := #[]) (fl : Nat := 33) (sup : Nat := 0) (ifs : Array Nat := #[]) (fds : Array FieldInfo := #[]) : ClassFile where
  minorVersion := 0
  majorVersion := 65
  constantPool := pool
  accessFlags := fl
  thisClass := this
  superClass := sup
  interfaces := ifs
  fields := fds
  methods := ms
  attributes := attrs
def plain (name : String) (sup : Option ClassId) : Class where
  name := name
  kind := .ordinary
  loader := none
  accessFlags := 33
  super := sup
  interfaces := #[]
  cf := none
  fields := #[]
  methods := #[]
  instanceTypes := #[]
  staticTypes := #[]
  resolved := #[]
  callSites := []
  init := .initialized
  statics := none
  mirror := none

def pool0 : Array CpInfo := pool [(5, u "<init>"), (0, u "()V"), (1, .class_ 10), (1, u "java/lang/Object")] 113

def k0c0 : Code := { maxStack := 0, maxLocals := 1, code := object_method_1_code, exceptionTable := #[], attributes := #[] }
def k0m0 : Method := { name := "<init>", desc := "()V", sig := { parameters := [], returnType := none }, accessFlags := 1, code := some k0c0 }
/-- java/lang/Object -/
def k0 : Class := { plain "java/lang/Object" none with
  accessFlags := 33
  interfaces := #[]
  cf := some (fileOf pool0 8 #[] #[{ accessFlags := 1, nameIndex := 5, descriptorIndex := 6, attributes := #[] }] 33 0 #[] #[])
  fields := #[]
  methods := #[k0m0]
  instanceTypes := #[]
  staticTypes := #[]
  resolved := Array.replicate 124 none
  statics := none }

def pool1 : Array CpInfo := pool [(2, .class_ 4), (1, u "java/lang/Object"), (0, u "<init>"), (0, u "()V"), (0, .methodref 8 9), (0, .class_ 10), (0, .nameAndType 11 12), (0, u "java/lang/Math"), (0, u "min"), (0, u "(II)I"), (0, .methodref 14 15), (0, .class_ 16), (0, .nameAndType 17 18), (0, u "com/example/huntaway/huntaway/ObligationEqualsPinLaw"), (0, u "len"), (0, u "(I)I"), (0, .class_ 20), (0, u "java/lang/String"), (0, .methodref 19 22), (0, .nameAndType 5 23), (0, u "([C)V"), (0, .methodref 14 25), (0, .nameAndType 26 27), (0, u "c0"), (0, u "(I)C"), (0, .methodref 14 29), (0, .nameAndType 30 27), (0, u "c1"), (0, .class_ 32), (0, u "com/example/huntaway/huntaway/Obligation"), (0, .methodref 14 34), (0, .nameAndType 35 36), (0, u "mk"), (0, u "(I)Ljava/lang/String;"), (0, .methodref 31 38), (0, .nameAndType 5 39), (0, u "(Ljava/lang/String;Ljava/lang/String;)V"), (0, .methodref 14 41), (0, .nameAndType 42 43), (0, u "same"), (0, u "(II)Z"), (0, .methodref 31 45), (0, .nameAndType 46 47), (0, u "equals"), (0, u "(Ljava/lang/Object;)Z"), (3, u "law"), (0, u "(IIIIII)Z")] 2

def k1m0 : Method := { name := "<init>", desc := "()V", sig := { parameters := [], returnType := none }, accessFlags := 1, code := none }
def k1c1 : Code := { maxStack := 2, maxLocals := 1, code := method_2_code, exceptionTable := #[], attributes := #[] }
def k1m1 : Method := { name := "len", desc := "(I)I", sig := { parameters := [.int], returnType := some .int }, accessFlags := 10, code := some k1c1 }
def k1c2 : Code := { maxStack := 2, maxLocals := 1, code := method_3_code, exceptionTable := #[], attributes := #[] }
def k1m2 : Method := { name := "c0", desc := "(I)C", sig := { parameters := [.int], returnType := some .char }, accessFlags := 10, code := some k1c2 }
def k1c3 : Code := { maxStack := 2, maxLocals := 1, code := method_4_code, exceptionTable := #[], attributes := #[] }
def k1m3 : Method := { name := "c1", desc := "(I)C", sig := { parameters := [.int], returnType := some .char }, accessFlags := 10, code := some k1c3 }
def k1c4 : Code := { maxStack := 6, maxLocals := 2, code := method_5_code, exceptionTable := #[], attributes := #[] }
def k1m4 : Method := { name := "mk", desc := "(I)Ljava/lang/String;", sig := { parameters := [.int], returnType := some (.object "java/lang/String") }, accessFlags := 10, code := some k1c4 }
def k1c5 : Code := { maxStack := 2, maxLocals := 4, code := method_6_code, exceptionTable := #[], attributes := #[] }
def k1m5 : Method := { name := "same", desc := "(II)Z", sig := { parameters := [.int, .int], returnType := some .boolean }, accessFlags := 10, code := some k1c5 }
def k1c6 : Code := { maxStack := 4, maxLocals := 12, code := code, exceptionTable := #[], attributes := #[] }
def k1m6 : Method := { name := "law", desc := "(IIIIII)Z", sig := { parameters := [.int, .int, .int, .int, .int, .int], returnType := some .boolean }, accessFlags := 9, code := some k1c6 }
/-- com/example/huntaway/huntaway/ObligationEqualsPinLaw -/
def k1 : Class := { plain "com/example/huntaway/huntaway/ObligationEqualsPinLaw" (some 0) with
  accessFlags := 49
  interfaces := #[]
  cf := some (fileOf pool1 14 #[] #[{ accessFlags := 1, nameIndex := 5, descriptorIndex := 6, attributes := #[] }, { accessFlags := 10, nameIndex := 17, descriptorIndex := 18, attributes := #[] }, { accessFlags := 10, nameIndex := 26, descriptorIndex := 27, attributes := #[] }, { accessFlags := 10, nameIndex := 30, descriptorIndex := 27, attributes := #[] }, { accessFlags := 10, nameIndex := 35, descriptorIndex := 36, attributes := #[] }, { accessFlags := 10, nameIndex := 42, descriptorIndex := 43, attributes := #[] }, { accessFlags := 9, nameIndex := 51, descriptorIndex := 52, attributes := #[] }] 49 2 #[] #[])
  fields := #[]
  methods := #[k1m0, k1m1, k1m2, k1m3, k1m4, k1m5, k1m6]
  instanceTypes := #[]
  staticTypes := #[]
  resolved := Array.replicate 55 none
  statics := none }

def pool2 : Array CpInfo := pool [(1, .methodref 2 3), (0, .class_ 4), (0, .nameAndType 5 6), (0, u "java/lang/Object"), (0, u "<init>"), (0, u "()V"), (0, .string 8), (0, u "policy"), (0, .methodref 10 11), (0, .class_ 12), (0, .nameAndType 13 14), (0, u "java/util/Objects"), (0, u "requireNonNull"), (0, u "(Ljava/lang/Object;Ljava/lang/String;)Ljava/lang/Object;"), (0, .class_ 16), (0, u "java/lang/String"), (0, .fieldref 18 19), (0, .class_ 20), (0, .nameAndType 8 21), (0, u "com/example/huntaway/huntaway/Obligation"), (0, u "Ljava/lang/String;"), (0, .string 23), (0, u "controls"), (0, .fieldref 18 25), (0, .nameAndType 23 21), (0, .methodref 15 27), (0, .nameAndType 28 29), (0, u "equals"), (0, u "(Ljava/lang/Object;)Z"), (8, u "(Ljava/lang/String;Ljava/lang/String;)V")] 24

def k2c0 : Code := { maxStack := 3, maxLocals := 3, code := prog_6_method_1_code, exceptionTable := #[], attributes := #[] }
def k2m0 : Method := { name := "<init>", desc := "(Ljava/lang/String;Ljava/lang/String;)V", sig := { parameters := [(.object "java/lang/String"), (.object "java/lang/String")], returnType := none }, accessFlags := 1, code := some k2c0 }
def k2c1 : Code := { maxStack := 2, maxLocals := 3, code := prog_6_method_4_code, exceptionTable := #[], attributes := #[] }
def k2m1 : Method := { name := "equals", desc := "(Ljava/lang/Object;)Z", sig := { parameters := [(.object "java/lang/Object")], returnType := some .boolean }, accessFlags := 1, code := some k2c1 }
/-- com/example/huntaway/huntaway/Obligation -/
def k2 : Class := { plain "com/example/huntaway/huntaway/Obligation" (some 0) with
  accessFlags := 49
  interfaces := #[]
  cf := some (fileOf pool2 18 #[] #[{ accessFlags := 1, nameIndex := 5, descriptorIndex := 38, attributes := #[] }, { accessFlags := 1, nameIndex := 28, descriptorIndex := 29, attributes := #[] }] 49 2 #[] #[{ accessFlags := 18, nameIndex := 8, descriptorIndex := 21, attributes := #[] }, { accessFlags := 18, nameIndex := 23, descriptorIndex := 21, attributes := #[] }])
  fields := #[{ name := "policy", type := (.object "java/lang/String"), accessFlags := 18, slot := 0, constantValue := 0 }, { name := "controls", type := (.object "java/lang/String"), accessFlags := 18, slot := 1, constantValue := 0 }]
  methods := #[k2m0, k2m1]
  instanceTypes := #[(.object "java/lang/String"), (.object "java/lang/String")]
  staticTypes := #[]
  resolved := Array.replicate 63 none
  statics := none }

def pool3 : Array CpInfo := pool [(1, .class_ 2), (0, u "java/lang/Math"), (1, .class_ 6), (1, u "java/lang/Object"), (0, u "<init>"), (0, u "()V"), (89, .class_ 100), (1, u "java/lang/Math$RandomNumberGeneratorHolder"), (71, u "negativeZeroFloatBits"), (0, u "J"), (2, u "negativeZeroDoubleBits"), (24, u "min"), (43, u "$assertionsDisabled"), (0, u "Z"), (88, u "(II)I"), (2, u "twoToTheDoubleScaleDown"), (0, u "D"), (4, u "twoToTheDoubleScaleUp"), (9, u "E"), (3, u "PI"), (2, u "TAU"), (2, u "DEGREES_TO_RADIANS"), (0, u "RADIANS_TO_DEGREES")] 94

def k3m0 : Method := { name := "<init>", desc := "()V", sig := { parameters := [], returnType := none }, accessFlags := 2, code := none }
def k3c1 : Code := { maxStack := 2, maxLocals := 2, code := jdk_29_method_69_code, exceptionTable := #[], attributes := #[] }
def k3m1 : Method := { name := "min", desc := "(II)I", sig := { parameters := [.int, .int], returnType := some .int }, accessFlags := 9, code := some k3c1 }
/-- java/lang/Math -/
def k3 : Class := { plain "java/lang/Math" (some 0) with
  accessFlags := 49
  interfaces := #[]
  cf := some (fileOf pool3 1 #[.nestMembers #[98]] #[{ accessFlags := 2, nameIndex := 7, descriptorIndex := 8, attributes := #[] }, { accessFlags := 9, nameIndex := 201, descriptorIndex := 335, attributes := #[] }] 49 4 #[] #[{ accessFlags := 25, nameIndex := 354, descriptorIndex := 339, attributes := #[] }, { accessFlags := 25, nameIndex := 358, descriptorIndex := 339, attributes := #[] }, { accessFlags := 25, nameIndex := 361, descriptorIndex := 339, attributes := #[] }, { accessFlags := 26, nameIndex := 364, descriptorIndex := 339, attributes := #[] }, { accessFlags := 26, nameIndex := 365, descriptorIndex := 339, attributes := #[] }, { accessFlags := 26, nameIndex := 172, descriptorIndex := 173, attributes := #[] }, { accessFlags := 26, nameIndex := 176, descriptorIndex := 173, attributes := #[] }, { accessFlags := 8, nameIndex := 344, descriptorIndex := 339, attributes := #[] }, { accessFlags := 8, nameIndex := 338, descriptorIndex := 339, attributes := #[] }, { accessFlags := 4120, nameIndex := 245, descriptorIndex := 246, attributes := #[] }])
  fields := #[{ name := "E", type := .double, accessFlags := 25, slot := 0, constantValue := 0 }, { name := "PI", type := .double, accessFlags := 25, slot := 1, constantValue := 0 }, { name := "TAU", type := .double, accessFlags := 25, slot := 2, constantValue := 0 }, { name := "DEGREES_TO_RADIANS", type := .double, accessFlags := 26, slot := 3, constantValue := 0 }, { name := "RADIANS_TO_DEGREES", type := .double, accessFlags := 26, slot := 4, constantValue := 0 }, { name := "negativeZeroFloatBits", type := .long, accessFlags := 26, slot := 5, constantValue := 0 }, { name := "negativeZeroDoubleBits", type := .long, accessFlags := 26, slot := 6, constantValue := 0 }, { name := "twoToTheDoubleScaleUp", type := .double, accessFlags := 8, slot := 7, constantValue := 0 }, { name := "twoToTheDoubleScaleDown", type := .double, accessFlags := 8, slot := 8, constantValue := 0 }, { name := "$assertionsDisabled", type := .boolean, accessFlags := 4120, slot := 9, constantValue := 0 }]
  methods := #[k3m0, k3m1]
  instanceTypes := #[]
  staticTypes := #[.double, .double, .double, .double, .double, .long, .long, .double, .double, .boolean]
  resolved := Array.replicate 460 none
  statics := none }

def pool4 : Array CpInfo := pool [(1, .class_ 2), (0, u "java/io/Serializable"), (0, .class_ 4), (0, u "java/lang/Object")] 2

/-- java/io/Serializable -/
def k4 : Class := { plain "java/io/Serializable" (some 0) with
  accessFlags := 1537
  interfaces := #[]
  cf := some (fileOf pool4 1 #[] #[] 1537 3 #[] #[])
  fields := #[]
  methods := #[]
  instanceTypes := #[]
  staticTypes := #[]
  resolved := Array.replicate 7 none
  statics := none }

def pool5 : Array CpInfo := pool [(1, .class_ 2), (0, u "java/lang/Comparable"), (0, .class_ 4), (0, u "java/lang/Object")] 7

/-- java/lang/Comparable -/
def k5 : Class := { plain "java/lang/Comparable" (some 0) with
  accessFlags := 1537
  interfaces := #[]
  cf := some (fileOf pool5 1 #[] #[] 1537 3 #[] #[])
  fields := #[]
  methods := #[]
  instanceTypes := #[]
  staticTypes := #[]
  resolved := Array.replicate 12 none
  statics := none }

def pool6 : Array CpInfo := pool [(2, .class_ 4), (1, u "java/lang/CharSequence"), (42, .class_ 48), (0, u "java/lang/CharSequence$1CodePointIterator"), (10, .class_ 60), (0, u "java/lang/CharSequence$1CharIterator"), (5, .class_ 67), (0, u "java/lang/Object")] 63

/-- java/lang/CharSequence -/
def k6 : Class := { plain "java/lang/CharSequence" (some 0) with
  accessFlags := 1537
  interfaces := #[]
  cf := some (fileOf pool6 2 #[.nestMembers #[47, 59]] #[] 1537 66 #[] #[])
  fields := #[]
  methods := #[]
  instanceTypes := #[]
  staticTypes := #[]
  resolved := Array.replicate 131 none
  statics := none }

def pool7 : Array CpInfo := pool [(1, .class_ 2), (0, u "java/lang/constant/Constable"), (0, .class_ 4), (0, u "java/lang/Object")] 6

/-- java/lang/constant/Constable -/
def k7 : Class := { plain "java/lang/constant/Constable" (some 0) with
  accessFlags := 1537
  interfaces := #[]
  cf := some (fileOf pool7 1 #[] #[] 1537 3 #[] #[])
  fields := #[]
  methods := #[]
  instanceTypes := #[]
  staticTypes := #[]
  resolved := Array.replicate 11 none
  statics := none }

def pool8 : Array CpInfo := pool [(1, .class_ 2), (0, u "java/lang/constant/ConstantDesc"), (0, .class_ 4), (0, u "java/lang/Object")] 32

/-- java/lang/constant/ConstantDesc -/
def k8 : Class := { plain "java/lang/constant/ConstantDesc" (some 0) with
  accessFlags := 1537
  interfaces := #[]
  cf := some (fileOf pool8 1 #[] #[] 1537 3 #[] #[])
  fields := #[]
  methods := #[]
  instanceTypes := #[]
  staticTypes := #[]
  resolved := Array.replicate 37 none
  statics := none }

def pool9 : Array CpInfo := pool [(1, .methodref 2 3), (0, .class_ 4), (0, .nameAndType 5 6), (0, u "java/lang/Object"), (0, u "<init>"), (0, u "()V"), (0, .string 8), (0, u ""), (0, .fieldref 10 11), (0, .class_ 12), (0, .nameAndType 13 14), (0, u "java/lang/String"), (0, u "value"), (0, u "[B"), (0, .fieldref 10 16), (0, .nameAndType 17 18), (0, u "coder"), (0, u "B"), (2, u "hash"), (0, u "I"), (2, u "hashIsZero"), (0, u "Z"), (0, .methodref 10 28), (0, .nameAndType 5 29), (0, u "([CIILjava/lang/Void;)V"), (8, .fieldref 10 39), (0, .nameAndType 40 26), (0, u "COMPACT_STRINGS"), (1, .class_ 44), (1, u "java/lang/StringUTF16"), (0, u "compress"), (1, .methodref 42 48), (0, .nameAndType 49 50), (0, u "coderFromArrayLen"), (0, u "([BI)B"), (56, .class_ 109), (1, u "java/lang/StringLatin1"), (67, .methodref 42 178), (0, .nameAndType 45 179), (0, u "([CII)[B"), (361, .methodref 107 542), (0, .nameAndType 543 544), (0, u "equals"), (0, u "([B[B)Z"), (28, u "(Ljava/lang/Object;)Z"), (1, .class_ 576), (0, u "java/lang/CharSequence"), (22, u "CASE_INSENSITIVE_ORDER"), (0, u "Ljava/util/Comparator;"), (409, u "([C)V"), (90, u "serialPersistentFields"), (0, u "[Ljava/io/ObjectStreamField;"), (0, .class_ 1104), (0, u "java/lang/String$CaseInsensitiveComparator"), (1, .class_ 1107), (0, u "java/io/Serializable"), (0, .class_ 1109), (0, u "java/lang/Comparable"), (0, .class_ 1111), (0, u "java/lang/constant/Constable"), (0, .class_ 1113), (0, u "java/lang/constant/ConstantDesc"), (2, u "serialVersionUID"), (0, u "J"), (3, u "REPL"), (0, u "C"), (2, u "LATIN1"), (1, u "UTF16")] 323

def k9m0 : Method := { name := "<init>", desc := "()V", sig := { parameters := [], returnType := none }, accessFlags := 1, code := none }
def k9c1 : Code := { maxStack := 5, maxLocals := 2, code := jdk_42_method_3_code, exceptionTable := #[], attributes := #[] }
def k9m1 : Method := { name := "<init>", desc := "([C)V", sig := { parameters := [(.array .char)], returnType := none }, accessFlags := 1, code := some k9c1 }
def k9c2 : Code := { maxStack := 2, maxLocals := 3, code := jdk_42_method_66_code, exceptionTable := #[], attributes := #[] }
def k9m2 : Method := { name := "equals", desc := "(Ljava/lang/Object;)Z", sig := { parameters := [(.object "java/lang/Object")], returnType := some .boolean }, accessFlags := 1, code := some k9c2 }
def k9c3 : Code := { maxStack := 4, maxLocals := 6, code := jdk_42_method_149_code, exceptionTable := #[], attributes := #[] }
def k9m3 : Method := { name := "<init>", desc := "([CIILjava/lang/Void;)V", sig := { parameters := [(.array .char), .int, .int, (.object "java/lang/Void")], returnType := none }, accessFlags := 2, code := some k9c3 }
/-- java/lang/String -/
def k9 : Class := { plain "java/lang/String" (some 0) with
  accessFlags := 49
  interfaces := #[4, 5, 6, 7, 8]
  cf := some (fileOf pool9 10 #[.nestMembers #[1103]] #[{ accessFlags := 1, nameIndex := 5, descriptorIndex := 6, attributes := #[] }, { accessFlags := 1, nameIndex := 5, descriptorIndex := 1010, attributes := #[] }, { accessFlags := 1, nameIndex := 543, descriptorIndex := 573, attributes := #[] }, { accessFlags := 2, nameIndex := 5, descriptorIndex := 29, attributes := #[] }] 49 2 #[1106, 1108, 575, 1110, 1112] #[{ accessFlags := 18, nameIndex := 13, descriptorIndex := 14, attributes := #[] }, { accessFlags := 18, nameIndex := 17, descriptorIndex := 18, attributes := #[] }, { accessFlags := 2, nameIndex := 21, descriptorIndex := 22, attributes := #[] }, { accessFlags := 2, nameIndex := 25, descriptorIndex := 26, attributes := #[] }, { accessFlags := 26, nameIndex := 1116, descriptorIndex := 1117, attributes := #[] }, { accessFlags := 24, nameIndex := 40, descriptorIndex := 26, attributes := #[] }, { accessFlags := 26, nameIndex := 1101, descriptorIndex := 1102, attributes := #[] }, { accessFlags := 26, nameIndex := 1121, descriptorIndex := 1122, attributes := #[] }, { accessFlags := 25, nameIndex := 599, descriptorIndex := 600, attributes := #[] }, { accessFlags := 24, nameIndex := 1125, descriptorIndex := 18, attributes := #[] }, { accessFlags := 24, nameIndex := 1127, descriptorIndex := 18, attributes := #[] }])
  fields := #[{ name := "value", type := (.array .byte), accessFlags := 18, slot := 0, constantValue := 0 }, { name := "coder", type := .byte, accessFlags := 18, slot := 1, constantValue := 0 }, { name := "hash", type := .int, accessFlags := 2, slot := 2, constantValue := 0 }, { name := "hashIsZero", type := .boolean, accessFlags := 2, slot := 3, constantValue := 0 }, { name := "serialVersionUID", type := .long, accessFlags := 26, slot := 0, constantValue := 0 }, { name := "COMPACT_STRINGS", type := .boolean, accessFlags := 24, slot := 1, constantValue := 0 }, { name := "serialPersistentFields", type := (.array (.object "java/io/ObjectStreamField")), accessFlags := 26, slot := 2, constantValue := 0 }, { name := "REPL", type := .char, accessFlags := 26, slot := 3, constantValue := 0 }, { name := "CASE_INSENSITIVE_ORDER", type := (.object "java/util/Comparator"), accessFlags := 25, slot := 4, constantValue := 0 }, { name := "LATIN1", type := .byte, accessFlags := 24, slot := 5, constantValue := 0 }, { name := "UTF16", type := .byte, accessFlags := 24, slot := 6, constantValue := 0 }]
  methods := #[k9m0, k9m1, k9m2, k9m3]
  instanceTypes := #[(.array .byte), .byte, .int, .boolean]
  staticTypes := #[.long, .boolean, (.array (.object "java/io/ObjectStreamField")), .char, (.object "java/util/Comparator"), .byte, .byte]
  resolved := Array.replicate 1451 none
  statics := some 0 }

def pool10 : Array CpInfo := pool [(6, .class_ 8), (1, u "java/lang/Object"), (0, u "<init>"), (0, u "()V"), (1, .class_ 14), (1, u "java/lang/StringUTF16"), (31, u "$assertionsDisabled"), (0, u "Z"), (13, u "HI_BYTE_SHIFT"), (0, u "I"), (2, u "LO_BYTE_SHIFT"), (49, .methodref 12 116), (0, .nameAndType 117 118), (0, u "compress"), (0, u "([CI[BII)I"), (3, u "([CII)[B"), (138, u "coderFromArrayLen"), (0, u "([BI)B"), (106, .class_ 371), (1, u "java/lang/StringUTF16$LinesSpliterator"), (58, u "MAX_LENGTH"), (196, .class_ 628), (0, u "java/lang/StringUTF16$CodePointsSpliterator"), (0, .class_ 630), (0, u "java/lang/StringUTF16$CharsSpliterator")] 4

def k10m0 : Method := { name := "<init>", desc := "()V", sig := { parameters := [], returnType := none }, accessFlags := 0, code := none }
def k10c1 : Code := { maxStack := 2, maxLocals := 2, code := jdk_52_method_15_code, exceptionTable := #[], attributes := #[] }
def k10m1 : Method := { name := "coderFromArrayLen", desc := "([BI)B", sig := { parameters := [(.array .byte), .int], returnType := some .byte }, accessFlags := 8, code := some k10c1 }
def k10c2 : Code := { maxStack := 5, maxLocals := 6, code := jdk_52_method_16_code, exceptionTable := #[], attributes := #[] }
def k10m2 : Method := { name := "compress", desc := "([CII)[B", sig := { parameters := [(.array .char), .int, .int], returnType := some (.array .byte) }, accessFlags := 9, code := some k10c2 }
def k10c3 : Code := { maxStack := 3, maxLocals := 7, code := jdk_52_method_21_code, exceptionTable := #[], attributes := #[] }
def k10m3 : Method := { name := "compress", desc := "([CI[BII)I", sig := { parameters := [(.array .char), .int, (.array .byte), .int, .int], returnType := some .int }, accessFlags := 9, code := some k10c3 }
/-- java/lang/StringUTF16 -/
def k10 : Class := { plain "java/lang/StringUTF16" (some 0) with
  accessFlags := 48
  interfaces := #[]
  cf := some (fileOf pool10 12 #[.nestMembers #[627, 629, 369]] #[{ accessFlags := 0, nameIndex := 9, descriptorIndex := 10, attributes := #[] }, { accessFlags := 8, nameIndex := 261, descriptorIndex := 262, attributes := #[] }, { accessFlags := 9, nameIndex := 117, descriptorIndex := 122, attributes := #[] }, { accessFlags := 9, nameIndex := 117, descriptorIndex := 118, attributes := #[] }] 48 6 #[] #[{ accessFlags := 26, nameIndex := 61, descriptorIndex := 62, attributes := #[] }, { accessFlags := 26, nameIndex := 65, descriptorIndex := 62, attributes := #[] }, { accessFlags := 24, nameIndex := 430, descriptorIndex := 62, attributes := #[] }, { accessFlags := 4120, nameIndex := 46, descriptorIndex := 47, attributes := #[] }])
  fields := #[{ name := "HI_BYTE_SHIFT", type := .int, accessFlags := 26, slot := 0, constantValue := 0 }, { name := "LO_BYTE_SHIFT", type := .int, accessFlags := 26, slot := 1, constantValue := 0 }, { name := "MAX_LENGTH", type := .int, accessFlags := 24, slot := 2, constantValue := 0 }, { name := "$assertionsDisabled", type := .boolean, accessFlags := 4120, slot := 3, constantValue := 0 }]
  methods := #[k10m0, k10m1, k10m2, k10m3]
  instanceTypes := #[]
  staticTypes := #[.int, .int, .int, .boolean]
  resolved := Array.replicate 635 none
  statics := none }

def pool11 : Array CpInfo := pool [(2, .class_ 4), (1, u "java/lang/Object"), (0, u "<init>"), (0, u "()V"), (35, .class_ 44), (1, u "java/util/Objects"), (0, u "requireNonNull"), (48, u "(Ljava/lang/Object;Ljava/lang/String;)Ljava/lang/Object;")] 89

def k11m0 : Method := { name := "<init>", desc := "()V", sig := { parameters := [], returnType := none }, accessFlags := 2, code := none }
def k11c1 : Code := { maxStack := 3, maxLocals := 2, code := jdk_31_method_11_code, exceptionTable := #[], attributes := #[] }
def k11m1 : Method := { name := "requireNonNull", desc := "(Ljava/lang/Object;Ljava/lang/String;)Ljava/lang/Object;", sig := { parameters := [(.object "java/lang/Object"), (.object "java/lang/String")], returnType := some (.object "java/lang/Object") }, accessFlags := 9, code := some k11c1 }
/-- java/util/Objects -/
def k11 : Class := { plain "java/util/Objects" (some 0) with
  accessFlags := 49
  interfaces := #[]
  cf := some (fileOf pool11 42 #[] #[{ accessFlags := 2, nameIndex := 5, descriptorIndex := 6, attributes := #[] }, { accessFlags := 9, nameIndex := 45, descriptorIndex := 94, attributes := #[] }] 49 2 #[] #[])
  fields := #[]
  methods := #[k11m0, k11m1]
  instanceTypes := #[]
  staticTypes := #[]
  resolved := Array.replicate 184 none
  statics := none }

def pool12 : Array CpInfo := pool [(4, .class_ 6), (1, u "java/lang/Object"), (0, u "<init>"), (0, u "()V"), (5, .class_ 16), (1, u "java/lang/StringLatin1"), (104, u "$assertionsDisabled"), (0, u "Z"), (98, .class_ 223), (1, u "java/lang/StringLatin1$LinesSpliterator"), (57, u "equals"), (0, u "([B[B)Z"), (107, .class_ 391), (0, u "java/lang/StringLatin1$CharsSpliterator")] 3

def k12m0 : Method := { name := "<init>", desc := "()V", sig := { parameters := [], returnType := none }, accessFlags := 0, code := none }
def k12c1 : Code := { maxStack := 3, maxLocals := 3, code := jdk_43_method_13_code, exceptionTable := #[], attributes := #[] }
def k12m1 : Method := { name := "equals", desc := "([B[B)Z", sig := { parameters := [(.array .byte), (.array .byte)], returnType := some .boolean }, accessFlags := 9, code := some k12c1 }
/-- java/lang/StringLatin1 -/
def k12 : Class := { plain "java/lang/StringLatin1" (some 0) with
  accessFlags := 48
  interfaces := #[]
  cf := some (fileOf pool12 14 #[.nestMembers #[390, 221]] #[{ accessFlags := 0, nameIndex := 7, descriptorIndex := 8, attributes := #[] }, { accessFlags := 9, nameIndex := 281, descriptorIndex := 282, attributes := #[] }] 48 4 #[] #[{ accessFlags := 4120, nameIndex := 121, descriptorIndex := 122, attributes := #[] }])
  fields := #[{ name := "$assertionsDisabled", type := .boolean, accessFlags := 4120, slot := 0, constantValue := 0 }]
  methods := #[k12m0, k12m1]
  instanceTypes := #[]
  staticTypes := #[.boolean]
  resolved := Array.replicate 395 none
  statics := none }

def pool13 : Array CpInfo := pool [(2, .class_ 4), (1, u "java/lang/Object"), (0, u "<init>"), (0, u "()V"), (17, .class_ 26), (1, u "jdk/internal/util/Preconditions"), (28, .class_ 56), (0, u "jdk/internal/util/Preconditions$4"), (57, .class_ 115), (0, u "jdk/internal/util/Preconditions$1"), (7, u "SIOOBE_FORMATTER"), (0, u "Ljava/util/function/BiFunction;"), (0, .class_ 126), (0, u "jdk/internal/util/Preconditions$2"), (3, u "AIOOBE_FORMATTER"), (0, .class_ 132), (0, u "jdk/internal/util/Preconditions$3"), (3, u "IOOBE_FORMATTER")] 57

def k13m0 : Method := { name := "<init>", desc := "()V", sig := { parameters := [], returnType := none }, accessFlags := 1, code := none }
/-- jdk/internal/util/Preconditions -/
def k13 : Class := { plain "jdk/internal/util/Preconditions" (some 0) with
  accessFlags := 33
  interfaces := #[]
  cf := some (fileOf pool13 24 #[.nestMembers #[55, 131, 125, 114]] #[{ accessFlags := 1, nameIndex := 5, descriptorIndex := 6, attributes := #[] }] 33 2 #[] #[{ accessFlags := 25, nameIndex := 123, descriptorIndex := 124, attributes := #[] }, { accessFlags := 25, nameIndex := 130, descriptorIndex := 124, attributes := #[] }, { accessFlags := 25, nameIndex := 136, descriptorIndex := 124, attributes := #[] }])
  fields := #[{ name := "SIOOBE_FORMATTER", type := (.object "java/util/function/BiFunction"), accessFlags := 25, slot := 0, constantValue := 0 }, { name := "AIOOBE_FORMATTER", type := (.object "java/util/function/BiFunction"), accessFlags := 25, slot := 1, constantValue := 0 }, { name := "IOOBE_FORMATTER", type := (.object "java/util/function/BiFunction"), accessFlags := 25, slot := 2, constantValue := 0 }]
  methods := #[k13m0]
  instanceTypes := #[]
  staticTypes := #[(.object "java/util/function/BiFunction"), (.object "java/util/function/BiFunction"), (.object "java/util/function/BiFunction")]
  resolved := Array.replicate 194 none
  statics := some 1 }

def pool14 : Array CpInfo := pool [(9, u "<init>"), (6, .class_ 18), (1, u "java/lang/Object"), (0, u "()V"), (1, .class_ 23), (1, u "jdk/internal/util/ArraysSupport"), (0, u "LOG2_ARRAY_LONG_INDEX_SCALE"), (0, u "I"), (2, u "U"), (0, u "Ljdk/internal/misc/Unsafe;"), (8, u "BIG_ENDIAN"), (0, u "Z"), (8, u "LOG2_BYTE_BIT_SIZE"), (4, u "LOG2_ARRAY_INT_INDEX_SCALE"), (54, u "JLA"), (0, u "Ljdk/internal/access/JavaLangAccess;"), (11, u "LOG2_ARRAY_BOOLEAN_INDEX_SCALE"), (9, u "LOG2_ARRAY_BYTE_INDEX_SCALE"), (5, u "LOG2_ARRAY_CHAR_INDEX_SCALE"), (5, u "LOG2_ARRAY_SHORT_INDEX_SCALE"), (18, u "LOG2_ARRAY_FLOAT_INDEX_SCALE"), (24, u "LOG2_ARRAY_DOUBLE_INDEX_SCALE"), (89, u "T_BOOLEAN"), (2, u "T_CHAR"), (1, u "T_FLOAT"), (1, u "T_DOUBLE"), (1, u "T_BYTE"), (1, u "T_SHORT"), (1, u "T_INT"), (1, u "T_LONG"), (1, u "SOFT_MAX_ARRAY_LENGTH")] 83

def k14m0 : Method := { name := "<init>", desc := "()V", sig := { parameters := [], returnType := none }, accessFlags := 2, code := none }
/-- jdk/internal/util/ArraysSupport -/
def k14 : Class := { plain "jdk/internal/util/ArraysSupport" (some 0) with
  accessFlags := 33
  interfaces := #[]
  cf := some (fileOf pool14 21 #[] #[{ accessFlags := 2, nameIndex := 9, descriptorIndex := 19, attributes := #[] }] 33 16 #[] #[{ accessFlags := 24, nameIndex := 28, descriptorIndex := 29, attributes := #[] }, { accessFlags := 26, nameIndex := 38, descriptorIndex := 39, attributes := #[] }, { accessFlags := 25, nameIndex := 121, descriptorIndex := 25, attributes := #[] }, { accessFlags := 25, nameIndex := 131, descriptorIndex := 25, attributes := #[] }, { accessFlags := 25, nameIndex := 137, descriptorIndex := 25, attributes := #[] }, { accessFlags := 25, nameIndex := 143, descriptorIndex := 25, attributes := #[] }, { accessFlags := 25, nameIndex := 53, descriptorIndex := 25, attributes := #[] }, { accessFlags := 25, nameIndex := 24, descriptorIndex := 25, attributes := #[] }, { accessFlags := 25, nameIndex := 162, descriptorIndex := 25, attributes := #[] }, { accessFlags := 25, nameIndex := 187, descriptorIndex := 25, attributes := #[] }, { accessFlags := 26, nameIndex := 48, descriptorIndex := 25, attributes := #[] }, { accessFlags := 25, nameIndex := 277, descriptorIndex := 25, attributes := #[] }, { accessFlags := 25, nameIndex := 280, descriptorIndex := 25, attributes := #[] }, { accessFlags := 25, nameIndex := 282, descriptorIndex := 25, attributes := #[] }, { accessFlags := 25, nameIndex := 284, descriptorIndex := 25, attributes := #[] }, { accessFlags := 25, nameIndex := 286, descriptorIndex := 25, attributes := #[] }, { accessFlags := 25, nameIndex := 288, descriptorIndex := 25, attributes := #[] }, { accessFlags := 25, nameIndex := 290, descriptorIndex := 25, attributes := #[] }, { accessFlags := 25, nameIndex := 292, descriptorIndex := 25, attributes := #[] }, { accessFlags := 26, nameIndex := 108, descriptorIndex := 109, attributes := #[] }, { accessFlags := 25, nameIndex := 294, descriptorIndex := 25, attributes := #[] }])
  fields := #[{ name := "U", type := (.object "jdk/internal/misc/Unsafe"), accessFlags := 24, slot := 0, constantValue := 0 }, { name := "BIG_ENDIAN", type := .boolean, accessFlags := 26, slot := 1, constantValue := 0 }, { name := "LOG2_ARRAY_BOOLEAN_INDEX_SCALE", type := .int, accessFlags := 25, slot := 2, constantValue := 0 }, { name := "LOG2_ARRAY_BYTE_INDEX_SCALE", type := .int, accessFlags := 25, slot := 3, constantValue := 0 }, { name := "LOG2_ARRAY_CHAR_INDEX_SCALE", type := .int, accessFlags := 25, slot := 4, constantValue := 0 }, { name := "LOG2_ARRAY_SHORT_INDEX_SCALE", type := .int, accessFlags := 25, slot := 5, constantValue := 0 }, { name := "LOG2_ARRAY_INT_INDEX_SCALE", type := .int, accessFlags := 25, slot := 6, constantValue := 0 }, { name := "LOG2_ARRAY_LONG_INDEX_SCALE", type := .int, accessFlags := 25, slot := 7, constantValue := 0 }, { name := "LOG2_ARRAY_FLOAT_INDEX_SCALE", type := .int, accessFlags := 25, slot := 8, constantValue := 0 }, { name := "LOG2_ARRAY_DOUBLE_INDEX_SCALE", type := .int, accessFlags := 25, slot := 9, constantValue := 0 }, { name := "LOG2_BYTE_BIT_SIZE", type := .int, accessFlags := 26, slot := 10, constantValue := 0 }, { name := "T_BOOLEAN", type := .int, accessFlags := 25, slot := 11, constantValue := 0 }, { name := "T_CHAR", type := .int, accessFlags := 25, slot := 12, constantValue := 0 }, { name := "T_FLOAT", type := .int, accessFlags := 25, slot := 13, constantValue := 0 }, { name := "T_DOUBLE", type := .int, accessFlags := 25, slot := 14, constantValue := 0 }, { name := "T_BYTE", type := .int, accessFlags := 25, slot := 15, constantValue := 0 }, { name := "T_SHORT", type := .int, accessFlags := 25, slot := 16, constantValue := 0 }, { name := "T_INT", type := .int, accessFlags := 25, slot := 17, constantValue := 0 }, { name := "T_LONG", type := .int, accessFlags := 25, slot := 18, constantValue := 0 }, { name := "JLA", type := (.object "jdk/internal/access/JavaLangAccess"), accessFlags := 26, slot := 19, constantValue := 0 }, { name := "SOFT_MAX_ARRAY_LENGTH", type := .int, accessFlags := 25, slot := 20, constantValue := 0 }]
  methods := #[k14m0]
  instanceTypes := #[]
  staticTypes := #[(.object "jdk/internal/misc/Unsafe"), .boolean, .int, .int, .int, .int, .int, .int, .int, .int, .int, .int, .int, .int, .int, .int, .int, .int, .int, (.object "jdk/internal/access/JavaLangAccess"), .int]
  resolved := Array.replicate 378 none
  statics := none }

def pool15 : Array CpInfo := pool [(1, u "java/lang/Cloneable"), (0, .class_ 1), (0, u "java/lang/Object"), (0, .class_ 3)] 3

/-- java/lang/Cloneable -/
def k15 : Class := { plain "java/lang/Cloneable" (some 0) with
  accessFlags := 1537
  interfaces := #[]
  cf := some (fileOf pool15 2 #[] #[] 1537 4 #[] #[])
  fields := #[]
  methods := #[]
  instanceTypes := #[]
  staticTypes := #[]
  resolved := Array.replicate 8 none
  statics := none }

/-- the primitive byte -/
def k16 : Class := { plain "byte" none with kind := .primitive 'B', accessFlags := 0x411 }
/-- [B -/
def k17 : Class := { plain "[B" (some 0) with kind := .array 16 .byte, interfaces := #[15, 4], accessFlags := 1041 }

/-- the primitive char -/
def k18 : Class := { plain "char" none with kind := .primitive 'C', accessFlags := 0x411 }
/-- [C -/
def k19 : Class := { plain "[C" (some 0) with kind := .array 18 .char, interfaces := #[15, 4], accessFlags := 1041 }

/-- the primitive int -/
def k20 : Class := { plain "int" none with kind := .primitive 'I', accessFlags := 0x411 }
/-- [I -/
def k21 : Class := { plain "[I" (some 0) with kind := .array 20 .int, interfaces := #[15, 4], accessFlags := 1041 }

def heap : Heap := #[{ cls := 9, slots := #[.long 0, .int 1, .null, .int 0, .null, .int 0, .int 0], vm := .statics 9 },
  { cls := 13, slots := #[.null, .null, .null], vm := .statics 13 }]
def classes : Array Class := #[k0, k1, k2, k3, k4, k5, k6, k7, k8, k9, k10, k11, k12, k13, k14, k15, k16, k17, k18, k19, k20, k21]
def interned : List (Array UInt16 × Addr) := []
def slotsUsed : Nat := 10
def theMethod : MethodId := ⟨1, 6⟩
def args0 : Array Value := #[.int 0, .int 1, .int 2, .int 3, .int 4, .int 5]
def aboutOver (below : List Frame) : State where
  vm := { classes := classes, interned := interned.toArray }
  heap := heap
  slotsUsed := slotsUsed
  threads := #[{ frames := .invoking theMethod args0 :: below }]
def below0 : List Frame := [.native { method := ⟨0, 0⟩, args := #[] }]
def about1 : State := aboutOver below0
def p0 : Program := .bare "" "" ""
def e0 : Env := launch0.env 0 0 0
theorem w_frames : about1.frames = Frame.invoking theMethod args0 :: below0 := rfl
set_option maxRecDepth 65536 in
theorem w_args : argsFit about1.vm theMethod args0 = true := by decide +kernel
set_option maxRecDepth 65536 in
theorem w_heap : heapFits about1 = true := by decide +kernel
set_option maxRecDepth 65536 in
theorem w_runnable : about1.curStatus? = some .runnable := by decide +kernel
set_option maxRecDepth 65536 in
theorem w_alone : about1.alone = true := by decide +kernel
set_option maxRecDepth 65536 in
theorem w_named : about1.methodNamed? x = some theMethod := by decide +kernel
set_option maxRecDepth 65536 in
theorem w_hears : about1.hears theMethod below0 = true := by decide +kernel
set_option maxRecDepth 65536 in
theorem w_ripe : about1.ripe theMethod args0 below0 = true := by decide +kernel
theorem w_running : about1.status = .running := rfl
set_option maxRecDepth 65536 in
theorem w_room : about1.hasRoom e0.platform room_1 = true :=
  launch0.hasRoom_least _ room_1 (by decide +kernel) (by decide +kernel) (by decide +kernel) (by decide +kernel) (by decide +kernel) (by decide +kernel)
theorem allAtoms_all (ts : List Jvm.Cond) (a : Array Jvm.Value) (st : Jvm.State) : (allAtoms ts).before a st = ts.all (fun c => c.before a st) := by
  induction ts with
  | nil => rfl
  | cons c t ih =>
    show (Jvm.Cond.and c (allAtoms t)).before a st = _
    rw [Jvm.Cond.before_and, ih, List.all_cons]
def words1 : List Jvm.Cond := Jvm.Cond.code x code maxLocals ret :: tables_1
/-- a 'code' word, met by the world's own term for the bytes: nothing is compared byte by byte -/
theorem code_word {y : MethodName} {bytes : ByteArray} {mx : Nat} {rt : Option FieldType} {a : Array Value} {s : State} {m : MethodId} {meth : Method} {c : Code} (h1 : s.methodNamed? y = some m) (h2 : s.vm.method? m = some meth) (h3 : meth.code = some c) (h4 : c.code = bytes)
    (h5 : (c.maxLocals == mx && c.exceptionTable.isEmpty && decide (c.maxStack ≤ mostOperands) && decide (meth.sig.returnType = rt) && !meth.locks && decide (parseMethodDescriptor y.desc = some meth.sig)) = true) : (Jvm.Cond.code y bytes mx rt).before a s = true := by
  simp only [Bool.and_eq_true, beq_iff_eq, Bool.not_eq_true', decide_eq_true_eq] at h5
  obtain ⟨⟨⟨⟨⟨g1, g2⟩, g3⟩, g4⟩, g5⟩, g6⟩ := h5
  simp [Cond.before, Cond.holds, Cond.value, h1, h2, h3, h4, g1, g2, g3, g4, g5, g6]
def isCode : Jvm.Cond → Bool
  | .code _ _ _ _ => true
  | _ => false
theorem all_split {L : List Jvm.Cond} {P : Jvm.Cond → Bool} (h1 : L.all (fun c => isCode c || P c) = true) (h2 : ∀ c ∈ L.filter isCode, P c = true) : L.all P = true := by
  refine List.all_eq_true.mpr fun c hc => ?_
  have h := List.all_eq_true.mp h1 c hc
  rcases Bool.eq_false_or_eq_true (isCode c) with hi | hi
  · exact h2 c (List.mem_filter.mpr ⟨hc, hi⟩)
  · simpa [hi] using h
set_option maxRecDepth 65536 in
theorem w_c0 : (Jvm.Cond.code x code maxLocals ret).before args0 about1 = true := code_word (m := ⟨1, 6⟩) (meth := k1m6) (c := k1c6) (by decide +kernel) rfl rfl rfl (by decide +kernel)
set_option maxRecDepth 65536 in
theorem w_c1 : (Jvm.Cond.code ({ cls := "com/example/huntaway/huntaway/ObligationEqualsPinLaw", name := "mk", desc := "(I)Ljava/lang/String;" } : Jvm.MethodName) method_5_code (2 : Nat) (Option.some (Jvm.ClassFile.FieldType.object "java/lang/String"))).before args0 about1 = true := code_word (m := ⟨1, 4⟩) (meth := k1m4) (c := k1c4) (by decide +kernel) rfl rfl rfl (by decide +kernel)
set_option maxRecDepth 65536 in
theorem w_c2 : (Jvm.Cond.code ({ cls := "com/example/huntaway/huntaway/ObligationEqualsPinLaw", name := "len", desc := "(I)I" } : Jvm.MethodName) method_2_code (1 : Nat) (Option.some Jvm.ClassFile.FieldType.int)).before args0 about1 = true := code_word (m := ⟨1, 1⟩) (meth := k1m1) (c := k1c1) (by decide +kernel) rfl rfl rfl (by decide +kernel)
set_option maxRecDepth 65536 in
theorem w_c3 : (Jvm.Cond.code ({ cls := "java/lang/Math", name := "min", desc := "(II)I" } : Jvm.MethodName) jdk_29_method_69_code (2 : Nat) (Option.some Jvm.ClassFile.FieldType.int)).before args0 about1 = true := code_word (m := ⟨3, 1⟩) (meth := k3m1) (c := k3c1) (by decide +kernel) rfl rfl rfl (by decide +kernel)
set_option maxRecDepth 65536 in
theorem w_c4 : (Jvm.Cond.code ({ cls := "java/lang/String", name := "<init>", desc := "([C)V" } : Jvm.MethodName) jdk_42_method_3_code (2 : Nat) (Option.none : Option Jvm.ClassFile.FieldType)).before args0 about1 = true := code_word (m := ⟨9, 1⟩) (meth := k9m1) (c := k9c1) (by decide +kernel) rfl rfl rfl (by decide +kernel)
set_option maxRecDepth 65536 in
theorem w_c5 : (Jvm.Cond.code ({ cls := "java/lang/String", name := "<init>", desc := "([CIILjava/lang/Void;)V" } : Jvm.MethodName) jdk_42_method_149_code (6 : Nat) (Option.none : Option Jvm.ClassFile.FieldType)).before args0 about1 = true := code_word (m := ⟨9, 3⟩) (meth := k9m3) (c := k9c3) (by decide +kernel) rfl rfl rfl (by decide +kernel)
set_option maxRecDepth 65536 in
theorem w_c6 : (Jvm.Cond.code ({ cls := "java/lang/Object", name := "<init>", desc := "()V" } : Jvm.MethodName) object_method_1_code (1 : Nat) (Option.none : Option Jvm.ClassFile.FieldType)).before args0 about1 = true := code_word (m := ⟨0, 0⟩) (meth := k0m0) (c := k0c0) (by decide +kernel) rfl rfl rfl (by decide +kernel)
set_option maxRecDepth 65536 in
theorem w_c7 : (Jvm.Cond.code ({ cls := "com/example/huntaway/huntaway/ObligationEqualsPinLaw", name := "c0", desc := "(I)C" } : Jvm.MethodName) method_3_code (1 : Nat) (Option.some Jvm.ClassFile.FieldType.char)).before args0 about1 = true := code_word (m := ⟨1, 2⟩) (meth := k1m2) (c := k1c2) (by decide +kernel) rfl rfl rfl (by decide +kernel)
set_option maxRecDepth 65536 in
theorem w_c8 : (Jvm.Cond.code ({ cls := "com/example/huntaway/huntaway/ObligationEqualsPinLaw", name := "c1", desc := "(I)C" } : Jvm.MethodName) method_4_code (1 : Nat) (Option.some Jvm.ClassFile.FieldType.char)).before args0 about1 = true := code_word (m := ⟨1, 3⟩) (meth := k1m3) (c := k1c3) (by decide +kernel) rfl rfl rfl (by decide +kernel)
set_option maxRecDepth 65536 in
theorem w_c9 : (Jvm.Cond.code ({ cls := "java/lang/StringUTF16", name := "compress", desc := "([CII)[B" } : Jvm.MethodName) jdk_52_method_16_code (6 : Nat) (Option.some (Jvm.ClassFile.FieldType.array Jvm.ClassFile.FieldType.byte))).before args0 about1 = true := code_word (m := ⟨10, 2⟩) (meth := k10m2) (c := k10c2) (by decide +kernel) rfl rfl rfl (by decide +kernel)
set_option maxRecDepth 65536 in
theorem w_c10 : (Jvm.Cond.code ({ cls := "java/lang/StringUTF16", name := "compress", desc := "([CI[BII)I" } : Jvm.MethodName) jdk_52_method_21_code (7 : Nat) (Option.some Jvm.ClassFile.FieldType.int)).before args0 about1 = true := code_word (m := ⟨10, 3⟩) (meth := k10m3) (c := k10c3) (by decide +kernel) rfl rfl rfl (by decide +kernel)
set_option maxRecDepth 65536 in
theorem w_c11 : (Jvm.Cond.code ({ cls := "java/lang/StringUTF16", name := "coderFromArrayLen", desc := "([BI)B" } : Jvm.MethodName) jdk_52_method_15_code (2 : Nat) (Option.some Jvm.ClassFile.FieldType.byte)).before args0 about1 = true := code_word (m := ⟨10, 1⟩) (meth := k10m1) (c := k10c1) (by decide +kernel) rfl rfl rfl (by decide +kernel)
set_option maxRecDepth 65536 in
theorem w_c12 : (Jvm.Cond.code ({ cls := "com/example/huntaway/huntaway/Obligation", name := "<init>", desc := "(Ljava/lang/String;Ljava/lang/String;)V" } : Jvm.MethodName) prog_6_method_1_code (3 : Nat) (Option.none : Option Jvm.ClassFile.FieldType)).before args0 about1 = true := code_word (m := ⟨2, 0⟩) (meth := k2m0) (c := k2c0) (by decide +kernel) rfl rfl rfl (by decide +kernel)
set_option maxRecDepth 65536 in
theorem w_c13 : (Jvm.Cond.code ({ cls := "java/util/Objects", name := "requireNonNull", desc := "(Ljava/lang/Object;Ljava/lang/String;)Ljava/lang/Object;" } : Jvm.MethodName) jdk_31_method_11_code (2 : Nat) (Option.some (Jvm.ClassFile.FieldType.object "java/lang/Object"))).before args0 about1 = true := code_word (m := ⟨11, 1⟩) (meth := k11m1) (c := k11c1) (by decide +kernel) rfl rfl rfl (by decide +kernel)
set_option maxRecDepth 65536 in
theorem w_c14 : (Jvm.Cond.code ({ cls := "com/example/huntaway/huntaway/Obligation", name := "equals", desc := "(Ljava/lang/Object;)Z" } : Jvm.MethodName) prog_6_method_4_code (3 : Nat) (Option.some Jvm.ClassFile.FieldType.boolean)).before args0 about1 = true := code_word (m := ⟨2, 1⟩) (meth := k2m1) (c := k2c1) (by decide +kernel) rfl rfl rfl (by decide +kernel)
set_option maxRecDepth 65536 in
theorem w_c15 : (Jvm.Cond.code ({ cls := "java/lang/String", name := "equals", desc := "(Ljava/lang/Object;)Z" } : Jvm.MethodName) jdk_42_method_66_code (3 : Nat) (Option.some Jvm.ClassFile.FieldType.boolean)).before args0 about1 = true := code_word (m := ⟨9, 2⟩) (meth := k9m2) (c := k9c2) (by decide +kernel) rfl rfl rfl (by decide +kernel)
set_option maxRecDepth 65536 in
theorem w_c16 : (Jvm.Cond.code ({ cls := "com/example/huntaway/huntaway/ObligationEqualsPinLaw", name := "same", desc := "(II)Z" } : Jvm.MethodName) method_6_code (4 : Nat) (Option.some Jvm.ClassFile.FieldType.boolean)).before args0 about1 = true := code_word (m := ⟨1, 5⟩) (meth := k1m5) (c := k1c5) (by decide +kernel) rfl rfl rfl (by decide +kernel)
set_option maxRecDepth 65536 in
theorem w_c17 : (Jvm.Cond.code ({ cls := "java/lang/StringLatin1", name := "equals", desc := "([B[B)Z" } : Jvm.MethodName) jdk_43_method_13_code (3 : Nat) (Option.some Jvm.ClassFile.FieldType.boolean)).before args0 about1 = true := code_word (m := ⟨12, 1⟩) (meth := k12m1) (c := k12c1) (by decide +kernel) rfl rfl rfl (by decide +kernel)
def codes1 : List Jvm.Cond := [Jvm.Cond.code x code maxLocals ret, Jvm.Cond.code ({ cls := "com/example/huntaway/huntaway/ObligationEqualsPinLaw", name := "mk", desc := "(I)Ljava/lang/String;" } : Jvm.MethodName) method_5_code (2 : Nat) (Option.some (Jvm.ClassFile.FieldType.object "java/lang/String")), Jvm.Cond.code ({ cls := "com/example/huntaway/huntaway/ObligationEqualsPinLaw", name := "len", desc := "(I)I" } : Jvm.MethodName) method_2_code (1 : Nat) (Option.some Jvm.ClassFile.FieldType.int), Jvm.Cond.code ({ cls := "java/lang/Math", name := "min", desc := "(II)I" } : Jvm.MethodName) jdk_29_method_69_code (2 : Nat) (Option.some Jvm.ClassFile.FieldType.int), Jvm.Cond.code ({ cls := "java/lang/String", name := "<init>", desc := "([C)V" } : Jvm.MethodName) jdk_42_method_3_code (2 : Nat) (Option.none : Option Jvm.ClassFile.FieldType), Jvm.Cond.code ({ cls := "java/lang/String", name := "<init>", desc := "([CIILjava/lang/Void;)V" } : Jvm.MethodName) jdk_42_method_149_code (6 : Nat) (Option.none : Option Jvm.ClassFile.FieldType), Jvm.Cond.code ({ cls := "java/lang/Object", name := "<init>", desc := "()V" } : Jvm.MethodName) object_method_1_code (1 : Nat) (Option.none : Option Jvm.ClassFile.FieldType), Jvm.Cond.code ({ cls := "com/example/huntaway/huntaway/ObligationEqualsPinLaw", name := "c0", desc := "(I)C" } : Jvm.MethodName) method_3_code (1 : Nat) (Option.some Jvm.ClassFile.FieldType.char), Jvm.Cond.code ({ cls := "com/example/huntaway/huntaway/ObligationEqualsPinLaw", name := "c1", desc := "(I)C" } : Jvm.MethodName) method_4_code (1 : Nat) (Option.some Jvm.ClassFile.FieldType.char), Jvm.Cond.code ({ cls := "java/lang/StringUTF16", name := "compress", desc := "([CII)[B" } : Jvm.MethodName) jdk_52_method_16_code (6 : Nat) (Option.some (Jvm.ClassFile.FieldType.array Jvm.ClassFile.FieldType.byte)), Jvm.Cond.code ({ cls := "java/lang/StringUTF16", name := "compress", desc := "([CI[BII)I" } : Jvm.MethodName) jdk_52_method_21_code (7 : Nat) (Option.some Jvm.ClassFile.FieldType.int), Jvm.Cond.code ({ cls := "java/lang/StringUTF16", name := "coderFromArrayLen", desc := "([BI)B" } : Jvm.MethodName) jdk_52_method_15_code (2 : Nat) (Option.some Jvm.ClassFile.FieldType.byte), Jvm.Cond.code ({ cls := "com/example/huntaway/huntaway/Obligation", name := "<init>", desc := "(Ljava/lang/String;Ljava/lang/String;)V" } : Jvm.MethodName) prog_6_method_1_code (3 : Nat) (Option.none : Option Jvm.ClassFile.FieldType), Jvm.Cond.code ({ cls := "java/util/Objects", name := "requireNonNull", desc := "(Ljava/lang/Object;Ljava/lang/String;)Ljava/lang/Object;" } : Jvm.MethodName) jdk_31_method_11_code (2 : Nat) (Option.some (Jvm.ClassFile.FieldType.object "java/lang/Object")), Jvm.Cond.code ({ cls := "com/example/huntaway/huntaway/Obligation", name := "equals", desc := "(Ljava/lang/Object;)Z" } : Jvm.MethodName) prog_6_method_4_code (3 : Nat) (Option.some Jvm.ClassFile.FieldType.boolean), Jvm.Cond.code ({ cls := "java/lang/String", name := "equals", desc := "(Ljava/lang/Object;)Z" } : Jvm.MethodName) jdk_42_method_66_code (3 : Nat) (Option.some Jvm.ClassFile.FieldType.boolean), Jvm.Cond.code ({ cls := "com/example/huntaway/huntaway/ObligationEqualsPinLaw", name := "same", desc := "(II)Z" } : Jvm.MethodName) method_6_code (4 : Nat) (Option.some Jvm.ClassFile.FieldType.boolean), Jvm.Cond.code ({ cls := "java/lang/StringLatin1", name := "equals", desc := "([B[B)Z" } : Jvm.MethodName) jdk_43_method_13_code (3 : Nat) (Option.some Jvm.ClassFile.FieldType.boolean)]
set_option maxRecDepth 65536 in
theorem codes_eq : words1.filter isCode = codes1 := rfl
theorem w_codes : ∀ c ∈ words1.filter isCode, c.before args0 about1 = true := by
  rw [codes_eq]
  intro c hc
  simp only [codes1, List.mem_cons, List.not_mem_nil, or_false] at hc
  rcases hc with rfl | rfl | rfl | rfl | rfl | rfl | rfl | rfl | rfl | rfl | rfl | rfl | rfl | rfl | rfl | rfl | rfl | rfl
  · exact w_c0
  · exact w_c1
  · exact w_c2
  · exact w_c3
  · exact w_c4
  · exact w_c5
  · exact w_c6
  · exact w_c7
  · exact w_c8
  · exact w_c9
  · exact w_c10
  · exact w_c11
  · exact w_c12
  · exact w_c13
  · exact w_c14
  · exact w_c15
  · exact w_c16
  · exact w_c17
set_option maxRecDepth 65536 in
theorem w_t1 : (words1.take 24).all (fun c => isCode c || c.before args0 about1) = true := by decide +kernel
set_option maxRecDepth 65536 in
theorem w_t2 : ((words1.drop 24).take 24).all (fun c => isCode c || c.before args0 about1) = true := by decide +kernel
set_option maxRecDepth 65536 in
theorem w_t3 : (((words1.drop 24).drop 24).take 24).all (fun c => isCode c || c.before args0 about1) = true := by decide +kernel
set_option maxRecDepth 65536 in
theorem w_t4 : (((words1.drop 24).drop 24).drop 24).all (fun c => isCode c || c.before args0 about1) = true := by decide +kernel
theorem w_tables : (allAtoms (Jvm.Cond.code x code maxLocals ret :: tables_1)).before args0 about1 = true := by
  rw [allAtoms_all]
  show words1.all (fun c => c.before args0 about1) = true
  refine all_split ?_ w_codes
  rw [← List.take_append_drop 24 words1, List.all_append, w_t1, ← List.take_append_drop 24 (words1.drop 24), List.all_append, w_t2, ← List.take_append_drop 24 ((words1.drop 24).drop 24), List.all_append, w_t3, w_t4]
  rfl
set_option maxRecDepth 65536 in
theorem w_rest : rest_1_c.before args0 about1 = true := by decide +kernel
set_option maxRecDepth 65536 in
theorem w_case : (Jvm.Cond.and given_1 narrow_1).before args0 about1 = true := by decide +kernel
set_option maxRecDepth 65536 in
theorem w_consts : constsHeld consts_1 about1 := Jvm.Lit.constsHeldB_iff.mp (by decide +kernel)
theorem w_applies : (headSpec (Jvm.Cond.code x code maxLocals ret :: tables_1) room_1).applies x e0.platform about1 = true :=
  (Spec.applies_iff w_frames).mpr ⟨w_running, w_runnable, w_alone, w_named, w_hears, w_ripe, w_room, w_tables⟩
theorem atStart : AtStart classFile x code maxLocals ret World_1 tables_1 room_1 Calls_1 rest_1 Pre_1 launch0 p0 e0 about1 theMethod args0 below0 :=
  ⟨lists_1, trivial, launch0.admits_env _ _ _, launch0.least_env, fairChoices_fair.cas, fairChoices_fair.clock, w_frames, w_args, w_heap, w_applies, ⟨w_consts, trivial⟩, w_rest, w_case⟩
end start1
theorem witness_1 : WitnessClaimed_1 := ⟨start1.p0, start1.e0, start1.about1, start1.theMethod, start1.args0, start1.below0, start1.atStart⟩
end Jvm.Pilot.@@N@@
