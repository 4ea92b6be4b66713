import JvmDerived
import JvmDerived.Pilot.@@N@@Statement
import JvmDerived.Pilot.@@N@@Code
set_option linter.unusedVariables false
set_option linter.unusedSimpArgs false
namespace Jvm.Pilot.@@N@@
open Jvm Jvm.ClassFile Sem Op Lib Jvm.Free Jvm.Stand Jvm.LawKit Jvm.RoadKit Bundle Jvm.Pilot.@@N@@.Jvm.D
/-- whatever is reached from v is reached from u -/
abbrev To (tb : Tables) (e : Env) (below : List Frame) (u v : State) : Prop := ∀ t, Steps tb e below v t → Steps tb e below u t
/-- a body's contract: called with as' over the heap h0 it returns, and Q holds of what it returns, of the heap and of the places written -/
abbrev Con (l : Launch) (Z : State) (y : MethodName) (bs : ByteArray) (ml : Nat) (rt : Option FieldType) (ws : List Jvm.Cond) (R : Room) (as' : Array Value) (h0 : Heap) (Q : Option Value → Heap → List Loc → Prop) : Prop :=
  MetFree l y (head1 (Jvm.Cond.code y bs ml rt :: ws) R) (fun a U => a = as' ∧ Z.Warmed39 U.vm ∧ U.heap = h0) (fun _ _ _ _ _ => True) (fun _ U o U' => ∃ v L, o = .returned v ∧ Q v U'.heap L ∧ FrameEnd U o U' L R.cells R.slots)
/-- the walk from S0 has ended well -/
def Fin (p : Program) (e : Env) (below : List Frame) (s : State) (R : Room) (S0 : State) (Q : Option Value → Heap → List Loc → Prop) : Prop :=
  ∃ s₂ o, Steps p.tables e below S0 s₂ ∧ s₂.status = .running ∧ Ended s₂ below o ∧ ∃ v L, o = .returned v ∧ Q v s₂.heap L ∧ FrameEnd s o s₂ L R.cells R.slots
def slotsOf : List Value → List Slot
  | [] => []
  | v :: r => if v.category = 2 then .val v :: .second :: slotsOf r else .val v :: slotsOf r
theorem foldl_slots (L : List Value) : ∀ acc : Array Slot, L.foldl (fun acc v => if v.category = 2 then (acc.push (Slot.val v)).push Slot.second else acc.push (Slot.val v)) acc = acc ++ (slotsOf L).toArray := by
  induction L with
  | nil => intro acc; simp [slotsOf]
  | cons v r ih =>
    intro acc
    rw [List.foldl_cons, ih]
    by_cases h : v.category = 2
    · simp [slotsOf, h]
    · simp [slotsOf, h]
theorem entry_eq {m : MethodId} {L : List Value} {ml : Nat} {Ls : List Slot} (h : slotsOf L ++ List.replicate (ml - (slotsOf L).length) Slot.unset = Ls) : entryFrame m L.toArray ml = mkF m 0 Ls.toArray [] := by
  subst h
  have e : argsToLocals L.toArray ml = (slotsOf L ++ List.replicate (ml - (slotsOf L).length) Slot.unset).toArray := by
    show (L.toArray.foldl (init := #[]) fun acc v => if v.category = 2 then (acc.push (Slot.val v)).push Slot.second else acc.push (Slot.val v)) ++ Array.replicate (ml - (L.toArray.foldl (init := #[]) fun acc v => if v.category = 2 then (acc.push (Slot.val v)).push Slot.second else acc.push (Slot.val v)).size) Slot.unset = _
    rw [List.foldl_toArray, foldl_slots]
    simp
  show ({ method := m, pc := 0, locals := argsToLocals L.toArray ml, stack := [], locked := none } : JFrame) = _
  rw [e]
section Own
variable {p : Program} {l : Launch} {e : Env} {R : Room} {s : State} {m : MethodId} {args : Array Value} {below : List Frame} {meth : Method} {c : Code} {T S0 : State} {locs : List Loc} {cells slots : Nat} {Z : State} {a0 : Array Value} {h : Heap} {Q : Option Value → Heap → List Loc → Prop}
theorem enter {y : MethodName} {bs : ByteArray} {ml : Nat} {rt : Option FieldType} {ws : List Jvm.Cond} {as' : Array Value} {h0 : Heap} {Ls : Array Slot} (hpl : plainFor y = true) (hef : ∀ m, entryFrame m as' ml = mkF m 0 Ls [])
    (body : ∀ (p : Program) (e : Env) (s : State) (m : MethodId) (below : List Frame) (meth : Method) (c : Code) (s₁ S0 : State), p.tables.exec = Jvm.exec → c.code = bs → c.maxLocals = ml → meth.sig.returnType = rt → meth.locks = false → meth.name = y.name →
      s.vm.findClass y.cls = some m.cls → Z.Warmed39 s.vm → Stand p l e R s m as' below meth c s₁ [] 0 0 → s₁.heap = h0 → To p.tables e below S0 (s₁.setTop (mkF m 0 Ls [])) → Fin p e below s R S0 Q) : Con l Z y bs ml rt ws R as' h0 Q := by
  refine MetFree.of_bodySF hpl hisR ?_
  intro p e s m args below meth c s₁ Bd hml0 hP hK
  obtain ⟨rfl, hZ, hh⟩ := hP
  exact body p e s m below meth c s₁ _ Bd.exec Bd.bytes hml0 Bd.returns Bd.notSynchronized (name_of_methodNamed Bd.named Bd.method).1 (findClass_of_methodNamed Bd.named) hZ (Stand.of_body Bd) (by rw [← hh, Bd.state]; rfl) (fun t k => castTop (hef m) k)
theorem retV (X : Stand p l e R s m args below meth c T locs cells slots) (hx : p.tables.exec = Jvm.exec) {pc : Nat} {Ls : Array Slot} {w : Value} {t : FieldType} {i : Instr} {rest : List Value} (hret : meth.sig.returnType = some t) (hlk : meth.locks = false) (hn : narrow t w = w)
    (hi : (i = .ireturn ∧ (t = .int ∨ t = .boolean ∨ t = .byte ∨ t = .char ∨ t = .short) ∧ ∃ z, w = .int z) ∨ (i = .lreturn ∧ t = .long ∧ ∃ z, w = .long z) ∨ (i = .dreturn ∧ t = .double ∧ ∃ z, w = .double z) ∨ (i = .freturn ∧ t = .float ∧ ∃ z, w = .float z) ∨ (i = .areturn ∧ t.isReference = true ∧ w.isRef = true))
    (hd : decode c.code pc = .ok (i, 1)) (k : To p.tables e below S0 (T.setTop (mkF m pc Ls (w :: rest)))) (hQ : Q (some w) T.heap locs) (hc : cells ≤ R.cells) (hs : slots ≤ R.slots) : Fin p e below s R S0 Q := by
  obtain ⟨fs, hr, hrun, hended, hW, hsame⟩ := X.leave (v := some w) (fun h => by rw [hret] at h; cases h) hlk
  exact ⟨_, _, k _ (retOut X hx hret hn hi hd hr), hrun, hended, _, _, rfl, hQ, ⟨_, rfl⟩, hW, hsame.mono hc hs⟩
theorem retInt (X : Stand p l e R s m args below meth c T locs cells slots) (hx : p.tables.exec = Jvm.exec) {pc : Nat} {Ls : Array Slot} {z : Int32} {t : FieldType} {rest : List Value} (hret : meth.sig.returnType = some t) (hlk : meth.locks = false) (ht : t = .int ∨ t = .boolean ∨ t = .byte ∨ t = .char ∨ t = .short) (hn : narrow t (.int z) = .int z)
    (hd : decode c.code pc = .ok (.ireturn, 1)) (k : To p.tables e below S0 (T.setTop (mkF m pc Ls (.int z :: rest)))) (hQ : Q (some (.int z)) T.heap locs) (hc : cells ≤ R.cells) (hs : slots ≤ R.slots) : Fin p e below s R S0 Q :=
  retV X hx hret hlk hn (Or.inl ⟨rfl, ht, z, rfl⟩) hd k hQ hc hs
theorem retRef (X : Stand p l e R s m args below meth c T locs cells slots) (hx : p.tables.exec = Jvm.exec) {pc : Nat} {Ls : Array Slot} {w : Value} {t : FieldType} {rest : List Value} (hret : meth.sig.returnType = some t) (hlk : meth.locks = false) (ht : t.isReference = true) (hw : w.isRef = true)
    (hd : decode c.code pc = .ok (.areturn, 1)) (k : To p.tables e below S0 (T.setTop (mkF m pc Ls (w :: rest)))) (hQ : Q (some w) T.heap locs) (hc : cells ≤ R.cells) (hs : slots ≤ R.slots) : Fin p e below s R S0 Q :=
  retV X hx hret hlk (by rcases ref_cases hw with rfl | ⟨z, rfl⟩ <;> cases t <;> first | rfl | (cases ht; done)) (Or.inr (Or.inr (Or.inr (Or.inr ⟨rfl, ht, hw⟩)))) hd k hQ hc hs
theorem retLong (X : Stand p l e R s m args below meth c T locs cells slots) (hx : p.tables.exec = Jvm.exec) {pc : Nat} {Ls : Array Slot} {z : Int64} {rest : List Value} (hret : meth.sig.returnType = some .long) (hlk : meth.locks = false)
    (hd : decode c.code pc = .ok (.lreturn, 1)) (k : To p.tables e below S0 (T.setTop (mkF m pc Ls (.long z :: rest)))) (hQ : Q (some (.long z)) T.heap locs) (hc : cells ≤ R.cells) (hs : slots ≤ R.slots) : Fin p e below s R S0 Q :=
  retV X hx hret hlk rfl (Or.inr (Or.inl ⟨rfl, rfl, z, rfl⟩)) hd k hQ hc hs
theorem retVoid (X : Stand p l e R s m args below meth c T locs cells slots) (hx : p.tables.exec = Jvm.exec) {pc : Nat} {Ls : Array Slot} (hret : meth.sig.returnType = none) (hlk : meth.locks = false)
    (hd : decode c.code pc = .ok (.return_, 1)) (k : To p.tables e below S0 (T.setTop (mkF m pc Ls []))) (hQ : Q none T.heap locs) (hc : cells ≤ R.cells) (hs : slots ≤ R.slots) : Fin p e below s R S0 Q := by
  obtain ⟨fs, hr, hrun, hended, hW, hsame⟩ := X.leave (v := none) (fun _ => rfl) hlk
  exact ⟨_, _, k _ (X.returnOut hx hret hd hr), hrun, hended, _, _, rfl, hQ, ⟨_, rfl⟩, hW, hsame.mono hc hs⟩
theorem backC {y : MethodName} {bs : ByteArray} {ml : Nat} {rt : Option FieldType} {rm : Room} {len W : Nat} {as' : Array Value} (hM : Con l Z y bs ml rt [] rm as' h Q) (hZ : Z.Warmed39 s.vm) (wc : (Cond.code y bs ml rt).before a0 Z = true) (wz : (Cond.initialized y.cls).before a0 Z = true) (hf : rm.frames + 1 ≤ R.frames) (hl : W + (ml + 11) + rm.locals ≤ R.locals) :
    Back l R p e below s args y len W (fun A a => a = as' ∧ A.U.heap = h ∧ A.cells + rm.cells ≤ R.cells ∧ A.slots + rm.slots ≤ R.slots) (fun A _ v B => ∃ L, Q v B.U.heap L ∧ B.locs = A.locs ++ L ∧ B.cells = A.cells + rm.cells ∧ B.slots = A.slots + rm.slots) :=
  backOf (Q := Q) hM hZ wc wz hf hl
/-! calls by a contract -/
theorem callS' (X : Stand p l e R s m args below meth c T locs cells slots) (hx : p.tables.exec = Jvm.exec) (hZ : Z.Warmed39 s.vm) {own : String} {index : Nat} {y : MethodName} {bs : ByteArray} {ml : Nat} {rt : Option FieldType} {cc ss W : Nat} {as' : Array Value} {Q : Option Value → Heap → List Loc → Prop}
    (hown : s.vm.findClass own = some m.cls) (w1 : (Cond.methodLink own index y).before a0 Z = true) (w2 : (Cond.static y).before a0 Z = true) (w3 : (Cond.initialized y.cls).before a0 Z = true) (w4 : (Cond.code y bs ml rt).before a0 Z = true) (hy : y.cls ≠ "java/lang/invoke/MethodHandle" ∧ y.cls ≠ "java/lang/invoke/VarHandle")
    (hK : Back l R p e below s args y 3 W (fun A a => a = as' ∧ A.U.heap = h ∧ A.cells + cc ≤ R.cells ∧ A.slots + ss ≤ R.slots) (fun A _ v B => ∃ L, Q v B.U.heap L ∧ B.locs = A.locs ++ L ∧ B.cells = A.cells + cc ∧ B.slots = A.slots + ss)) (eT : T.heap = h) {pc : Nat} {Ls : Array Slot} {st argsL rest : List Value} (hst : st = argsL.reverse ++ rest) (has : argsL.toArray = as') {ps : List FieldType} {r : Option FieldType} (hpd : parseMethodDescriptor y.desc = some ⟨ps, r⟩) (hlen : argsL.length = ps.length) (hsize : Ls.size = c.maxLocals)
    (hd : decode c.code pc = .ok (.invokestatic index, 3)) (hW : (rest.map fun v => v.category).sum ≤ W) (hc : cells + cc ≤ R.cells) (hs : slots + ss ≤ R.slots) (k : To p.tables e below S0 (T.setTop (mkF m pc Ls st))) :
    ∃ v T' L, Stand p l e R s m args below meth c T' (locs ++ L) (cells + cc) (slots + ss) ∧ Q v T'.heap L ∧ To p.tables e below S0 (T'.setTop (mkF m (pc + 3) Ls (v.toList ++ rest))) := by
  obtain ⟨v, vm₁, ⟨T', L', k', n'⟩, -, X', ⟨L, hQ, q1, q2, q3⟩, stp⟩ := Jvm.LawKit.callS X hx hown (mvT hZ w1) (mvT hZ w2) (mvT hZ w3) (mvT hZ w4) hy hK (g := mkF m pc Ls st) rfl hsize (argsL := argsL) (rest := rest) (lenOf hpd hlen) hst (by show 2 * 0 + _ ≤ _; omega) hd (fun _ _ => ⟨has, eT, hc, hs⟩)
  dsimp only [Pt.U, Pt.locs, Pt.cells, Pt.slots] at X' q1 q2 q3 stp hQ
  subst q1 q2 q3
  exact ⟨v, T', L, X', hQ, fun t q => k t (stp t q)⟩
theorem callC' (X : Stand p l e R s m args below meth c T locs cells slots) (hx : p.tables.exec = Jvm.exec) (hZ : Z.Warmed39 s.vm) {own : String} {index : Nat} {y : MethodName} {bs : ByteArray} {ml : Nat} {cc ss W : Nat} {as' : Array Value} {Q : Option Value → Heap → List Loc → Prop}
    (hy1 : y.name = "<init>") (hown : s.vm.findClass own = some m.cls) (w1 : (Cond.methodLink own index y).before a0 Z = true) (w2 : (Cond.instanceMethod y).before a0 Z = true) (w4 : (Cond.code y bs ml none).before a0 Z = true) (hy : y.cls ≠ "java/lang/invoke/MethodHandle" ∧ y.cls ≠ "java/lang/invoke/VarHandle")
    (hK : Back l R p e below s args y 3 W (fun A a => a = as' ∧ A.U.heap = h ∧ A.cells + cc ≤ R.cells ∧ A.slots + ss ≤ R.slots) (fun A _ v B => ∃ L, Q v B.U.heap L ∧ B.locs = A.locs ++ L ∧ B.cells = A.cells + cc ∧ B.slots = A.slots + ss)) (eT : T.heap = h) {pc : Nat} {Ls : Array Slot} {a : Addr} {st argsL rest : List Value} (hst : st = argsL.reverse ++ .ref a :: rest) (has : (.ref a :: argsL).toArray = as') {ps : List FieldType} {r : Option FieldType} (hpd : parseMethodDescriptor y.desc = some ⟨ps, r⟩) (hlen : argsL.length = ps.length) (hsize : Ls.size = c.maxLocals)
    (hd : decode c.code pc = .ok (.invokespecial index, 3)) (hW : (rest.map fun v => v.category).sum ≤ W) (hc : cells + cc ≤ R.cells) (hs : slots + ss ≤ R.slots) (k : To p.tables e below S0 (T.setTop (mkF m pc Ls st))) :
    ∃ v T' L, Stand p l e R s m args below meth c T' (locs ++ L) (cells + cc) (slots + ss) ∧ Q v T'.heap L ∧ To p.tables e below S0 (T'.setTop (mkF m (pc + 3) Ls (v.toList ++ rest))) := by
  obtain ⟨v, vm₁, ⟨T', L', k', n'⟩, -, X', ⟨L, hQ, q1, q2, q3⟩, stp⟩ := X.specialBack hx hy1 hown (mvT hZ w1) (mvT hZ w2) (mvT hZ w4) hy hK (g := mkF m pc Ls st) rfl hsize (Steps.refl _) (a := a) (argsL := argsL) (rest := rest) (lenOf hpd hlen) hst (by show 2 * 0 + _ ≤ _; omega) hd (fun _ _ => ⟨has, eT, hc, hs⟩)
  dsimp only [Pt.U, Pt.locs, Pt.cells, Pt.slots] at X' q1 q2 q3 stp hQ
  subst q1 q2 q3
  exact ⟨v, T', L, X', hQ, fun t q => k t (stp.trans q)⟩
theorem callV' (X : Stand p l e R s m args below meth c T locs cells slots) (hx : p.tables.exec = Jvm.exec) (hZ : Z.Warmed39 s.vm) {own C : String} {index : Nat} {y z : MethodName} {cc ss W : Nat} {as' : Array Value} {Q : Option Value → Heap → List Loc → Prop}
    (hown : s.vm.findClass own = some m.cls) (w1 : (Cond.methodLink own index y).before a0 Z = true) (w2 : (Cond.declares y).before a0 Z = true) (hnf : NotFace s y) (w5 : (Cond.selects C y z).before a0 Z = true) (w6 : (Cond.instanceMethod z).before a0 Z = true)
    (hy : y.cls ≠ "java/lang/invoke/MethodHandle" ∧ y.cls ≠ "java/lang/invoke/VarHandle") {b : Addr} (E : Exa Z h b C)
    (hK : Back l R p e below s args z 3 W (fun A a => a = as' ∧ A.U.heap = h ∧ A.cells + cc ≤ R.cells ∧ A.slots + ss ≤ R.slots) (fun A _ v B => ∃ L, Q v B.U.heap L ∧ B.locs = A.locs ++ L ∧ B.cells = A.cells + cc ∧ B.slots = A.slots + ss)) (eT : T.heap = h) {pc : Nat} {Ls : Array Slot} {st argsL rest : List Value} (hst : st = argsL.reverse ++ .ref b :: rest) (has : (.ref b :: argsL).toArray = as') {ps : List FieldType} {r : Option FieldType} (hpd : parseMethodDescriptor y.desc = some ⟨ps, r⟩) (hlen : argsL.length = ps.length) (hsize : Ls.size = c.maxLocals)
    (hd : decode c.code pc = .ok (.invokevirtual index, 3)) (hW : (rest.map fun v => v.category).sum ≤ W) (hc : cells + cc ≤ R.cells) (hs : slots + ss ≤ R.slots) (k : To p.tables e below S0 (T.setTop (mkF m pc Ls st))) :
    ∃ v T' L, Stand p l e R s m args below meth c T' (locs ++ L) (cells + cc) (slots + ss) ∧ Q v T'.heap L ∧ To p.tables e below S0 (T'.setTop (mkF m (pc + 3) Ls (v.toList ++ rest))) := by
  obtain ⟨cq, kq, qa, qb, qc⟩ := isOf hZ eT E
  obtain ⟨v, vm₁, ⟨T', L', k', n'⟩, -, X', ⟨L, hQ, q1, q2, q3⟩, stp⟩ := X.virtualBack hx hown (mvT hZ w1) (mvT hZ w2) hnf (mvT hZ w5) (mvT hZ w6) hy hK qa qc (g := mkF m pc Ls st) rfl hsize (Steps.refl _) (argsL := argsL) (rest := rest) (lenOf hpd hlen) hst (by show 2 * 0 + _ ≤ _; omega) hd (fun _ _ => ⟨has, eT, hc, hs⟩)
  dsimp only [Pt.U, Pt.locs, Pt.cells, Pt.slots] at X' q1 q2 q3 stp hQ
  subst q1 q2 q3
  exact ⟨v, T', L, X', hQ, fun t q => k t (stp.trans q)⟩
theorem callU' (X : Stand p l e R s m args below meth c T locs cells slots) (hx : p.tables.exec = Jvm.exec) (hZ : Z.Warmed39 s.vm) {own C owner : String} {index : Nat} {y z : MethodName} {cc ss W : Nat} {as' : Array Value} {Q : Option Value → Heap → List Loc → Prop}
    (hown : s.vm.findClass own = some m.cls) (w1 : (Cond.methodLink own index y).before a0 Z = true) (w7 : (Cond.sameMethod y.cls owner y.name y.desc).before a0 Z = true) (w2 : (Cond.declares ⟨owner, y.name, y.desc⟩).before a0 Z = true) (w5 : (Cond.selects C y z).before a0 Z = true) (w6 : (Cond.instanceMethod z).before a0 Z = true)
    (hy : owner ≠ "java/lang/invoke/MethodHandle" ∧ owner ≠ "java/lang/invoke/VarHandle") {b : Addr} (E : Exa Z h b C)
    (hK : Back l R p e below s args z 3 W (fun A a => a = as' ∧ A.U.heap = h ∧ A.cells + cc ≤ R.cells ∧ A.slots + ss ≤ R.slots) (fun A _ v B => ∃ L, Q v B.U.heap L ∧ B.locs = A.locs ++ L ∧ B.cells = A.cells + cc ∧ B.slots = A.slots + ss)) (eT : T.heap = h) {pc : Nat} {Ls : Array Slot} {st argsL rest : List Value} (hst : st = argsL.reverse ++ .ref b :: rest) (has : (.ref b :: argsL).toArray = as') {ps : List FieldType} {r : Option FieldType} (hpd : parseMethodDescriptor y.desc = some ⟨ps, r⟩) (hlen : argsL.length = ps.length) (hsize : Ls.size = c.maxLocals)
    (hd : decode c.code pc = .ok (.invokevirtual index, 3)) (hW : (rest.map fun v => v.category).sum ≤ W) (hc : cells + cc ≤ R.cells) (hs : slots + ss ≤ R.slots) (k : To p.tables e below S0 (T.setTop (mkF m pc Ls st))) :
    ∃ v T' L, Stand p l e R s m args below meth c T' (locs ++ L) (cells + cc) (slots + ss) ∧ Q v T'.heap L ∧ To p.tables e below S0 (T'.setTop (mkF m (pc + 3) Ls (v.toList ++ rest))) := by
  obtain ⟨cq, kq, qa, qb, qc⟩ := isOf hZ eT E
  obtain ⟨v, vm₁, ⟨T', L', k', n'⟩, -, X', ⟨L, hQ, q1, q2, q3⟩, stp⟩ := X.virtualBackUp hx hown (mvT hZ w1) (mvT hZ w7) (mvT hZ w2) hy (mvT hZ w5) (mvT hZ w6) hK qa qc (g := mkF m pc Ls st) rfl hsize (Steps.refl _) (argsL := argsL) (rest := rest) (lenOf hpd hlen) hst (by show 2 * 0 + _ ≤ _; omega) hd (fun _ _ => ⟨has, eT, hc, hs⟩)
  dsimp only [Pt.U, Pt.locs, Pt.cells, Pt.slots] at X' q1 q2 q3 stp hQ
  subst q1 q2 q3
  exact ⟨v, T', L, X', hQ, fun t q => k t (stp.trans q)⟩
theorem callI' (X : Stand p l e R s m args below meth c T locs cells slots) (hx : p.tables.exec = Jvm.exec) (hZ : Z.Warmed39 s.vm) {own C : String} {index count : Nat} {y z : MethodName} {cc ss W : Nat} {as' : Array Value} {Q : Option Value → Heap → List Loc → Prop}
    (hown : s.vm.findClass own = some m.cls) (w1 : (Cond.methodLink own index y).before a0 Z = true) (w2 : (Cond.declares y).before a0 Z = true) (w7 : (Cond.interfaceMethod y.cls y.cls y.name y.desc).before a0 Z = true) (hd7 : ((Cond.interfaceMethod y.cls y.cls y.name y.desc).onTables && (Cond.interfaceMethod y.cls y.cls y.name y.desc).keepsFace) = true) (w5 : (Cond.selects C y z).before a0 Z = true) (w6 : (Cond.instanceMethod z).before a0 Z = true) (w8 : (Cond.publicMethod z).before a0 Z = true) (w9 : (Cond.unhidden C y.name y.desc).before a0 Z = true) (w10 : (Cond.castable C y.cls).before a0 Z = true)
    (hy : y.cls ≠ "java/lang/invoke/MethodHandle" ∧ y.cls ≠ "java/lang/invoke/VarHandle") {b : Addr} (E : Exa Z h b C)
    (hK : Back l R p e below s args z 5 W (fun A a => a = as' ∧ A.U.heap = h ∧ A.cells + cc ≤ R.cells ∧ A.slots + ss ≤ R.slots) (fun A _ v B => ∃ L, Q v B.U.heap L ∧ B.locs = A.locs ++ L ∧ B.cells = A.cells + cc ∧ B.slots = A.slots + ss)) (eT : T.heap = h) {pc : Nat} {Ls : Array Slot} {st argsL rest : List Value} (hst : st = argsL.reverse ++ .ref b :: rest) (has : (.ref b :: argsL).toArray = as') {ps : List FieldType} {r : Option FieldType} (hpd : parseMethodDescriptor y.desc = some ⟨ps, r⟩) (hlen : argsL.length = ps.length) (hsize : Ls.size = c.maxLocals)
    (hd : decode c.code pc = .ok (.invokeinterface index count, 5)) (hW : (rest.map fun v => v.category).sum ≤ W) (hc : cells + cc ≤ R.cells) (hs : slots + ss ≤ R.slots) (k : To p.tables e below S0 (T.setTop (mkF m pc Ls st))) :
    ∃ v T' L, Stand p l e R s m args below meth c T' (locs ++ L) (cells + cc) (slots + ss) ∧ Q v T'.heap L ∧ To p.tables e below S0 (T'.setTop (mkF m (pc + 5) Ls (v.toList ++ rest))) := by
  obtain ⟨cq, kq, qa, qb, qc⟩ := isOf hZ eT E
  obtain ⟨v, vm₁, ⟨T', L', k', n'⟩, -, X', ⟨L, hQ, q1, q2, q3⟩, stp⟩ := X.interfaceBack hx hown (mvT hZ w1) (mvT hZ w2) (mvT hZ w7 hd7) (mvT hZ w5) (mvT hZ w6) (mvT hZ w8) (mvT hZ w9) (mvT hZ w10) hy hK qa qb qc (g := mkF m pc Ls st) rfl hsize (Steps.refl _) (argsL := argsL) (rest := rest) (lenOf hpd hlen) hst (by show 2 * 0 + _ ≤ _; omega) hd (fun _ _ => ⟨has, eT, hc, hs⟩)
  dsimp only [Pt.U, Pt.locs, Pt.cells, Pt.slots] at X' q1 q2 q3 stp hQ
  subst q1 q2 q3
  exact ⟨v, T', L, X', hQ, fun t q => k t (stp.trans q)⟩
theorem staOld {n0 : Nat} {C n d : String} {v : Value} (F : Sta Z Z.heap C n d v) (O : Old Z n0 h) : Sta Z h C n d v := F.ext O.2
theorem exaOld {n0 : Nat} {C : String} {a : Addr} (F : Exa Z Z.heap a C) (O : Old Z n0 h) : Exa Z h a C := F.ext O.2
theorem fldOld {n0 : Nat} {C n d : String} {a : Addr} {v : Value} (F : Fld Z Z.heap a C n d v) (O : Old Z n0 h) : Fld Z h a C n d v := F.ext O.2
theorem joinT (X : Stand p l e R s m args below meth c T locs cells slots) (eT : T.heap = h) (F : JFrame) {G : Prop} (br : (∀ T', Stand p l e R s m args below meth c T' locs cells slots → T'.heap = h → To p.tables e below S0 (T'.setTop F) → G) → G)
    (rest : ∀ T', Stand p l e R s m args below meth c T' locs cells slots → T'.heap = h → To p.tables e below S0 (T'.setTop F) → G) : G := br rest
theorem own_m255 (c : Int32) : ¬ (c &&& 255) < (0 : Int32) ∧ ¬ (255 : Int32) < (c &&& 255) := by
  have h : (c &&& 255).toBitVec.toNat ≤ 255 := by
    rw [Int32.toBitVec_and, BitVec.toNat_and]; exact Nat.and_le_right
  have h2 : (c &&& 255).toInt = ((c &&& 255).toBitVec.toNat : Int) := by
    show (c &&& 255).toBitVec.toInt = _
    rw [BitVec.toInt_eq_toNat_of_lt (by omega)]
  rw [Int32.lt_iff_toInt_lt, Int32.lt_iff_toInt_lt, h2, show (0 : Int32).toInt = 0 from rfl, show (255 : Int32).toInt = 255 by decide]
  omega
theorem own_and255_of {v : Int32} (h : ¬ v < (0 : Int32) ∧ ¬ (255 : Int32) < v) : v &&& 255 = v := by
  rw [Int32.lt_iff_toInt_lt, Int32.lt_iff_toInt_lt, show (0 : Int32).toInt = 0 from rfl, show (255 : Int32).toInt = 255 by decide] at h
  have e : v.toInt = (v.toBitVec.toNat : Int) := by
    show v.toBitVec.toInt = _
    have h1 : ¬ v.toBitVec.toInt < 0 := h.1
    rw [BitVec.toInt_eq_toNat_cond] at h1 ⊢
    split <;> rename_i q
    · rfl
    · rw [if_neg q] at h1; have := v.toBitVec.isLt; omega
  apply Int32.toBitVec_inj.mp
  apply BitVec.eq_of_toNat_eq
  rw [Int32.toBitVec_and, BitVec.toNat_and, show (255 : Int32).toBitVec.toNat = 2 ^ 8 - 1 from rfl, Nat.and_two_pow_sub_one_eq_mod]
  omega
theorem own_narc {v : Int32} (h : ¬ v < (0 : Int32) ∧ ¬ (255 : Int32) < v) : nar .char v = v := by
  have e := own_and255_of h
  rw [← e]; exact i2c_mask v
theorem own_fitc {v : Int32} (h : ¬ v < (0 : Int32) ∧ ¬ (255 : Int32) < v) : fits .char (.int v) = true := by
  have q := fits_nar_char v; rw [own_narc h] at q; exact q
theorem own_b255 {v : Int32} (h : ¬ v < (0 : Int32) ∧ ¬ (255 : Int32) < v) : (nar .byte (v.toInt8.toInt32)) &&& (255 : Int32) = v := by
  refine Eq.trans ?_ (own_and255_of h)
  have e : (v.toInt8.toInt32).toInt8 = v.toInt8 := by
    apply Int8.toBitVec_inj.mp; rw [Int32.toBitVec_toInt8, Int8.toBitVec_toInt32, BitVec.signExtend_eq_setWidth_of_le _ (by omega)]
    apply BitVec.eq_of_toNat_eq
    rw [BitVec.toNat_setWidth, BitVec.toNat_signExtend]
    have := v.toInt8.toBitVec.isLt
    simp only [BitVec.toNat_setWidth]
    split <;> omega
  show (v.toInt8.toInt32).toInt8.toInt32 &&& 255 = v &&& 255
  rw [e]
  apply Int32.toBitVec_inj.mp
  apply BitVec.eq_of_toNat_eq
  rw [Int32.toBitVec_and, Int32.toBitVec_and, BitVec.toNat_and, BitVec.toNat_and, show (255 : Int32).toBitVec.toNat = 2 ^ 8 - 1 from rfl, Nat.and_two_pow_sub_one_eq_mod, Nat.and_two_pow_sub_one_eq_mod, Int8.toBitVec_toInt32, Int32.toBitVec_toInt8, BitVec.toNat_signExtend]
  have h1 := v.toBitVec.isLt
  simp only [BitVec.toNat_setWidth, BitVec.toNat_signExtend]
  split <;> split <;> omega
theorem own_narrowc (x : Int32) : narrow .char (.int (x &&& 255)) = .int (x &&& 255) := congrArg Value.int (own_narc (own_m255 x))
theorem adr_ne {a b : Nat} (h : ¬ a = b) : a ≠ b := h
theorem own_nz {s : State} {args : Array Value} {t : Term} {z : Int32} (e : t.eval args s none [] s = some (.int z)) (h : (Jvm.Cond.not (.eq t (.int 0))).value args s none s [] = some true) : ¬ z = (0 : Int32) := fun q => by
  subst q; have h2 := not_v h; simp [Cond.value, e, Term.eval] at h2
theorem fits_isref {C : String} {w : Value} (h : w.isRef = true) : fits (.object C) w = true := by rcases ref_cases h with rfl | ⟨z, rfl⟩ <;> rfl
theorem narrow_ref {t : FieldType} {w : Value} (h : w.isRef = true) : narrow t w = w := by rcases ref_cases h with rfl | ⟨z, rfl⟩ <;> cases t <;> rfl
end Own
theorem d_jdk_52_method_21_code_0 : decode jdk_52_method_21_code 0 = .ok (.iconst 0, 1) := by decide +kernel
theorem d_jdk_52_method_21_code_1 : decode jdk_52_method_21_code 1 = .ok (.istore 5, 2) := by decide +kernel
theorem d_jdk_52_method_21_code_3 : decode jdk_52_method_21_code 3 = .ok (.iload 5, 2) := by decide +kernel
theorem d_jdk_52_method_21_code_5 : decode jdk_52_method_21_code 5 = .ok (.iload 4, 2) := by decide +kernel
theorem d_jdk_52_method_21_code_7 : decode jdk_52_method_21_code 7 = .ok (.if_icmp .ge 37, 3) := by decide +kernel
theorem d_jdk_52_method_21_code_10 : decode jdk_52_method_21_code 10 = .ok (.aload_n 0, 1) := by decide +kernel
theorem d_jdk_52_method_21_code_11 : decode jdk_52_method_21_code 11 = .ok (.iload_n 1, 1) := by decide +kernel
theorem d_jdk_52_method_21_code_12 : decode jdk_52_method_21_code 12 = .ok (.caload, 1) := by decide +kernel
theorem d_jdk_52_method_21_code_13 : decode jdk_52_method_21_code 13 = .ok (.istore 6, 2) := by decide +kernel
theorem d_jdk_52_method_21_code_15 : decode jdk_52_method_21_code 15 = .ok (.iload 6, 2) := by decide +kernel
theorem d_jdk_52_method_21_code_17 : decode jdk_52_method_21_code 17 = .ok (.sipush 255, 3) := by decide +kernel
theorem d_jdk_52_method_21_code_20 : decode jdk_52_method_21_code 20 = .ok (.if_icmp .le 6, 3) := by decide +kernel
theorem d_jdk_52_method_21_code_23 : decode jdk_52_method_21_code 23 = .ok (.iload 5, 2) := by decide +kernel
theorem d_jdk_52_method_21_code_25 : decode jdk_52_method_21_code 25 = .ok (.ireturn, 1) := by decide +kernel
theorem d_jdk_52_method_21_code_26 : decode jdk_52_method_21_code 26 = .ok (.aload_n 2, 1) := by decide +kernel
theorem d_jdk_52_method_21_code_27 : decode jdk_52_method_21_code 27 = .ok (.iload_n 3, 1) := by decide +kernel
theorem d_jdk_52_method_21_code_28 : decode jdk_52_method_21_code 28 = .ok (.iload 6, 2) := by decide +kernel
theorem d_jdk_52_method_21_code_30 : decode jdk_52_method_21_code 30 = .ok (.i2b, 1) := by decide +kernel
theorem d_jdk_52_method_21_code_31 : decode jdk_52_method_21_code 31 = .ok (.bastore, 1) := by decide +kernel
theorem d_jdk_52_method_21_code_32 : decode jdk_52_method_21_code 32 = .ok (.iinc 1 1, 3) := by decide +kernel
theorem d_jdk_52_method_21_code_35 : decode jdk_52_method_21_code 35 = .ok (.iinc 3 1, 3) := by decide +kernel
theorem d_jdk_52_method_21_code_38 : decode jdk_52_method_21_code 38 = .ok (.iinc 5 1, 3) := by decide +kernel
theorem d_jdk_52_method_21_code_41 : decode jdk_52_method_21_code 41 = .ok (.goto (-38), 3) := by decide +kernel
theorem d_jdk_52_method_21_code_44 : decode jdk_52_method_21_code 44 = .ok (.iload 4, 2) := by decide +kernel
theorem d_jdk_52_method_21_code_46 : decode jdk_52_method_21_code 46 = .ok (.ireturn, 1) := by decide +kernel
theorem pn_0 : plainName "java/lang/StringUTF16" = true := by first | (simp [plainName, overriddenIn]; done) | decide +kernel
set_option maxRecDepth 65536 in
set_option maxHeartbeats 40000000 in
theorem rm_c5_4 (l : Launch) (Z : State) (a0 : Array Value) (hw : ∀ d ∈ tables_1, d.before a0 Z = true) (b : Addr) (kb : ClassId) (t : Addr) (kt : ClassId) (d0 : Int32) (d1 : Int32) (d2 : Int32) (d3 : Int32) (h0 : Heap) (n0 : Nat) (hn0 : n0 ≤ h0.size) (P0 : Arv Z h0 b kb .char (4 : Int32) [(.int d0), (.int d1), (.int d2), (.int d3)] (.int (0 : Int32))) (P1 : Arv Z h0 t kt .byte (4 : Int32) [(.int (0 : Int32)), (.int (0 : Int32)), (.int (0 : Int32)), (.int (0 : Int32))] (.int (0 : Int32))) (ga : n0 ≤ t) (nbt : ¬ (@Eq Nat b t)) (hd0 : ¬ d0 < (0 : Int32) ∧ ¬ (255 : Int32) < d0) (hd1 : ¬ d1 < (0 : Int32) ∧ ¬ (255 : Int32) < d1) (hd2 : ¬ d2 < (0 : Int32) ∧ ¬ (255 : Int32) < d2) (hd3 : ¬ d3 < (0 : Int32) ∧ ¬ (255 : Int32) < d3) :
    Con l Z (⟨"java/lang/StringUTF16", "compress", "([CI[BII)I"⟩ : MethodName) jdk_52_method_21_code 7 (some .int) [] ({ frames := 0, cells := 0, slots := 0, locals := 0 } : Room) #[(.ref b), (.int (0 : Int32)), (.ref t), (.int (0 : Int32)), (.int (4 : Int32))] h0 (fun v h L => v = some (.int (4 : Int32)) ∧ Fr n0 L ∧ Keep h0 h [t] ∧ Arv Z h t kt .byte (4 : Int32) [(.int (nar .byte (d0.toInt8.toInt32))), (.int (nar .byte (d1.toInt8.toInt32))), (.int (nar .byte (d2.toInt8.toInt32))), (.int (nar .byte (d3.toInt8.toInt32)))] (.int (0 : Int32))) := by
  refine enter (Ls := #[.val (.ref b), .val (.int (0 : Int32)), .val (.ref t), .val (.int (0 : Int32)), .val (.int (4 : Int32)), .unset, .unset]) (plainFor_of_name pn_0) (fun m => by exact entry_eq rfl) ?_
  intro p e s m below meth cd_ s₁ S0 hx hby hml hret hlk hnm hown hZ X0 e0 k0
  have N0 := Fr.nil n0
  have k1 : To p.tables e below S0 (s₁.setTop (mkF m 12 #[.val (.ref b), .val (.int (0 : Int32)), .val (.ref t), .val (.int (0 : Int32)), .val (.int (4 : Int32)), .val (.int (0 : Int32)), .unset] [(.int (0 : Int32)), (.ref b)])) := fun tt hq => k0 tt (by
    show Steps _ _ _ (s₁.setTop (mkF m 0 #[.val (.ref b), .val (.int (0 : Int32)), .val (.ref t), .val (.int (0 : Int32)), .val (.int (4 : Int32)), .unset, .unset] [])) _
    refine XS.iconst X0.here hx rfl (hb hby d_jdk_52_method_21_code_0) ?_
    show Steps _ _ _ (s₁.setTop (mkF m 1 #[.val (.ref b), .val (.int (0 : Int32)), .val (.ref t), .val (.int (0 : Int32)), .val (.int (4 : Int32)), .unset, .unset] [(.int (0 : Int32))])) _
    refine XS.istore X0.here hx rfl (hb hby d_jdk_52_method_21_code_1) rfl (l' := #[.val (.ref b), .val (.int (0 : Int32)), .val (.ref t), .val (.int (0 : Int32)), .val (.int (4 : Int32)), .val (.int (0 : Int32)), .unset]) rfl ?_
    show Steps _ _ _ (s₁.setTop (mkF m 3 #[.val (.ref b), .val (.int (0 : Int32)), .val (.ref t), .val (.int (0 : Int32)), .val (.int (4 : Int32)), .val (.int (0 : Int32)), .unset] [])) _
    refine XS.iload X0.here hx rfl (hb hby d_jdk_52_method_21_code_3) rfl ?_
    show Steps _ _ _ (s₁.setTop (mkF m 5 #[.val (.ref b), .val (.int (0 : Int32)), .val (.ref t), .val (.int (0 : Int32)), .val (.int (4 : Int32)), .val (.int (0 : Int32)), .unset] [(.int (0 : Int32))])) _
    refine XS.iload X0.here hx rfl (hb hby d_jdk_52_method_21_code_5) rfl ?_
    show Steps _ _ _ (s₁.setTop (mkF m 7 #[.val (.ref b), .val (.int (0 : Int32)), .val (.ref t), .val (.int (0 : Int32)), .val (.int (4 : Int32)), .val (.int (0 : Int32)), .unset] [(.int (4 : Int32)), (.int (0 : Int32))])) _
    refine XS.icmpNo X0.here hx rfl (hb hby d_jdk_52_method_21_code_7) rfl (tlt (by decide)).2.1 ?_
    show Steps _ _ _ (s₁.setTop (mkF m 10 #[.val (.ref b), .val (.int (0 : Int32)), .val (.ref t), .val (.int (0 : Int32)), .val (.int (4 : Int32)), .val (.int (0 : Int32)), .unset] [])) _
    refine XS.aloadN X0.here hx rfl (hb hby d_jdk_52_method_21_code_10) rfl rfl ?_
    show Steps _ _ _ (s₁.setTop (mkF m 11 #[.val (.ref b), .val (.int (0 : Int32)), .val (.ref t), .val (.int (0 : Int32)), .val (.int (4 : Int32)), .val (.int (0 : Int32)), .unset] [(.ref b)])) _
    refine XS.iloadN X0.here hx rfl (hb hby d_jdk_52_method_21_code_11) rfl ?_
    show Steps _ _ _ (s₁.setTop (mkF m 12 #[.val (.ref b), .val (.int (0 : Int32)), .val (.ref t), .val (.int (0 : Int32)), .val (.int (4 : Int32)), .val (.int (0 : Int32)), .unset] [(.int (0 : Int32)), (.ref b)])) _
    exact hq)
  obtain ⟨cl2, Ar2, -, S2, -, G2, -⟩ := id P0
  have hi2 := inb_of (j := (0 : Int32)) S2 ⟨by decide, by decide⟩
  have st2 := fun tt => X0.caload hx (j := (0 : Int32)) (v := (.int d0)) (by rw [e0]; exact Ar2.1) (State.isArrayOf_alike hZ.alike Ar2.2.1) Ar2.2.2 hi2 (G2.at hi2 rfl) (g := (mkF m 12 #[.val (.ref b), .val (.int (0 : Int32)), .val (.ref t), .val (.int (0 : Int32)), .val (.int (4 : Int32)), .val (.int (0 : Int32)), .unset] [(.int (0 : Int32)), (.ref b)])) rfl rfl (hb hby d_jdk_52_method_21_code_12) tt
  have k2 : To p.tables e below S0 (s₁.setTop (mkF m 13 #[.val (.ref b), .val (.int (0 : Int32)), .val (.ref t), .val (.int (0 : Int32)), .val (.int (4 : Int32)), .val (.int (0 : Int32)), .unset] [(.int d0)])) := fun tt hq => k1 tt (st2 tt hq)
  have k3 : To p.tables e below S0 (s₁.setTop (mkF m 31 #[.val (.ref b), .val (.int (0 : Int32)), .val (.ref t), .val (.int (0 : Int32)), .val (.int (4 : Int32)), .val (.int (0 : Int32)), .val (.int d0)] [(.int (d0.toInt8.toInt32)), (.int (0 : Int32)), (.ref t)])) := fun tt hq => k2 tt (by
    show Steps _ _ _ (s₁.setTop (mkF m 13 #[.val (.ref b), .val (.int (0 : Int32)), .val (.ref t), .val (.int (0 : Int32)), .val (.int (4 : Int32)), .val (.int (0 : Int32)), .unset] [(.int d0)])) _
    refine XS.istore X0.here hx rfl (hb hby d_jdk_52_method_21_code_13) rfl (l' := #[.val (.ref b), .val (.int (0 : Int32)), .val (.ref t), .val (.int (0 : Int32)), .val (.int (4 : Int32)), .val (.int (0 : Int32)), .val (.int d0)]) rfl ?_
    show Steps _ _ _ (s₁.setTop (mkF m 15 #[.val (.ref b), .val (.int (0 : Int32)), .val (.ref t), .val (.int (0 : Int32)), .val (.int (4 : Int32)), .val (.int (0 : Int32)), .val (.int d0)] [])) _
    refine XS.iload X0.here hx rfl (hb hby d_jdk_52_method_21_code_15) rfl ?_
    show Steps _ _ _ (s₁.setTop (mkF m 17 #[.val (.ref b), .val (.int (0 : Int32)), .val (.ref t), .val (.int (0 : Int32)), .val (.int (4 : Int32)), .val (.int (0 : Int32)), .val (.int d0)] [(.int d0)])) _
    refine XS.sipush X0.here hx rfl (hb hby d_jdk_52_method_21_code_17) ?_
    show Steps _ _ _ (s₁.setTop (mkF m 20 #[.val (.ref b), .val (.int (0 : Int32)), .val (.ref t), .val (.int (0 : Int32)), .val (.int (4 : Int32)), .val (.int (0 : Int32)), .val (.int d0)] [(.int (255 : Int32)), (.int d0)])) _
    refine XS.icmpYes X0.here hx rfl (pc0 := 20) (pc' := 26) rfl (hb hby d_jdk_52_method_21_code_20) rfl (flt hd0.2).2.2.2 (by decide) (by decide) ?_
    show Steps _ _ _ (s₁.setTop (mkF m 26 #[.val (.ref b), .val (.int (0 : Int32)), .val (.ref t), .val (.int (0 : Int32)), .val (.int (4 : Int32)), .val (.int (0 : Int32)), .val (.int d0)] [])) _
    refine XS.aloadN X0.here hx rfl (hb hby d_jdk_52_method_21_code_26) rfl rfl ?_
    show Steps _ _ _ (s₁.setTop (mkF m 27 #[.val (.ref b), .val (.int (0 : Int32)), .val (.ref t), .val (.int (0 : Int32)), .val (.int (4 : Int32)), .val (.int (0 : Int32)), .val (.int d0)] [(.ref t)])) _
    refine XS.iloadN X0.here hx rfl (hb hby d_jdk_52_method_21_code_27) rfl ?_
    show Steps _ _ _ (s₁.setTop (mkF m 28 #[.val (.ref b), .val (.int (0 : Int32)), .val (.ref t), .val (.int (0 : Int32)), .val (.int (4 : Int32)), .val (.int (0 : Int32)), .val (.int d0)] [(.int (0 : Int32)), (.ref t)])) _
    refine XS.iload X0.here hx rfl (hb hby d_jdk_52_method_21_code_28) rfl ?_
    show Steps _ _ _ (s₁.setTop (mkF m 30 #[.val (.ref b), .val (.int (0 : Int32)), .val (.ref t), .val (.int (0 : Int32)), .val (.int (4 : Int32)), .val (.int (0 : Int32)), .val (.int d0)] [(.int d0), (.int (0 : Int32)), (.ref t)])) _
    refine XS.i2b X0.here hx rfl (hb hby d_jdk_52_method_21_code_30) rfl ?_
    show Steps _ _ _ (s₁.setTop (mkF m 31 #[.val (.ref b), .val (.int (0 : Int32)), .val (.ref t), .val (.int (0 : Int32)), .val (.int (4 : Int32)), .val (.int (0 : Int32)), .val (.int d0)] [(.int (d0.toInt8.toInt32)), (.int (0 : Int32)), (.ref t)])) _
    exact hq)
  obtain ⟨cl4, Ar4, q4, S4, M4, G4, J4⟩ := id P1
  obtain ⟨T4, h4, X4, e4, W4, st4⟩ := stB X0 hx hZ e0 Ar4 (j := (0 : Int32)) (inb_of S4 ⟨by decide, by decide⟩) (g := (mkF m 31 #[.val (.ref b), .val (.int (0 : Int32)), .val (.ref t), .val (.int (0 : Int32)), .val (.int (4 : Int32)), .val (.int (0 : Int32)), .val (.int d0)] [(.int (d0.toInt8.toInt32)), (.int (0 : Int32)), (.ref t)])) rfl rfl (hb hby d_jdk_52_method_21_code_31)
  have k4 : To p.tables e below S0 (T4.setTop (mkF m 32 #[.val (.ref b), .val (.int (0 : Int32)), .val (.ref t), .val (.int (0 : Int32)), .val (.int (4 : Int32)), .val (.int (0 : Int32)), .val (.int d0)] [])) := fun tt hq => k3 tt (st4 tt hq)
  have z4 : h4.size = h0.size := W4.size
  have V4 : Arv Z h4 t kt .byte (4 : Int32) [(.int (nar .byte (d0.toInt8.toInt32))), (.int (0 : Int32)), (.int (0 : Int32)), (.int (0 : Int32))] (.int (0 : Int32)) := Arv.set Ar4 q4 S4 M4 G4 J4 (fits_nar_byte _) W4 0 rfl (Nat.le_of_ble_eq_true rfl)
  have N4 := Fr.snoc X4 N0 (by omega : n0 ≤ t)
  have f5 : Arv Z h4 b kb .char (4 : Int32) [(.int d0), (.int d1), (.int d2), (.int d3)] (.int (0 : Int32)) := (P0.other W4 (adr_ne (by omega)))
  have k6 : To p.tables e below S0 (T4.setTop (mkF m 12 #[.val (.ref b), .val (.int (1 : Int32)), .val (.ref t), .val (.int (1 : Int32)), .val (.int (4 : Int32)), .val (.int (1 : Int32)), .val (.int d0)] [(.int (1 : Int32)), (.ref b)])) := fun tt hq => k4 tt (by
    show Steps _ _ _ (T4.setTop (mkF m 32 #[.val (.ref b), .val (.int (0 : Int32)), .val (.ref t), .val (.int (0 : Int32)), .val (.int (4 : Int32)), .val (.int (0 : Int32)), .val (.int d0)] [])) _
    refine XS.iinc X4.here hx rfl (hb hby d_jdk_52_method_21_code_32) rfl (l' := #[.val (.ref b), .val (.int (1 : Int32)), .val (.ref t), .val (.int (0 : Int32)), .val (.int (4 : Int32)), .val (.int (0 : Int32)), .val (.int d0)]) rfl ?_
    show Steps _ _ _ (T4.setTop (mkF m 35 #[.val (.ref b), .val (.int (1 : Int32)), .val (.ref t), .val (.int (0 : Int32)), .val (.int (4 : Int32)), .val (.int (0 : Int32)), .val (.int d0)] [])) _
    refine XS.iinc X4.here hx rfl (hb hby d_jdk_52_method_21_code_35) rfl (l' := #[.val (.ref b), .val (.int (1 : Int32)), .val (.ref t), .val (.int (1 : Int32)), .val (.int (4 : Int32)), .val (.int (0 : Int32)), .val (.int d0)]) rfl ?_
    show Steps _ _ _ (T4.setTop (mkF m 38 #[.val (.ref b), .val (.int (1 : Int32)), .val (.ref t), .val (.int (1 : Int32)), .val (.int (4 : Int32)), .val (.int (0 : Int32)), .val (.int d0)] [])) _
    refine XS.iinc X4.here hx rfl (hb hby d_jdk_52_method_21_code_38) rfl (l' := #[.val (.ref b), .val (.int (1 : Int32)), .val (.ref t), .val (.int (1 : Int32)), .val (.int (4 : Int32)), .val (.int (1 : Int32)), .val (.int d0)]) rfl ?_
    show Steps _ _ _ (T4.setTop (mkF m 41 #[.val (.ref b), .val (.int (1 : Int32)), .val (.ref t), .val (.int (1 : Int32)), .val (.int (4 : Int32)), .val (.int (1 : Int32)), .val (.int d0)] [])) _
    refine XS.goto X4.here hx rfl (pc0 := 41) (pc' := 3) rfl (hb hby d_jdk_52_method_21_code_41) (by decide) (by decide) ?_
    show Steps _ _ _ (T4.setTop (mkF m 3 #[.val (.ref b), .val (.int (1 : Int32)), .val (.ref t), .val (.int (1 : Int32)), .val (.int (4 : Int32)), .val (.int (1 : Int32)), .val (.int d0)] [])) _
    refine XS.iload X4.here hx rfl (hb hby d_jdk_52_method_21_code_3) rfl ?_
    show Steps _ _ _ (T4.setTop (mkF m 5 #[.val (.ref b), .val (.int (1 : Int32)), .val (.ref t), .val (.int (1 : Int32)), .val (.int (4 : Int32)), .val (.int (1 : Int32)), .val (.int d0)] [(.int (1 : Int32))])) _
    refine XS.iload X4.here hx rfl (hb hby d_jdk_52_method_21_code_5) rfl ?_
    show Steps _ _ _ (T4.setTop (mkF m 7 #[.val (.ref b), .val (.int (1 : Int32)), .val (.ref t), .val (.int (1 : Int32)), .val (.int (4 : Int32)), .val (.int (1 : Int32)), .val (.int d0)] [(.int (4 : Int32)), (.int (1 : Int32))])) _
    refine XS.icmpNo X4.here hx rfl (hb hby d_jdk_52_method_21_code_7) rfl (tlt (by decide)).2.1 ?_
    show Steps _ _ _ (T4.setTop (mkF m 10 #[.val (.ref b), .val (.int (1 : Int32)), .val (.ref t), .val (.int (1 : Int32)), .val (.int (4 : Int32)), .val (.int (1 : Int32)), .val (.int d0)] [])) _
    refine XS.aloadN X4.here hx rfl (hb hby d_jdk_52_method_21_code_10) rfl rfl ?_
    show Steps _ _ _ (T4.setTop (mkF m 11 #[.val (.ref b), .val (.int (1 : Int32)), .val (.ref t), .val (.int (1 : Int32)), .val (.int (4 : Int32)), .val (.int (1 : Int32)), .val (.int d0)] [(.ref b)])) _
    refine XS.iloadN X4.here hx rfl (hb hby d_jdk_52_method_21_code_11) rfl ?_
    show Steps _ _ _ (T4.setTop (mkF m 12 #[.val (.ref b), .val (.int (1 : Int32)), .val (.ref t), .val (.int (1 : Int32)), .val (.int (4 : Int32)), .val (.int (1 : Int32)), .val (.int d0)] [(.int (1 : Int32)), (.ref b)])) _
    exact hq)
  obtain ⟨cl7, Ar7, -, S7, -, G7, -⟩ := id f5
  have hi7 := inb_of (j := (1 : Int32)) S7 ⟨by decide, by decide⟩
  have st7 := fun tt => X4.caload hx (j := (1 : Int32)) (v := (.int d1)) (by rw [e4]; exact Ar7.1) (State.isArrayOf_alike hZ.alike Ar7.2.1) Ar7.2.2 hi7 (G7.at hi7 rfl) (g := (mkF m 12 #[.val (.ref b), .val (.int (1 : Int32)), .val (.ref t), .val (.int (1 : Int32)), .val (.int (4 : Int32)), .val (.int (1 : Int32)), .val (.int d0)] [(.int (1 : Int32)), (.ref b)])) rfl rfl (hb hby d_jdk_52_method_21_code_12) tt
  have k7 : To p.tables e below S0 (T4.setTop (mkF m 13 #[.val (.ref b), .val (.int (1 : Int32)), .val (.ref t), .val (.int (1 : Int32)), .val (.int (4 : Int32)), .val (.int (1 : Int32)), .val (.int d0)] [(.int d1)])) := fun tt hq => k6 tt (st7 tt hq)
  have k8 : To p.tables e below S0 (T4.setTop (mkF m 31 #[.val (.ref b), .val (.int (1 : Int32)), .val (.ref t), .val (.int (1 : Int32)), .val (.int (4 : Int32)), .val (.int (1 : Int32)), .val (.int d1)] [(.int (d1.toInt8.toInt32)), (.int (1 : Int32)), (.ref t)])) := fun tt hq => k7 tt (by
    show Steps _ _ _ (T4.setTop (mkF m 13 #[.val (.ref b), .val (.int (1 : Int32)), .val (.ref t), .val (.int (1 : Int32)), .val (.int (4 : Int32)), .val (.int (1 : Int32)), .val (.int d0)] [(.int d1)])) _
    refine XS.istore X4.here hx rfl (hb hby d_jdk_52_method_21_code_13) rfl (l' := #[.val (.ref b), .val (.int (1 : Int32)), .val (.ref t), .val (.int (1 : Int32)), .val (.int (4 : Int32)), .val (.int (1 : Int32)), .val (.int d1)]) rfl ?_
    show Steps _ _ _ (T4.setTop (mkF m 15 #[.val (.ref b), .val (.int (1 : Int32)), .val (.ref t), .val (.int (1 : Int32)), .val (.int (4 : Int32)), .val (.int (1 : Int32)), .val (.int d1)] [])) _
    refine XS.iload X4.here hx rfl (hb hby d_jdk_52_method_21_code_15) rfl ?_
    show Steps _ _ _ (T4.setTop (mkF m 17 #[.val (.ref b), .val (.int (1 : Int32)), .val (.ref t), .val (.int (1 : Int32)), .val (.int (4 : Int32)), .val (.int (1 : Int32)), .val (.int d1)] [(.int d1)])) _
    refine XS.sipush X4.here hx rfl (hb hby d_jdk_52_method_21_code_17) ?_
    show Steps _ _ _ (T4.setTop (mkF m 20 #[.val (.ref b), .val (.int (1 : Int32)), .val (.ref t), .val (.int (1 : Int32)), .val (.int (4 : Int32)), .val (.int (1 : Int32)), .val (.int d1)] [(.int (255 : Int32)), (.int d1)])) _
    refine XS.icmpYes X4.here hx rfl (pc0 := 20) (pc' := 26) rfl (hb hby d_jdk_52_method_21_code_20) rfl (flt hd1.2).2.2.2 (by decide) (by decide) ?_
    show Steps _ _ _ (T4.setTop (mkF m 26 #[.val (.ref b), .val (.int (1 : Int32)), .val (.ref t), .val (.int (1 : Int32)), .val (.int (4 : Int32)), .val (.int (1 : Int32)), .val (.int d1)] [])) _
    refine XS.aloadN X4.here hx rfl (hb hby d_jdk_52_method_21_code_26) rfl rfl ?_
    show Steps _ _ _ (T4.setTop (mkF m 27 #[.val (.ref b), .val (.int (1 : Int32)), .val (.ref t), .val (.int (1 : Int32)), .val (.int (4 : Int32)), .val (.int (1 : Int32)), .val (.int d1)] [(.ref t)])) _
    refine XS.iloadN X4.here hx rfl (hb hby d_jdk_52_method_21_code_27) rfl ?_
    show Steps _ _ _ (T4.setTop (mkF m 28 #[.val (.ref b), .val (.int (1 : Int32)), .val (.ref t), .val (.int (1 : Int32)), .val (.int (4 : Int32)), .val (.int (1 : Int32)), .val (.int d1)] [(.int (1 : Int32)), (.ref t)])) _
    refine XS.iload X4.here hx rfl (hb hby d_jdk_52_method_21_code_28) rfl ?_
    show Steps _ _ _ (T4.setTop (mkF m 30 #[.val (.ref b), .val (.int (1 : Int32)), .val (.ref t), .val (.int (1 : Int32)), .val (.int (4 : Int32)), .val (.int (1 : Int32)), .val (.int d1)] [(.int d1), (.int (1 : Int32)), (.ref t)])) _
    refine XS.i2b X4.here hx rfl (hb hby d_jdk_52_method_21_code_30) rfl ?_
    show Steps _ _ _ (T4.setTop (mkF m 31 #[.val (.ref b), .val (.int (1 : Int32)), .val (.ref t), .val (.int (1 : Int32)), .val (.int (4 : Int32)), .val (.int (1 : Int32)), .val (.int d1)] [(.int (d1.toInt8.toInt32)), (.int (1 : Int32)), (.ref t)])) _
    exact hq)
  obtain ⟨cl9, Ar9, q9, S9, M9, G9, J9⟩ := id V4
  obtain ⟨T9, h9, X9, e9, W9, st9⟩ := stB X4 hx hZ e4 Ar9 (j := (1 : Int32)) (inb_of S9 ⟨by decide, by decide⟩) (g := (mkF m 31 #[.val (.ref b), .val (.int (1 : Int32)), .val (.ref t), .val (.int (1 : Int32)), .val (.int (4 : Int32)), .val (.int (1 : Int32)), .val (.int d1)] [(.int (d1.toInt8.toInt32)), (.int (1 : Int32)), (.ref t)])) rfl rfl (hb hby d_jdk_52_method_21_code_31)
  have k9 : To p.tables e below S0 (T9.setTop (mkF m 32 #[.val (.ref b), .val (.int (1 : Int32)), .val (.ref t), .val (.int (1 : Int32)), .val (.int (4 : Int32)), .val (.int (1 : Int32)), .val (.int d1)] [])) := fun tt hq => k8 tt (st9 tt hq)
  have z9 : h9.size = h4.size := W9.size
  have V9 : Arv Z h9 t kt .byte (4 : Int32) [(.int (nar .byte (d0.toInt8.toInt32))), (.int (nar .byte (d1.toInt8.toInt32))), (.int (0 : Int32)), (.int (0 : Int32))] (.int (0 : Int32)) := Arv.set Ar9 q9 S9 M9 G9 J9 (fits_nar_byte _) W9 1 rfl (Nat.le_of_ble_eq_true rfl)
  have N9 := Fr.snoc X9 N4 (by omega : n0 ≤ t)
  have f10 : Arv Z h9 b kb .char (4 : Int32) [(.int d0), (.int d1), (.int d2), (.int d3)] (.int (0 : Int32)) := (f5.other W9 (adr_ne (by omega)))
  have k11 : To p.tables e below S0 (T9.setTop (mkF m 12 #[.val (.ref b), .val (.int (2 : Int32)), .val (.ref t), .val (.int (2 : Int32)), .val (.int (4 : Int32)), .val (.int (2 : Int32)), .val (.int d1)] [(.int (2 : Int32)), (.ref b)])) := fun tt hq => k9 tt (by
    show Steps _ _ _ (T9.setTop (mkF m 32 #[.val (.ref b), .val (.int (1 : Int32)), .val (.ref t), .val (.int (1 : Int32)), .val (.int (4 : Int32)), .val (.int (1 : Int32)), .val (.int d1)] [])) _
    refine XS.iinc X9.here hx rfl (hb hby d_jdk_52_method_21_code_32) rfl (l' := #[.val (.ref b), .val (.int (2 : Int32)), .val (.ref t), .val (.int (1 : Int32)), .val (.int (4 : Int32)), .val (.int (1 : Int32)), .val (.int d1)]) rfl ?_
    show Steps _ _ _ (T9.setTop (mkF m 35 #[.val (.ref b), .val (.int (2 : Int32)), .val (.ref t), .val (.int (1 : Int32)), .val (.int (4 : Int32)), .val (.int (1 : Int32)), .val (.int d1)] [])) _
    refine XS.iinc X9.here hx rfl (hb hby d_jdk_52_method_21_code_35) rfl (l' := #[.val (.ref b), .val (.int (2 : Int32)), .val (.ref t), .val (.int (2 : Int32)), .val (.int (4 : Int32)), .val (.int (1 : Int32)), .val (.int d1)]) rfl ?_
    show Steps _ _ _ (T9.setTop (mkF m 38 #[.val (.ref b), .val (.int (2 : Int32)), .val (.ref t), .val (.int (2 : Int32)), .val (.int (4 : Int32)), .val (.int (1 : Int32)), .val (.int d1)] [])) _
    refine XS.iinc X9.here hx rfl (hb hby d_jdk_52_method_21_code_38) rfl (l' := #[.val (.ref b), .val (.int (2 : Int32)), .val (.ref t), .val (.int (2 : Int32)), .val (.int (4 : Int32)), .val (.int (2 : Int32)), .val (.int d1)]) rfl ?_
    show Steps _ _ _ (T9.setTop (mkF m 41 #[.val (.ref b), .val (.int (2 : Int32)), .val (.ref t), .val (.int (2 : Int32)), .val (.int (4 : Int32)), .val (.int (2 : Int32)), .val (.int d1)] [])) _
    refine XS.goto X9.here hx rfl (pc0 := 41) (pc' := 3) rfl (hb hby d_jdk_52_method_21_code_41) (by decide) (by decide) ?_
    show Steps _ _ _ (T9.setTop (mkF m 3 #[.val (.ref b), .val (.int (2 : Int32)), .val (.ref t), .val (.int (2 : Int32)), .val (.int (4 : Int32)), .val (.int (2 : Int32)), .val (.int d1)] [])) _
    refine XS.iload X9.here hx rfl (hb hby d_jdk_52_method_21_code_3) rfl ?_
    show Steps _ _ _ (T9.setTop (mkF m 5 #[.val (.ref b), .val (.int (2 : Int32)), .val (.ref t), .val (.int (2 : Int32)), .val (.int (4 : Int32)), .val (.int (2 : Int32)), .val (.int d1)] [(.int (2 : Int32))])) _
    refine XS.iload X9.here hx rfl (hb hby d_jdk_52_method_21_code_5) rfl ?_
    show Steps _ _ _ (T9.setTop (mkF m 7 #[.val (.ref b), .val (.int (2 : Int32)), .val (.ref t), .val (.int (2 : Int32)), .val (.int (4 : Int32)), .val (.int (2 : Int32)), .val (.int d1)] [(.int (4 : Int32)), (.int (2 : Int32))])) _
    refine XS.icmpNo X9.here hx rfl (hb hby d_jdk_52_method_21_code_7) rfl (tlt (by decide)).2.1 ?_
    show Steps _ _ _ (T9.setTop (mkF m 10 #[.val (.ref b), .val (.int (2 : Int32)), .val (.ref t), .val (.int (2 : Int32)), .val (.int (4 : Int32)), .val (.int (2 : Int32)), .val (.int d1)] [])) _
    refine XS.aloadN X9.here hx rfl (hb hby d_jdk_52_method_21_code_10) rfl rfl ?_
    show Steps _ _ _ (T9.setTop (mkF m 11 #[.val (.ref b), .val (.int (2 : Int32)), .val (.ref t), .val (.int (2 : Int32)), .val (.int (4 : Int32)), .val (.int (2 : Int32)), .val (.int d1)] [(.ref b)])) _
    refine XS.iloadN X9.here hx rfl (hb hby d_jdk_52_method_21_code_11) rfl ?_
    show Steps _ _ _ (T9.setTop (mkF m 12 #[.val (.ref b), .val (.int (2 : Int32)), .val (.ref t), .val (.int (2 : Int32)), .val (.int (4 : Int32)), .val (.int (2 : Int32)), .val (.int d1)] [(.int (2 : Int32)), (.ref b)])) _
    exact hq)
  obtain ⟨cl12, Ar12, -, S12, -, G12, -⟩ := id f10
  have hi12 := inb_of (j := (2 : Int32)) S12 ⟨by decide, by decide⟩
  have st12 := fun tt => X9.caload hx (j := (2 : Int32)) (v := (.int d2)) (by rw [e9]; exact Ar12.1) (State.isArrayOf_alike hZ.alike Ar12.2.1) Ar12.2.2 hi12 (G12.at hi12 rfl) (g := (mkF m 12 #[.val (.ref b), .val (.int (2 : Int32)), .val (.ref t), .val (.int (2 : Int32)), .val (.int (4 : Int32)), .val (.int (2 : Int32)), .val (.int d1)] [(.int (2 : Int32)), (.ref b)])) rfl rfl (hb hby d_jdk_52_method_21_code_12) tt
  have k12 : To p.tables e below S0 (T9.setTop (mkF m 13 #[.val (.ref b), .val (.int (2 : Int32)), .val (.ref t), .val (.int (2 : Int32)), .val (.int (4 : Int32)), .val (.int (2 : Int32)), .val (.int d1)] [(.int d2)])) := fun tt hq => k11 tt (st12 tt hq)
  have k13 : To p.tables e below S0 (T9.setTop (mkF m 31 #[.val (.ref b), .val (.int (2 : Int32)), .val (.ref t), .val (.int (2 : Int32)), .val (.int (4 : Int32)), .val (.int (2 : Int32)), .val (.int d2)] [(.int (d2.toInt8.toInt32)), (.int (2 : Int32)), (.ref t)])) := fun tt hq => k12 tt (by
    show Steps _ _ _ (T9.setTop (mkF m 13 #[.val (.ref b), .val (.int (2 : Int32)), .val (.ref t), .val (.int (2 : Int32)), .val (.int (4 : Int32)), .val (.int (2 : Int32)), .val (.int d1)] [(.int d2)])) _
    refine XS.istore X9.here hx rfl (hb hby d_jdk_52_method_21_code_13) rfl (l' := #[.val (.ref b), .val (.int (2 : Int32)), .val (.ref t), .val (.int (2 : Int32)), .val (.int (4 : Int32)), .val (.int (2 : Int32)), .val (.int d2)]) rfl ?_
    show Steps _ _ _ (T9.setTop (mkF m 15 #[.val (.ref b), .val (.int (2 : Int32)), .val (.ref t), .val (.int (2 : Int32)), .val (.int (4 : Int32)), .val (.int (2 : Int32)), .val (.int d2)] [])) _
    refine XS.iload X9.here hx rfl (hb hby d_jdk_52_method_21_code_15) rfl ?_
    show Steps _ _ _ (T9.setTop (mkF m 17 #[.val (.ref b), .val (.int (2 : Int32)), .val (.ref t), .val (.int (2 : Int32)), .val (.int (4 : Int32)), .val (.int (2 : Int32)), .val (.int d2)] [(.int d2)])) _
    refine XS.sipush X9.here hx rfl (hb hby d_jdk_52_method_21_code_17) ?_
    show Steps _ _ _ (T9.setTop (mkF m 20 #[.val (.ref b), .val (.int (2 : Int32)), .val (.ref t), .val (.int (2 : Int32)), .val (.int (4 : Int32)), .val (.int (2 : Int32)), .val (.int d2)] [(.int (255 : Int32)), (.int d2)])) _
    refine XS.icmpYes X9.here hx rfl (pc0 := 20) (pc' := 26) rfl (hb hby d_jdk_52_method_21_code_20) rfl (flt hd2.2).2.2.2 (by decide) (by decide) ?_
    show Steps _ _ _ (T9.setTop (mkF m 26 #[.val (.ref b), .val (.int (2 : Int32)), .val (.ref t), .val (.int (2 : Int32)), .val (.int (4 : Int32)), .val (.int (2 : Int32)), .val (.int d2)] [])) _
    refine XS.aloadN X9.here hx rfl (hb hby d_jdk_52_method_21_code_26) rfl rfl ?_
    show Steps _ _ _ (T9.setTop (mkF m 27 #[.val (.ref b), .val (.int (2 : Int32)), .val (.ref t), .val (.int (2 : Int32)), .val (.int (4 : Int32)), .val (.int (2 : Int32)), .val (.int d2)] [(.ref t)])) _
    refine XS.iloadN X9.here hx rfl (hb hby d_jdk_52_method_21_code_27) rfl ?_
    show Steps _ _ _ (T9.setTop (mkF m 28 #[.val (.ref b), .val (.int (2 : Int32)), .val (.ref t), .val (.int (2 : Int32)), .val (.int (4 : Int32)), .val (.int (2 : Int32)), .val (.int d2)] [(.int (2 : Int32)), (.ref t)])) _
    refine XS.iload X9.here hx rfl (hb hby d_jdk_52_method_21_code_28) rfl ?_
    show Steps _ _ _ (T9.setTop (mkF m 30 #[.val (.ref b), .val (.int (2 : Int32)), .val (.ref t), .val (.int (2 : Int32)), .val (.int (4 : Int32)), .val (.int (2 : Int32)), .val (.int d2)] [(.int d2), (.int (2 : Int32)), (.ref t)])) _
    refine XS.i2b X9.here hx rfl (hb hby d_jdk_52_method_21_code_30) rfl ?_
    show Steps _ _ _ (T9.setTop (mkF m 31 #[.val (.ref b), .val (.int (2 : Int32)), .val (.ref t), .val (.int (2 : Int32)), .val (.int (4 : Int32)), .val (.int (2 : Int32)), .val (.int d2)] [(.int (d2.toInt8.toInt32)), (.int (2 : Int32)), (.ref t)])) _
    exact hq)
  obtain ⟨cl14, Ar14, q14, S14, M14, G14, J14⟩ := id V9
  obtain ⟨T14, h14, X14, e14, W14, st14⟩ := stB X9 hx hZ e9 Ar14 (j := (2 : Int32)) (inb_of S14 ⟨by decide, by decide⟩) (g := (mkF m 31 #[.val (.ref b), .val (.int (2 : Int32)), .val (.ref t), .val (.int (2 : Int32)), .val (.int (4 : Int32)), .val (.int (2 : Int32)), .val (.int d2)] [(.int (d2.toInt8.toInt32)), (.int (2 : Int32)), (.ref t)])) rfl rfl (hb hby d_jdk_52_method_21_code_31)
  have k14 : To p.tables e below S0 (T14.setTop (mkF m 32 #[.val (.ref b), .val (.int (2 : Int32)), .val (.ref t), .val (.int (2 : Int32)), .val (.int (4 : Int32)), .val (.int (2 : Int32)), .val (.int d2)] [])) := fun tt hq => k13 tt (st14 tt hq)
  have z14 : h14.size = h9.size := W14.size
  have V14 : Arv Z h14 t kt .byte (4 : Int32) [(.int (nar .byte (d0.toInt8.toInt32))), (.int (nar .byte (d1.toInt8.toInt32))), (.int (nar .byte (d2.toInt8.toInt32))), (.int (0 : Int32))] (.int (0 : Int32)) := Arv.set Ar14 q14 S14 M14 G14 J14 (fits_nar_byte _) W14 2 rfl (Nat.le_of_ble_eq_true rfl)
  have N14 := Fr.snoc X14 N9 (by omega : n0 ≤ t)
  have f15 : Arv Z h14 b kb .char (4 : Int32) [(.int d0), (.int d1), (.int d2), (.int d3)] (.int (0 : Int32)) := (f10.other W14 (adr_ne (by omega)))
  have k16 : To p.tables e below S0 (T14.setTop (mkF m 12 #[.val (.ref b), .val (.int (3 : Int32)), .val (.ref t), .val (.int (3 : Int32)), .val (.int (4 : Int32)), .val (.int (3 : Int32)), .val (.int d2)] [(.int (3 : Int32)), (.ref b)])) := fun tt hq => k14 tt (by
    show Steps _ _ _ (T14.setTop (mkF m 32 #[.val (.ref b), .val (.int (2 : Int32)), .val (.ref t), .val (.int (2 : Int32)), .val (.int (4 : Int32)), .val (.int (2 : Int32)), .val (.int d2)] [])) _
    refine XS.iinc X14.here hx rfl (hb hby d_jdk_52_method_21_code_32) rfl (l' := #[.val (.ref b), .val (.int (3 : Int32)), .val (.ref t), .val (.int (2 : Int32)), .val (.int (4 : Int32)), .val (.int (2 : Int32)), .val (.int d2)]) rfl ?_
    show Steps _ _ _ (T14.setTop (mkF m 35 #[.val (.ref b), .val (.int (3 : Int32)), .val (.ref t), .val (.int (2 : Int32)), .val (.int (4 : Int32)), .val (.int (2 : Int32)), .val (.int d2)] [])) _
    refine XS.iinc X14.here hx rfl (hb hby d_jdk_52_method_21_code_35) rfl (l' := #[.val (.ref b), .val (.int (3 : Int32)), .val (.ref t), .val (.int (3 : Int32)), .val (.int (4 : Int32)), .val (.int (2 : Int32)), .val (.int d2)]) rfl ?_
    show Steps _ _ _ (T14.setTop (mkF m 38 #[.val (.ref b), .val (.int (3 : Int32)), .val (.ref t), .val (.int (3 : Int32)), .val (.int (4 : Int32)), .val (.int (2 : Int32)), .val (.int d2)] [])) _
    refine XS.iinc X14.here hx rfl (hb hby d_jdk_52_method_21_code_38) rfl (l' := #[.val (.ref b), .val (.int (3 : Int32)), .val (.ref t), .val (.int (3 : Int32)), .val (.int (4 : Int32)), .val (.int (3 : Int32)), .val (.int d2)]) rfl ?_
    show Steps _ _ _ (T14.setTop (mkF m 41 #[.val (.ref b), .val (.int (3 : Int32)), .val (.ref t), .val (.int (3 : Int32)), .val (.int (4 : Int32)), .val (.int (3 : Int32)), .val (.int d2)] [])) _
    refine XS.goto X14.here hx rfl (pc0 := 41) (pc' := 3) rfl (hb hby d_jdk_52_method_21_code_41) (by decide) (by decide) ?_
    show Steps _ _ _ (T14.setTop (mkF m 3 #[.val (.ref b), .val (.int (3 : Int32)), .val (.ref t), .val (.int (3 : Int32)), .val (.int (4 : Int32)), .val (.int (3 : Int32)), .val (.int d2)] [])) _
    refine XS.iload X14.here hx rfl (hb hby d_jdk_52_method_21_code_3) rfl ?_
    show Steps _ _ _ (T14.setTop (mkF m 5 #[.val (.ref b), .val (.int (3 : Int32)), .val (.ref t), .val (.int (3 : Int32)), .val (.int (4 : Int32)), .val (.int (3 : Int32)), .val (.int d2)] [(.int (3 : Int32))])) _
    refine XS.iload X14.here hx rfl (hb hby d_jdk_52_method_21_code_5) rfl ?_
    show Steps _ _ _ (T14.setTop (mkF m 7 #[.val (.ref b), .val (.int (3 : Int32)), .val (.ref t), .val (.int (3 : Int32)), .val (.int (4 : Int32)), .val (.int (3 : Int32)), .val (.int d2)] [(.int (4 : Int32)), (.int (3 : Int32))])) _
    refine XS.icmpNo X14.here hx rfl (hb hby d_jdk_52_method_21_code_7) rfl (tlt (by decide)).2.1 ?_
    show Steps _ _ _ (T14.setTop (mkF m 10 #[.val (.ref b), .val (.int (3 : Int32)), .val (.ref t), .val (.int (3 : Int32)), .val (.int (4 : Int32)), .val (.int (3 : Int32)), .val (.int d2)] [])) _
    refine XS.aloadN X14.here hx rfl (hb hby d_jdk_52_method_21_code_10) rfl rfl ?_
    show Steps _ _ _ (T14.setTop (mkF m 11 #[.val (.ref b), .val (.int (3 : Int32)), .val (.ref t), .val (.int (3 : Int32)), .val (.int (4 : Int32)), .val (.int (3 : Int32)), .val (.int d2)] [(.ref b)])) _
    refine XS.iloadN X14.here hx rfl (hb hby d_jdk_52_method_21_code_11) rfl ?_
    show Steps _ _ _ (T14.setTop (mkF m 12 #[.val (.ref b), .val (.int (3 : Int32)), .val (.ref t), .val (.int (3 : Int32)), .val (.int (4 : Int32)), .val (.int (3 : Int32)), .val (.int d2)] [(.int (3 : Int32)), (.ref b)])) _
    exact hq)
  obtain ⟨cl17, Ar17, -, S17, -, G17, -⟩ := id f15
  have hi17 := inb_of (j := (3 : Int32)) S17 ⟨by decide, by decide⟩
  have st17 := fun tt => X14.caload hx (j := (3 : Int32)) (v := (.int d3)) (by rw [e14]; exact Ar17.1) (State.isArrayOf_alike hZ.alike Ar17.2.1) Ar17.2.2 hi17 (G17.at hi17 rfl) (g := (mkF m 12 #[.val (.ref b), .val (.int (3 : Int32)), .val (.ref t), .val (.int (3 : Int32)), .val (.int (4 : Int32)), .val (.int (3 : Int32)), .val (.int d2)] [(.int (3 : Int32)), (.ref b)])) rfl rfl (hb hby d_jdk_52_method_21_code_12) tt
  have k17 : To p.tables e below S0 (T14.setTop (mkF m 13 #[.val (.ref b), .val (.int (3 : Int32)), .val (.ref t), .val (.int (3 : Int32)), .val (.int (4 : Int32)), .val (.int (3 : Int32)), .val (.int d2)] [(.int d3)])) := fun tt hq => k16 tt (st17 tt hq)
  have k18 : To p.tables e below S0 (T14.setTop (mkF m 31 #[.val (.ref b), .val (.int (3 : Int32)), .val (.ref t), .val (.int (3 : Int32)), .val (.int (4 : Int32)), .val (.int (3 : Int32)), .val (.int d3)] [(.int (d3.toInt8.toInt32)), (.int (3 : Int32)), (.ref t)])) := fun tt hq => k17 tt (by
    show Steps _ _ _ (T14.setTop (mkF m 13 #[.val (.ref b), .val (.int (3 : Int32)), .val (.ref t), .val (.int (3 : Int32)), .val (.int (4 : Int32)), .val (.int (3 : Int32)), .val (.int d2)] [(.int d3)])) _
    refine XS.istore X14.here hx rfl (hb hby d_jdk_52_method_21_code_13) rfl (l' := #[.val (.ref b), .val (.int (3 : Int32)), .val (.ref t), .val (.int (3 : Int32)), .val (.int (4 : Int32)), .val (.int (3 : Int32)), .val (.int d3)]) rfl ?_
    show Steps _ _ _ (T14.setTop (mkF m 15 #[.val (.ref b), .val (.int (3 : Int32)), .val (.ref t), .val (.int (3 : Int32)), .val (.int (4 : Int32)), .val (.int (3 : Int32)), .val (.int d3)] [])) _
    refine XS.iload X14.here hx rfl (hb hby d_jdk_52_method_21_code_15) rfl ?_
    show Steps _ _ _ (T14.setTop (mkF m 17 #[.val (.ref b), .val (.int (3 : Int32)), .val (.ref t), .val (.int (3 : Int32)), .val (.int (4 : Int32)), .val (.int (3 : Int32)), .val (.int d3)] [(.int d3)])) _
    refine XS.sipush X14.here hx rfl (hb hby d_jdk_52_method_21_code_17) ?_
    show Steps _ _ _ (T14.setTop (mkF m 20 #[.val (.ref b), .val (.int (3 : Int32)), .val (.ref t), .val (.int (3 : Int32)), .val (.int (4 : Int32)), .val (.int (3 : Int32)), .val (.int d3)] [(.int (255 : Int32)), (.int d3)])) _
    refine XS.icmpYes X14.here hx rfl (pc0 := 20) (pc' := 26) rfl (hb hby d_jdk_52_method_21_code_20) rfl (flt hd3.2).2.2.2 (by decide) (by decide) ?_
    show Steps _ _ _ (T14.setTop (mkF m 26 #[.val (.ref b), .val (.int (3 : Int32)), .val (.ref t), .val (.int (3 : Int32)), .val (.int (4 : Int32)), .val (.int (3 : Int32)), .val (.int d3)] [])) _
    refine XS.aloadN X14.here hx rfl (hb hby d_jdk_52_method_21_code_26) rfl rfl ?_
    show Steps _ _ _ (T14.setTop (mkF m 27 #[.val (.ref b), .val (.int (3 : Int32)), .val (.ref t), .val (.int (3 : Int32)), .val (.int (4 : Int32)), .val (.int (3 : Int32)), .val (.int d3)] [(.ref t)])) _
    refine XS.iloadN X14.here hx rfl (hb hby d_jdk_52_method_21_code_27) rfl ?_
    show Steps _ _ _ (T14.setTop (mkF m 28 #[.val (.ref b), .val (.int (3 : Int32)), .val (.ref t), .val (.int (3 : Int32)), .val (.int (4 : Int32)), .val (.int (3 : Int32)), .val (.int d3)] [(.int (3 : Int32)), (.ref t)])) _
    refine XS.iload X14.here hx rfl (hb hby d_jdk_52_method_21_code_28) rfl ?_
    show Steps _ _ _ (T14.setTop (mkF m 30 #[.val (.ref b), .val (.int (3 : Int32)), .val (.ref t), .val (.int (3 : Int32)), .val (.int (4 : Int32)), .val (.int (3 : Int32)), .val (.int d3)] [(.int d3), (.int (3 : Int32)), (.ref t)])) _
    refine XS.i2b X14.here hx rfl (hb hby d_jdk_52_method_21_code_30) rfl ?_
    show Steps _ _ _ (T14.setTop (mkF m 31 #[.val (.ref b), .val (.int (3 : Int32)), .val (.ref t), .val (.int (3 : Int32)), .val (.int (4 : Int32)), .val (.int (3 : Int32)), .val (.int d3)] [(.int (d3.toInt8.toInt32)), (.int (3 : Int32)), (.ref t)])) _
    exact hq)
  obtain ⟨cl19, Ar19, q19, S19, M19, G19, J19⟩ := id V14
  obtain ⟨T19, h19, X19, e19, W19, st19⟩ := stB X14 hx hZ e14 Ar19 (j := (3 : Int32)) (inb_of S19 ⟨by decide, by decide⟩) (g := (mkF m 31 #[.val (.ref b), .val (.int (3 : Int32)), .val (.ref t), .val (.int (3 : Int32)), .val (.int (4 : Int32)), .val (.int (3 : Int32)), .val (.int d3)] [(.int (d3.toInt8.toInt32)), (.int (3 : Int32)), (.ref t)])) rfl rfl (hb hby d_jdk_52_method_21_code_31)
  have k19 : To p.tables e below S0 (T19.setTop (mkF m 32 #[.val (.ref b), .val (.int (3 : Int32)), .val (.ref t), .val (.int (3 : Int32)), .val (.int (4 : Int32)), .val (.int (3 : Int32)), .val (.int d3)] [])) := fun tt hq => k18 tt (st19 tt hq)
  have z19 : h19.size = h14.size := W19.size
  have V19 : Arv Z h19 t kt .byte (4 : Int32) [(.int (nar .byte (d0.toInt8.toInt32))), (.int (nar .byte (d1.toInt8.toInt32))), (.int (nar .byte (d2.toInt8.toInt32))), (.int (nar .byte (d3.toInt8.toInt32)))] (.int (0 : Int32)) := Arv.set Ar19 q19 S19 M19 G19 J19 (fits_nar_byte _) W19 3 rfl (Nat.le_of_ble_eq_true rfl)
  have N19 := Fr.snoc X19 N14 (by omega : n0 ≤ t)
  have k20 : To p.tables e below S0 (T19.setTop (mkF m 46 #[.val (.ref b), .val (.int (4 : Int32)), .val (.ref t), .val (.int (4 : Int32)), .val (.int (4 : Int32)), .val (.int (4 : Int32)), .val (.int d3)] [(.int (4 : Int32))])) := fun tt hq => k19 tt (by
    show Steps _ _ _ (T19.setTop (mkF m 32 #[.val (.ref b), .val (.int (3 : Int32)), .val (.ref t), .val (.int (3 : Int32)), .val (.int (4 : Int32)), .val (.int (3 : Int32)), .val (.int d3)] [])) _
    refine XS.iinc X19.here hx rfl (hb hby d_jdk_52_method_21_code_32) rfl (l' := #[.val (.ref b), .val (.int (4 : Int32)), .val (.ref t), .val (.int (3 : Int32)), .val (.int (4 : Int32)), .val (.int (3 : Int32)), .val (.int d3)]) rfl ?_
    show Steps _ _ _ (T19.setTop (mkF m 35 #[.val (.ref b), .val (.int (4 : Int32)), .val (.ref t), .val (.int (3 : Int32)), .val (.int (4 : Int32)), .val (.int (3 : Int32)), .val (.int d3)] [])) _
    refine XS.iinc X19.here hx rfl (hb hby d_jdk_52_method_21_code_35) rfl (l' := #[.val (.ref b), .val (.int (4 : Int32)), .val (.ref t), .val (.int (4 : Int32)), .val (.int (4 : Int32)), .val (.int (3 : Int32)), .val (.int d3)]) rfl ?_
    show Steps _ _ _ (T19.setTop (mkF m 38 #[.val (.ref b), .val (.int (4 : Int32)), .val (.ref t), .val (.int (4 : Int32)), .val (.int (4 : Int32)), .val (.int (3 : Int32)), .val (.int d3)] [])) _
    refine XS.iinc X19.here hx rfl (hb hby d_jdk_52_method_21_code_38) rfl (l' := #[.val (.ref b), .val (.int (4 : Int32)), .val (.ref t), .val (.int (4 : Int32)), .val (.int (4 : Int32)), .val (.int (4 : Int32)), .val (.int d3)]) rfl ?_
    show Steps _ _ _ (T19.setTop (mkF m 41 #[.val (.ref b), .val (.int (4 : Int32)), .val (.ref t), .val (.int (4 : Int32)), .val (.int (4 : Int32)), .val (.int (4 : Int32)), .val (.int d3)] [])) _
    refine XS.goto X19.here hx rfl (pc0 := 41) (pc' := 3) rfl (hb hby d_jdk_52_method_21_code_41) (by decide) (by decide) ?_
    show Steps _ _ _ (T19.setTop (mkF m 3 #[.val (.ref b), .val (.int (4 : Int32)), .val (.ref t), .val (.int (4 : Int32)), .val (.int (4 : Int32)), .val (.int (4 : Int32)), .val (.int d3)] [])) _
    refine XS.iload X19.here hx rfl (hb hby d_jdk_52_method_21_code_3) rfl ?_
    show Steps _ _ _ (T19.setTop (mkF m 5 #[.val (.ref b), .val (.int (4 : Int32)), .val (.ref t), .val (.int (4 : Int32)), .val (.int (4 : Int32)), .val (.int (4 : Int32)), .val (.int d3)] [(.int (4 : Int32))])) _
    refine XS.iload X19.here hx rfl (hb hby d_jdk_52_method_21_code_5) rfl ?_
    show Steps _ _ _ (T19.setTop (mkF m 7 #[.val (.ref b), .val (.int (4 : Int32)), .val (.ref t), .val (.int (4 : Int32)), .val (.int (4 : Int32)), .val (.int (4 : Int32)), .val (.int d3)] [(.int (4 : Int32)), (.int (4 : Int32))])) _
    refine XS.icmpYes X19.here hx rfl (pc0 := 7) (pc' := 44) rfl (hb hby d_jdk_52_method_21_code_7) rfl (flt (by decide)).2.1 (by decide) (by decide) ?_
    show Steps _ _ _ (T19.setTop (mkF m 44 #[.val (.ref b), .val (.int (4 : Int32)), .val (.ref t), .val (.int (4 : Int32)), .val (.int (4 : Int32)), .val (.int (4 : Int32)), .val (.int d3)] [])) _
    refine XS.iload X19.here hx rfl (hb hby d_jdk_52_method_21_code_44) rfl ?_
    show Steps _ _ _ (T19.setTop (mkF m 46 #[.val (.ref b), .val (.int (4 : Int32)), .val (.ref t), .val (.int (4 : Int32)), .val (.int (4 : Int32)), .val (.int (4 : Int32)), .val (.int d3)] [(.int (4 : Int32))])) _
    exact hq)
  have hE := e19
  refine retInt X19 hx hret hlk (by simp) rfl (hb hby d_jdk_52_method_21_code_46) k20 ?_ (by decide) (by decide)
  try rw [hE]
  exact ⟨rfl, N19, (((((Keep.refl h0 [t]).wr W4 (Or.inl (by simp))).wr W9 (Or.inl (by simp))).wr W14 (Or.inl (by simp))).wr W19 (Or.inl (by simp))), V19⟩
theorem d_jdk_52_method_16_code_0 : decode jdk_52_method_16_code 0 = .ok (.iload_n 2, 1) := by decide +kernel
theorem d_jdk_52_method_16_code_1 : decode jdk_52_method_16_code 1 = .ok (.newarray .byte, 2) := by decide +kernel
theorem d_jdk_52_method_16_code_3 : decode jdk_52_method_16_code 3 = .ok (.astore_n 3, 1) := by decide +kernel
theorem d_jdk_52_method_16_code_4 : decode jdk_52_method_16_code 4 = .ok (.aload_n 0, 1) := by decide +kernel
theorem d_jdk_52_method_16_code_5 : decode jdk_52_method_16_code 5 = .ok (.iload_n 1, 1) := by decide +kernel
theorem d_jdk_52_method_16_code_6 : decode jdk_52_method_16_code 6 = .ok (.aload_n 3, 1) := by decide +kernel
theorem d_jdk_52_method_16_code_7 : decode jdk_52_method_16_code 7 = .ok (.iconst 0, 1) := by decide +kernel
theorem d_jdk_52_method_16_code_8 : decode jdk_52_method_16_code 8 = .ok (.iload_n 2, 1) := by decide +kernel
theorem d_jdk_52_method_16_code_9 : decode jdk_52_method_16_code 9 = .ok (.invokestatic 115, 3) := by decide +kernel
theorem d_jdk_52_method_16_code_12 : decode jdk_52_method_16_code 12 = .ok (.istore 4, 2) := by decide +kernel
theorem d_jdk_52_method_16_code_14 : decode jdk_52_method_16_code 14 = .ok (.iload 4, 2) := by decide +kernel
theorem d_jdk_52_method_16_code_16 : decode jdk_52_method_16_code 16 = .ok (.iload_n 2, 1) := by decide +kernel
theorem d_jdk_52_method_16_code_17 : decode jdk_52_method_16_code 17 = .ok (.if_icmp .eq 40, 3) := by decide +kernel
theorem d_jdk_52_method_16_code_20 : decode jdk_52_method_16_code 20 = .ok (.aload_n 0, 1) := by decide +kernel
theorem d_jdk_52_method_16_code_21 : decode jdk_52_method_16_code 21 = .ok (.iload_n 1, 1) := by decide +kernel
theorem d_jdk_52_method_16_code_22 : decode jdk_52_method_16_code 22 = .ok (.iload_n 2, 1) := by decide +kernel
theorem d_jdk_52_method_16_code_23 : decode jdk_52_method_16_code 23 = .ok (.invokestatic 119, 3) := by decide +kernel
theorem d_jdk_52_method_16_code_26 : decode jdk_52_method_16_code 26 = .ok (.astore 5, 2) := by decide +kernel
theorem d_jdk_52_method_16_code_28 : decode jdk_52_method_16_code 28 = .ok (.aload 5, 2) := by decide +kernel
theorem d_jdk_52_method_16_code_30 : decode jdk_52_method_16_code 30 = .ok (.iload 4, 2) := by decide +kernel
theorem d_jdk_52_method_16_code_32 : decode jdk_52_method_16_code 32 = .ok (.invokestatic 71, 3) := by decide +kernel
theorem d_jdk_52_method_16_code_35 : decode jdk_52_method_16_code 35 = .ok (.sipush 255, 3) := by decide +kernel
theorem d_jdk_52_method_16_code_38 : decode jdk_52_method_16_code 38 = .ok (.if_icmp .gt 16, 3) := by decide +kernel
theorem d_jdk_52_method_16_code_41 : decode jdk_52_method_16_code 41 = .ok (.aload 5, 2) := by decide +kernel
theorem d_jdk_52_method_16_code_43 : decode jdk_52_method_16_code 43 = .ok (.iconst 0, 1) := by decide +kernel
theorem d_jdk_52_method_16_code_44 : decode jdk_52_method_16_code 44 = .ok (.aload_n 3, 1) := by decide +kernel
theorem d_jdk_52_method_16_code_45 : decode jdk_52_method_16_code 45 = .ok (.iconst 0, 1) := by decide +kernel
theorem d_jdk_52_method_16_code_46 : decode jdk_52_method_16_code 46 = .ok (.iload_n 2, 1) := by decide +kernel
theorem d_jdk_52_method_16_code_47 : decode jdk_52_method_16_code 47 = .ok (.invokestatic 123, 3) := by decide +kernel
theorem d_jdk_52_method_16_code_50 : decode jdk_52_method_16_code 50 = .ok (.iload_n 2, 1) := by decide +kernel
theorem d_jdk_52_method_16_code_51 : decode jdk_52_method_16_code 51 = .ok (.if_icmp .eq 6, 3) := by decide +kernel
theorem d_jdk_52_method_16_code_54 : decode jdk_52_method_16_code 54 = .ok (.aload 5, 2) := by decide +kernel
theorem d_jdk_52_method_16_code_56 : decode jdk_52_method_16_code 56 = .ok (.areturn, 1) := by decide +kernel
theorem d_jdk_52_method_16_code_57 : decode jdk_52_method_16_code 57 = .ok (.aload_n 3, 1) := by decide +kernel
theorem d_jdk_52_method_16_code_58 : decode jdk_52_method_16_code 58 = .ok (.areturn, 1) := by decide +kernel
theorem pd_0 : parseMethodDescriptor "([CI[BII)I" = some ⟨[(.array .char), .int, (.array .byte), .int, .int], some .int⟩ := by decide +kernel
set_option maxRecDepth 65536 in
set_option maxHeartbeats 40000000 in
theorem rm_c3_4 (l : Launch) (Z : State) (a0 : Array Value) (hw : ∀ d ∈ tables_1, d.before a0 Z = true) (b : Addr) (kb : ClassId) (d0 : Int32) (d1 : Int32) (d2 : Int32) (d3 : Int32) (h0 : Heap) (n0 : Nat) (hn0 : n0 ≤ h0.size) (P0 : Arv Z h0 b kb .char (4 : Int32) [(.int d0), (.int d1), (.int d2), (.int d3)] (.int (0 : Int32))) (yb : @LT.lt Nat instLTNat b h0.size) (hd0 : ¬ d0 < (0 : Int32) ∧ ¬ (255 : Int32) < d0) (hd1 : ¬ d1 < (0 : Int32) ∧ ¬ (255 : Int32) < d1) (hd2 : ¬ d2 < (0 : Int32) ∧ ¬ (255 : Int32) < d2) (hd3 : ¬ d3 < (0 : Int32) ∧ ¬ (255 : Int32) < d3) :
    Con l Z (⟨"java/lang/StringUTF16", "compress", "([CII)[B"⟩ : MethodName) jdk_52_method_16_code 6 (some (.array .byte)) [] ({ frames := 1, cells := 1, slots := 4, locals := 18 } : Room) #[(.ref b), (.int (0 : Int32)), (.int (4 : Int32))] h0 (fun v h L => ∃ (t : Addr) (k : ClassId), v = some (.ref t) ∧ Fr n0 L ∧ h0.size ≤ t ∧ Keep h0 h [] ∧ Arv Z h t k .byte (4 : Int32) [(.int (nar .byte (d0.toInt8.toInt32))), (.int (nar .byte (d1.toInt8.toInt32))), (.int (nar .byte (d2.toInt8.toInt32))), (.int (nar .byte (d3.toInt8.toInt32)))] (.int (0 : Int32))) := by
  refine enter (Ls := #[.val (.ref b), .val (.int (0 : Int32)), .val (.int (4 : Int32)), .unset, .unset, .unset]) (plainFor_of_name pn_0) (fun m => by exact entry_eq rfl) ?_
  intro p e s m below meth cd_ s₁ S0 hx hby hml hret hlk hnm hown hZ X0 e0 k0
  have N0 := Fr.nil n0
  have k1 : To p.tables e below S0 (s₁.setTop (mkF m 1 #[.val (.ref b), .val (.int (0 : Int32)), .val (.int (4 : Int32)), .unset, .unset, .unset] [(.int (4 : Int32))])) := fun tt hq => k0 tt (by
    show Steps _ _ _ (s₁.setTop (mkF m 0 #[.val (.ref b), .val (.int (0 : Int32)), .val (.int (4 : Int32)), .unset, .unset, .unset] [])) _
    refine XS.iloadN X0.here hx rfl (hb hby d_jdk_52_method_16_code_0) rfl ?_
    show Steps _ _ _ (s₁.setTop (mkF m 1 #[.val (.ref b), .val (.int (0 : Int32)), .val (.int (4 : Int32)), .unset, .unset, .unset] [(.int (4 : Int32))])) _
    exact hq)
  obtain ⟨T2, h2, c2, X2, e2, E2, A2, st2⟩ := newP X0 hx hZ (hw _ (List.mem_of_getElem? (i := 23) rfl)) e0 (g := (mkF m 1 #[.val (.ref b), .val (.int (0 : Int32)), .val (.int (4 : Int32)), .unset, .unset, .unset] [(.int (4 : Int32))])) rfl (hb hby d_jdk_52_method_16_code_1) rfl (by decide) (cap := 4) (by decide) (by decide) (by decide) (by decide)
  obtain ⟨b2, g2⟩ : ∃ z, z = h0.size := ⟨_, rfl⟩
  rw [← g2] at A2 st2
  have k2 : To p.tables e below S0 (T2.setTop (mkF m 3 #[.val (.ref b), .val (.int (0 : Int32)), .val (.int (4 : Int32)), .unset, .unset, .unset] [(.ref b2)])) := fun tt hq => k1 tt (st2 tt hq)
  have z2 : h0.size ≤ h2.size := E2.1
  have V2 : Arv Z h2 b2 c2 .byte (4 : Int32) [(.int (0 : Int32)), (.int (0 : Int32)), (.int (0 : Int32)), (.int (0 : Int32))] (.int (0 : Int32)) := (Arv.new A2 (by decide)).pad (pad_rep [] (.int (0 : Int32)) 4)
  have y2 : @LT.lt Nat instLTNat b2 h2.size := V2.lt
  have k3 : To p.tables e below S0 (T2.setTop (mkF m 9 #[.val (.ref b), .val (.int (0 : Int32)), .val (.int (4 : Int32)), .val (.ref b2), .unset, .unset] [(.int (4 : Int32)), (.int (0 : Int32)), (.ref b2), (.int (0 : Int32)), (.ref b)])) := fun tt hq => k2 tt (by
    show Steps _ _ _ (T2.setTop (mkF m 3 #[.val (.ref b), .val (.int (0 : Int32)), .val (.int (4 : Int32)), .unset, .unset, .unset] [(.ref b2)])) _
    refine XS.astoreN X2.here hx rfl (hb hby d_jdk_52_method_16_code_3) rfl rfl (l' := #[.val (.ref b), .val (.int (0 : Int32)), .val (.int (4 : Int32)), .val (.ref b2), .unset, .unset]) rfl ?_
    show Steps _ _ _ (T2.setTop (mkF m 4 #[.val (.ref b), .val (.int (0 : Int32)), .val (.int (4 : Int32)), .val (.ref b2), .unset, .unset] [])) _
    refine XS.aloadN X2.here hx rfl (hb hby d_jdk_52_method_16_code_4) rfl rfl ?_
    show Steps _ _ _ (T2.setTop (mkF m 5 #[.val (.ref b), .val (.int (0 : Int32)), .val (.int (4 : Int32)), .val (.ref b2), .unset, .unset] [(.ref b)])) _
    refine XS.iloadN X2.here hx rfl (hb hby d_jdk_52_method_16_code_5) rfl ?_
    show Steps _ _ _ (T2.setTop (mkF m 6 #[.val (.ref b), .val (.int (0 : Int32)), .val (.int (4 : Int32)), .val (.ref b2), .unset, .unset] [(.int (0 : Int32)), (.ref b)])) _
    refine XS.aloadN X2.here hx rfl (hb hby d_jdk_52_method_16_code_6) rfl rfl ?_
    show Steps _ _ _ (T2.setTop (mkF m 7 #[.val (.ref b), .val (.int (0 : Int32)), .val (.int (4 : Int32)), .val (.ref b2), .unset, .unset] [(.ref b2), (.int (0 : Int32)), (.ref b)])) _
    refine XS.iconst X2.here hx rfl (hb hby d_jdk_52_method_16_code_7) ?_
    show Steps _ _ _ (T2.setTop (mkF m 8 #[.val (.ref b), .val (.int (0 : Int32)), .val (.int (4 : Int32)), .val (.ref b2), .unset, .unset] [(.int (0 : Int32)), (.ref b2), (.int (0 : Int32)), (.ref b)])) _
    refine XS.iloadN X2.here hx rfl (hb hby d_jdk_52_method_16_code_8) rfl ?_
    show Steps _ _ _ (T2.setTop (mkF m 9 #[.val (.ref b), .val (.int (0 : Int32)), .val (.int (4 : Int32)), .val (.ref b2), .unset, .unset] [(.int (4 : Int32)), (.int (0 : Int32)), (.ref b2), (.int (0 : Int32)), (.ref b)])) _
    exact hq)
  have f4 : Arv Z h2 b kb .char (4 : Int32) [(.int d0), (.int d1), (.int d2), (.int d3)] (.int (0 : Int32)) := (P0.ext E2)
  obtain ⟨_, T5, L5, X5, ⟨rfl, Nq5, Kq5, V5⟩, k5a⟩ := callS' X2 hx hZ (y := (⟨"java/lang/StringUTF16", "compress", "([CI[BII)I"⟩ : MethodName)) hown (hw _ (List.mem_of_getElem? (i := 24) rfl)) (hw _ (List.mem_of_getElem? (i := 25) rfl)) (hw _ (List.mem_of_getElem? (i := 21) rfl)) (hw _ (List.mem_of_getElem? (i := 26) rfl)) (by decide) (backC (W := 0) (rm_c5_4 l Z a0 hw b kb b2 c2 d0 d1 d2 d3 h2 n0 (by omega) f4 V2 (by omega) (by omega) hd0 hd1 hd2 hd3) hZ (hw _ (List.mem_of_getElem? (i := 26) rfl)) (hw _ (List.mem_of_getElem? (i := 21) rfl)) (by decide) (by decide)) e2 (argsL := [(.ref b), (.int (0 : Int32)), (.ref b2), (.int (0 : Int32)), (.int (4 : Int32))]) (rest := []) rfl rfl pd_0 rfl (by rw [hml]; rfl) (hb hby d_jdk_52_method_16_code_9) (Nat.le_of_eq rfl) (by decide) (by decide) k3
  have k5 : To p.tables e below S0 (T5.setTop (mkF m 12 #[.val (.ref b), .val (.int (0 : Int32)), .val (.int (4 : Int32)), .val (.ref b2), .unset, .unset] [(.int (4 : Int32))])) := k5a
  have N5 := N0.app Nq5
  obtain ⟨h5, e5⟩ : ∃ z, T5.heap = z := ⟨_, rfl⟩
  rw [e5] at Kq5 V5
  have z5 : h2.size ≤ h5.size := Kq5.1
  have k6 : To p.tables e below S0 (T5.setTop (mkF m 58 #[.val (.ref b), .val (.int (0 : Int32)), .val (.int (4 : Int32)), .val (.ref b2), .val (.int (4 : Int32)), .unset] [(.ref b2)])) := fun tt hq => k5 tt (by
    show Steps _ _ _ (T5.setTop (mkF m 12 #[.val (.ref b), .val (.int (0 : Int32)), .val (.int (4 : Int32)), .val (.ref b2), .unset, .unset] [(.int (4 : Int32))])) _
    refine XS.istore X5.here hx rfl (hb hby d_jdk_52_method_16_code_12) rfl (l' := #[.val (.ref b), .val (.int (0 : Int32)), .val (.int (4 : Int32)), .val (.ref b2), .val (.int (4 : Int32)), .unset]) rfl ?_
    show Steps _ _ _ (T5.setTop (mkF m 14 #[.val (.ref b), .val (.int (0 : Int32)), .val (.int (4 : Int32)), .val (.ref b2), .val (.int (4 : Int32)), .unset] [])) _
    refine XS.iload X5.here hx rfl (hb hby d_jdk_52_method_16_code_14) rfl ?_
    show Steps _ _ _ (T5.setTop (mkF m 16 #[.val (.ref b), .val (.int (0 : Int32)), .val (.int (4 : Int32)), .val (.ref b2), .val (.int (4 : Int32)), .unset] [(.int (4 : Int32))])) _
    refine XS.iloadN X5.here hx rfl (hb hby d_jdk_52_method_16_code_16) rfl ?_
    show Steps _ _ _ (T5.setTop (mkF m 17 #[.val (.ref b), .val (.int (0 : Int32)), .val (.int (4 : Int32)), .val (.ref b2), .val (.int (4 : Int32)), .unset] [(.int (4 : Int32)), (.int (4 : Int32))])) _
    refine XS.icmpYes X5.here hx rfl (pc0 := 17) (pc' := 57) rfl (hb hby d_jdk_52_method_16_code_17) rfl (teq (by decide)).1 (by decide) (by decide) ?_
    show Steps _ _ _ (T5.setTop (mkF m 57 #[.val (.ref b), .val (.int (0 : Int32)), .val (.int (4 : Int32)), .val (.ref b2), .val (.int (4 : Int32)), .unset] [])) _
    refine XS.aloadN X5.here hx rfl (hb hby d_jdk_52_method_16_code_57) rfl rfl ?_
    show Steps _ _ _ (T5.setTop (mkF m 58 #[.val (.ref b), .val (.int (0 : Int32)), .val (.int (4 : Int32)), .val (.ref b2), .val (.int (4 : Int32)), .unset] [(.ref b2)])) _
    exact hq)
  have hE := e5
  refine retRef X5 hx hret hlk rfl rfl (hb hby d_jdk_52_method_16_code_58) k6 ?_ (by decide) (by decide)
  try rw [hE]
  exact ⟨b2, _, rfl, N5, (by omega), (((Keep.refl h0 []).ext E2).trans Kq5 (allS (Or.inr (by omega)) all0)), V5⟩
theorem d_jdk_52_method_15_code_0 : decode jdk_52_method_15_code 0 = .ok (.iload_n 1, 1) := by decide +kernel
theorem d_jdk_52_method_15_code_1 : decode jdk_52_method_15_code 1 = .ok (.aload_n 0, 1) := by decide +kernel
theorem d_jdk_52_method_15_code_2 : decode jdk_52_method_15_code 2 = .ok (.arraylength, 1) := by decide +kernel
theorem d_jdk_52_method_15_code_3 : decode jdk_52_method_15_code 3 = .ok (.isub, 1) := by decide +kernel
theorem d_jdk_52_method_15_code_4 : decode jdk_52_method_15_code 4 = .ok (.bipush 31, 2) := by decide +kernel
theorem d_jdk_52_method_15_code_6 : decode jdk_52_method_15_code 6 = .ok (.iushr, 1) := by decide +kernel
theorem d_jdk_52_method_15_code_7 : decode jdk_52_method_15_code 7 = .ok (.i2b, 1) := by decide +kernel
theorem d_jdk_52_method_15_code_8 : decode jdk_52_method_15_code 8 = .ok (.ireturn, 1) := by decide +kernel
set_option maxRecDepth 65536 in
set_option maxHeartbeats 40000000 in
theorem rm_cl_4 (l : Launch) (Z : State) (a0 : Array Value) (hw : ∀ d ∈ tables_1, d.before a0 Z = true) (t : Addr) (kt : ClassId) (d0 : Int32) (d1 : Int32) (d2 : Int32) (d3 : Int32) (h0 : Heap) (n0 : Nat) (hn0 : n0 ≤ h0.size) (P0 : Arv Z h0 t kt .byte (4 : Int32) [(.int d0), (.int d1), (.int d2), (.int d3)] (.int (0 : Int32))) :
    Con l Z (⟨"java/lang/StringUTF16", "coderFromArrayLen", "([BI)B"⟩ : MethodName) jdk_52_method_15_code 2 (some .byte) [] ({ frames := 0, cells := 0, slots := 0, locals := 0 } : Room) #[(.ref t), (.int (4 : Int32))] h0 (fun v h L => v = some (.int (0 : Int32)) ∧ Fr n0 L ∧ h = h0) := by
  refine enter (Ls := #[.val (.ref t), .val (.int (4 : Int32))]) (plainFor_of_name pn_0) (fun m => by exact entry_eq rfl) ?_
  intro p e s m below meth cd_ s₁ S0 hx hby hml hret hlk hnm hown hZ X0 e0 k0
  have N0 := Fr.nil n0
  have k1 : To p.tables e below S0 (s₁.setTop (mkF m 2 #[.val (.ref t), .val (.int (4 : Int32))] [(.ref t), (.int (4 : Int32))])) := fun tt hq => k0 tt (by
    show Steps _ _ _ (s₁.setTop (mkF m 0 #[.val (.ref t), .val (.int (4 : Int32))] [])) _
    refine XS.iloadN X0.here hx rfl (hb hby d_jdk_52_method_15_code_0) rfl ?_
    show Steps _ _ _ (s₁.setTop (mkF m 1 #[.val (.ref t), .val (.int (4 : Int32))] [(.int (4 : Int32))])) _
    refine XS.aloadN X0.here hx rfl (hb hby d_jdk_52_method_15_code_1) rfl rfl ?_
    show Steps _ _ _ (s₁.setTop (mkF m 2 #[.val (.ref t), .val (.int (4 : Int32))] [(.ref t), (.int (4 : Int32))])) _
    exact hq)
  obtain ⟨cl2, Ar2, -, S2, M2, -, -⟩ := id P0
  have st2 := fun tt => X0.arraylength hx (by rw [e0]; exact Ar2.1) (State.isArrayOf_alike hZ.alike Ar2.2.1) (g := (mkF m 2 #[.val (.ref t), .val (.int (4 : Int32))] [(.ref t), (.int (4 : Int32))])) rfl rfl (hb hby d_jdk_52_method_15_code_2) tt
  rw [len_of S2 M2] at st2
  have k2 : To p.tables e below S0 (s₁.setTop (mkF m 3 #[.val (.ref t), .val (.int (4 : Int32))] [(.int (4 : Int32)), (.int (4 : Int32))])) := fun tt hq => k1 tt (st2 tt hq)
  have k3 : To p.tables e below S0 (s₁.setTop (mkF m 8 #[.val (.ref t), .val (.int (4 : Int32))] [(.int (0 : Int32))])) := fun tt hq => k2 tt (by
    show Steps _ _ _ (s₁.setTop (mkF m 3 #[.val (.ref t), .val (.int (4 : Int32))] [(.int (4 : Int32)), (.int (4 : Int32))])) _
    refine XS.isub X0.here hx rfl (hb hby d_jdk_52_method_15_code_3) rfl ?_
    show Steps _ _ _ (s₁.setTop (mkF m 4 #[.val (.ref t), .val (.int (4 : Int32))] [(.int (0 : Int32))])) _
    refine XS.bipush X0.here hx rfl (hb hby d_jdk_52_method_15_code_4) ?_
    show Steps _ _ _ (s₁.setTop (mkF m 6 #[.val (.ref t), .val (.int (4 : Int32))] [(.int (31 : Int32)), (.int (0 : Int32))])) _
    refine XS.iushr X0.here hx rfl (hb hby d_jdk_52_method_15_code_6) rfl ?_
    show Steps _ _ _ (s₁.setTop (mkF m 7 #[.val (.ref t), .val (.int (4 : Int32))] [(.int (0 : Int32))])) _
    refine XS.i2b X0.here hx rfl (hb hby d_jdk_52_method_15_code_7) rfl ?_
    show Steps _ _ _ (s₁.setTop (mkF m 8 #[.val (.ref t), .val (.int (4 : Int32))] [(.int (0 : Int32))])) _
    exact hq)
  have hE := e0
  refine retInt X0 hx hret hlk (by simp) rfl (hb hby d_jdk_52_method_15_code_8) k3 ?_ (by decide) (by decide)
  try rw [hE]
  exact ⟨rfl, N0, rfl⟩
theorem d_jdk_42_method_149_code_0 : decode jdk_42_method_149_code 0 = .ok (.aload_n 0, 1) := by decide +kernel
theorem d_jdk_42_method_149_code_1 : decode jdk_42_method_149_code 1 = .ok (.invokespecial 1, 3) := by decide +kernel
theorem d_jdk_42_method_149_code_4 : decode jdk_42_method_149_code 4 = .ok (.iload_n 3, 1) := by decide +kernel
theorem d_jdk_42_method_149_code_5 : decode jdk_42_method_149_code 5 = .ok (.ifCond .ne 22, 3) := by decide +kernel
theorem d_jdk_42_method_149_code_8 : decode jdk_42_method_149_code 8 = .ok (.aload_n 0, 1) := by decide +kernel
theorem d_jdk_42_method_149_code_9 : decode jdk_42_method_149_code 9 = .ok (.ldc 7, 2) := by decide +kernel
theorem d_jdk_42_method_149_code_11 : decode jdk_42_method_149_code 11 = .ok (.getfield 9, 3) := by decide +kernel
theorem d_jdk_42_method_149_code_14 : decode jdk_42_method_149_code 14 = .ok (.putfield 9, 3) := by decide +kernel
theorem d_jdk_42_method_149_code_17 : decode jdk_42_method_149_code 17 = .ok (.aload_n 0, 1) := by decide +kernel
theorem d_jdk_42_method_149_code_18 : decode jdk_42_method_149_code 18 = .ok (.ldc 7, 2) := by decide +kernel
theorem d_jdk_42_method_149_code_20 : decode jdk_42_method_149_code 20 = .ok (.getfield 15, 3) := by decide +kernel
theorem d_jdk_42_method_149_code_23 : decode jdk_42_method_149_code 23 = .ok (.putfield 15, 3) := by decide +kernel
theorem d_jdk_42_method_149_code_26 : decode jdk_42_method_149_code 26 = .ok (.return_, 1) := by decide +kernel
theorem d_jdk_42_method_149_code_27 : decode jdk_42_method_149_code 27 = .ok (.getstatic 38, 3) := by decide +kernel
theorem d_jdk_42_method_149_code_30 : decode jdk_42_method_149_code 30 = .ok (.ifCond .eq 28, 3) := by decide +kernel
theorem d_jdk_42_method_149_code_33 : decode jdk_42_method_149_code 33 = .ok (.aload_n 1, 1) := by decide +kernel
theorem d_jdk_42_method_149_code_34 : decode jdk_42_method_149_code 34 = .ok (.iload_n 2, 1) := by decide +kernel
theorem d_jdk_42_method_149_code_35 : decode jdk_42_method_149_code 35 = .ok (.iload_n 3, 1) := by decide +kernel
theorem d_jdk_42_method_149_code_36 : decode jdk_42_method_149_code 36 = .ok (.invokestatic 177, 3) := by decide +kernel
theorem d_jdk_42_method_149_code_39 : decode jdk_42_method_149_code 39 = .ok (.astore 5, 2) := by decide +kernel
theorem d_jdk_42_method_149_code_41 : decode jdk_42_method_149_code 41 = .ok (.aload_n 0, 1) := by decide +kernel
theorem d_jdk_42_method_149_code_42 : decode jdk_42_method_149_code 42 = .ok (.aload 5, 2) := by decide +kernel
theorem d_jdk_42_method_149_code_44 : decode jdk_42_method_149_code 44 = .ok (.iload_n 3, 1) := by decide +kernel
theorem d_jdk_42_method_149_code_45 : decode jdk_42_method_149_code 45 = .ok (.invokestatic 47, 3) := by decide +kernel
theorem d_jdk_42_method_149_code_48 : decode jdk_42_method_149_code 48 = .ok (.putfield 15, 3) := by decide +kernel
theorem d_jdk_42_method_149_code_51 : decode jdk_42_method_149_code 51 = .ok (.aload_n 0, 1) := by decide +kernel
theorem d_jdk_42_method_149_code_52 : decode jdk_42_method_149_code 52 = .ok (.aload 5, 2) := by decide +kernel
theorem d_jdk_42_method_149_code_54 : decode jdk_42_method_149_code 54 = .ok (.putfield 9, 3) := by decide +kernel
theorem d_jdk_42_method_149_code_57 : decode jdk_42_method_149_code 57 = .ok (.return_, 1) := by decide +kernel
theorem d_jdk_42_method_149_code_58 : decode jdk_42_method_149_code 58 = .ok (.aload_n 0, 1) := by decide +kernel
theorem d_jdk_42_method_149_code_59 : decode jdk_42_method_149_code 59 = .ok (.iconst 1, 1) := by decide +kernel
theorem d_jdk_42_method_149_code_60 : decode jdk_42_method_149_code 60 = .ok (.putfield 15, 3) := by decide +kernel
theorem d_jdk_42_method_149_code_63 : decode jdk_42_method_149_code 63 = .ok (.aload_n 0, 1) := by decide +kernel
theorem d_jdk_42_method_149_code_64 : decode jdk_42_method_149_code 64 = .ok (.aload_n 1, 1) := by decide +kernel
theorem d_jdk_42_method_149_code_65 : decode jdk_42_method_149_code 65 = .ok (.iload_n 2, 1) := by decide +kernel
theorem d_jdk_42_method_149_code_66 : decode jdk_42_method_149_code 66 = .ok (.iload_n 3, 1) := by decide +kernel
theorem d_jdk_42_method_149_code_67 : decode jdk_42_method_149_code 67 = .ok (.invokestatic 180, 3) := by decide +kernel
theorem d_jdk_42_method_149_code_70 : decode jdk_42_method_149_code 70 = .ok (.putfield 9, 3) := by decide +kernel
theorem d_jdk_42_method_149_code_73 : decode jdk_42_method_149_code 73 = .ok (.return_, 1) := by decide +kernel
theorem pn_1 : plainName "java/lang/String" = true := by first | (simp [plainName, overriddenIn]; done) | decide +kernel
theorem pd_1 : parseMethodDescriptor "([CII)[B" = some ⟨[(.array .char), .int, .int], some (.array .byte)⟩ := by decide +kernel
theorem pd_2 : parseMethodDescriptor "([BI)B" = some ⟨[(.array .byte), .int], some .byte⟩ := by decide +kernel
set_option maxRecDepth 65536 in
set_option maxHeartbeats 40000000 in
theorem rm_n4_4 (l : Launch) (Z : State) (a0 : Array Value) (hw : ∀ d ∈ tables_1, d.before a0 Z = true) (zc : Int32) (a : Addr) (b : Addr) (kb : ClassId) (u1 : Value) (u2 : Value) (d0 : Int32) (d1 : Int32) (d2 : Int32) (d3 : Int32) (h0 : Heap) (n0 : Nat) (hn0 : n0 ≤ h0.size) (S_c : Sta Z Z.heap "java/lang/String" "COMPACT_STRINGS" "Z" (.int zc)) (hzc : ¬ zc = (0 : Int32)) (O0 : Old Z n0 h0) (E0 : Exa Z h0 a "java/lang/String") (F1 : Fld Z h0 a "java/lang/String" "value" "[B" u1) (F2 : Fld Z h0 a "java/lang/String" "coder" "B" u2) (P0 : Arv Z h0 b kb .char (4 : Int32) [(.int d0), (.int d1), (.int d2), (.int d3)] (.int (0 : Int32))) (ga : n0 ≤ a) (ya : @LT.lt Nat instLTNat a h0.size) (yb : @LT.lt Nat instLTNat b h0.size) (nab : ¬ (@Eq Nat b a)) (hd0 : ¬ d0 < (0 : Int32) ∧ ¬ (255 : Int32) < d0) (hd1 : ¬ d1 < (0 : Int32) ∧ ¬ (255 : Int32) < d1) (hd2 : ¬ d2 < (0 : Int32) ∧ ¬ (255 : Int32) < d2) (hd3 : ¬ d3 < (0 : Int32) ∧ ¬ (255 : Int32) < d3) :
    Con l Z (⟨"java/lang/String", "<init>", "([CIILjava/lang/Void;)V"⟩ : MethodName) jdk_42_method_149_code 6 none [] ({ frames := 2, cells := 1, slots := 4, locals := 35 } : Room) #[(.ref a), (.ref b), (.int (0 : Int32)), (.int (4 : Int32)), .null] h0 (fun v h L => v = none ∧ Fr n0 L ∧ Keep h0 h [a] ∧ ∃ (t : Addr) (k : ClassId), h0.size ≤ t ∧ Exa Z h a "java/lang/String" ∧ Fld Z h a "java/lang/String" "value" "[B" (.ref t) ∧ Fld Z h a "java/lang/String" "coder" "B" (.int (0 : Int32)) ∧ Arv Z h t k .byte (4 : Int32) [(.int (nar .byte (d0.toInt8.toInt32))), (.int (nar .byte (d1.toInt8.toInt32))), (.int (nar .byte (d2.toInt8.toInt32))), (.int (nar .byte (d3.toInt8.toInt32)))] (.int (0 : Int32))) := by
  refine enter (Ls := #[.val (.ref a), .val (.ref b), .val (.int (0 : Int32)), .val (.int (4 : Int32)), .val .null, .unset]) (plainFor_of_name pn_1) (fun m => by exact entry_eq rfl) ?_
  intro p e s m below meth cd_ s₁ S0 hx hby hml hret hlk hnm hown hZ X0 e0 k0
  have N0 := Fr.nil n0
  have k1 : To p.tables e below S0 (s₁.setTop (mkF m 1 #[.val (.ref a), .val (.ref b), .val (.int (0 : Int32)), .val (.int (4 : Int32)), .val .null, .unset] [(.ref a)])) := fun tt hq => k0 tt (by
    show Steps _ _ _ (s₁.setTop (mkF m 0 #[.val (.ref a), .val (.ref b), .val (.int (0 : Int32)), .val (.int (4 : Int32)), .val .null, .unset] [])) _
    refine XS.aloadN X0.here hx rfl (hb hby d_jdk_42_method_149_code_0) rfl rfl ?_
    show Steps _ _ _ (s₁.setTop (mkF m 1 #[.val (.ref a), .val (.ref b), .val (.int (0 : Int32)), .val (.int (4 : Int32)), .val .null, .unset] [(.ref a)])) _
    exact hq)
  obtain ⟨T2, X2, e2, st2⟩ := initO X0 hx hZ hown (hw _ (List.mem_of_getElem? (i := 15) rfl)) (hw _ (List.mem_of_getElem? (i := 16) rfl)) (hw _ (List.mem_of_getElem? (i := 17) rfl)) e0 (g := (mkF m 1 #[.val (.ref a), .val (.ref b), .val (.int (0 : Int32)), .val (.int (4 : Int32)), .val .null, .unset] [(.ref a)])) rfl (by rw [hml]; rfl) rfl (hb hby d_jdk_42_method_149_code_1) (by decide) (W := 0) (by show 2 * 0 + _ ≤ _; exact Nat.le_of_eq rfl) (by decide)
  have k2 : To p.tables e below S0 (T2.setTop (mkF m 4 #[.val (.ref a), .val (.ref b), .val (.int (0 : Int32)), .val (.int (4 : Int32)), .val .null, .unset] [])) := fun tt hq => k1 tt (st2 tt hq)
  have k3 : To p.tables e below S0 (T2.setTop (mkF m 27 #[.val (.ref a), .val (.ref b), .val (.int (0 : Int32)), .val (.int (4 : Int32)), .val .null, .unset] [])) := fun tt hq => k2 tt (by
    show Steps _ _ _ (T2.setTop (mkF m 4 #[.val (.ref a), .val (.ref b), .val (.int (0 : Int32)), .val (.int (4 : Int32)), .val .null, .unset] [])) _
    refine XS.iloadN X2.here hx rfl (hb hby d_jdk_42_method_149_code_4) rfl ?_
    show Steps _ _ _ (T2.setTop (mkF m 5 #[.val (.ref a), .val (.ref b), .val (.int (0 : Int32)), .val (.int (4 : Int32)), .val .null, .unset] [(.int (4 : Int32))])) _
    refine XS.ifYes X2.here hx rfl (pc0 := 5) (pc' := 27) rfl (hb hby d_jdk_42_method_149_code_5) rfl ((if0 _ _).trans (feq (by decide)).2) (by decide) (by decide) ?_
    show Steps _ _ _ (T2.setTop (mkF m 27 #[.val (.ref a), .val (.ref b), .val (.int (0 : Int32)), .val (.int (4 : Int32)), .val .null, .unset] [])) _
    exact hq)
  obtain ⟨T4, X4, e4, st4⟩ := getS2 X2 hx hZ hown (host := "") (Or.inl (hw _ (List.mem_of_getElem? (i := 18) rfl))) Via.refl e2 (staOld S_c O0) (g := (mkF m 27 #[.val (.ref a), .val (.ref b), .val (.int (0 : Int32)), .val (.int (4 : Int32)), .val .null, .unset] [])) rfl (hb hby d_jdk_42_method_149_code_27)
  have k4 : To p.tables e below S0 (T4.setTop (mkF m 30 #[.val (.ref a), .val (.ref b), .val (.int (0 : Int32)), .val (.int (4 : Int32)), .val .null, .unset] [(.int zc)])) := fun tt hq => k3 tt (st4 tt hq)
  have k5 : To p.tables e below S0 (T4.setTop (mkF m 36 #[.val (.ref a), .val (.ref b), .val (.int (0 : Int32)), .val (.int (4 : Int32)), .val .null, .unset] [(.int (4 : Int32)), (.int (0 : Int32)), (.ref b)])) := fun tt hq => k4 tt (by
    show Steps _ _ _ (T4.setTop (mkF m 30 #[.val (.ref a), .val (.ref b), .val (.int (0 : Int32)), .val (.int (4 : Int32)), .val .null, .unset] [(.int zc)])) _
    refine XS.ifNo X4.here hx rfl (hb hby d_jdk_42_method_149_code_30) rfl ((if0 _ _).trans (feq hzc).1) ?_
    show Steps _ _ _ (T4.setTop (mkF m 33 #[.val (.ref a), .val (.ref b), .val (.int (0 : Int32)), .val (.int (4 : Int32)), .val .null, .unset] [])) _
    refine XS.aloadN X4.here hx rfl (hb hby d_jdk_42_method_149_code_33) rfl rfl ?_
    show Steps _ _ _ (T4.setTop (mkF m 34 #[.val (.ref a), .val (.ref b), .val (.int (0 : Int32)), .val (.int (4 : Int32)), .val .null, .unset] [(.ref b)])) _
    refine XS.iloadN X4.here hx rfl (hb hby d_jdk_42_method_149_code_34) rfl ?_
    show Steps _ _ _ (T4.setTop (mkF m 35 #[.val (.ref a), .val (.ref b), .val (.int (0 : Int32)), .val (.int (4 : Int32)), .val .null, .unset] [(.int (0 : Int32)), (.ref b)])) _
    refine XS.iloadN X4.here hx rfl (hb hby d_jdk_42_method_149_code_35) rfl ?_
    show Steps _ _ _ (T4.setTop (mkF m 36 #[.val (.ref a), .val (.ref b), .val (.int (0 : Int32)), .val (.int (4 : Int32)), .val .null, .unset] [(.int (4 : Int32)), (.int (0 : Int32)), (.ref b)])) _
    exact hq)
  obtain ⟨_, T6, L6, X6, ⟨t6, kt6, rfl, Nq6, gt6, Kq6, V6⟩, k6a⟩ := callS' X4 hx hZ (y := (⟨"java/lang/StringUTF16", "compress", "([CII)[B"⟩ : MethodName)) hown (hw _ (List.mem_of_getElem? (i := 19) rfl)) (hw _ (List.mem_of_getElem? (i := 20) rfl)) (hw _ (List.mem_of_getElem? (i := 21) rfl)) (hw _ (List.mem_of_getElem? (i := 22) rfl)) (by decide) (backC (W := 0) (rm_c3_4 l Z a0 hw b kb d0 d1 d2 d3 h0 n0 (by omega) P0 (by omega) hd0 hd1 hd2 hd3) hZ (hw _ (List.mem_of_getElem? (i := 22) rfl)) (hw _ (List.mem_of_getElem? (i := 21) rfl)) (by decide) (by decide)) e4 (argsL := [(.ref b), (.int (0 : Int32)), (.int (4 : Int32))]) (rest := []) rfl rfl pd_1 rfl (by rw [hml]; rfl) (hb hby d_jdk_42_method_149_code_36) (Nat.le_of_eq rfl) (by decide) (by decide) k5
  have k6 : To p.tables e below S0 (T6.setTop (mkF m 39 #[.val (.ref a), .val (.ref b), .val (.int (0 : Int32)), .val (.int (4 : Int32)), .val .null, .unset] [(.ref t6)])) := k6a
  have N6 := N0.app Nq6
  obtain ⟨h6, e6⟩ : ∃ z, T6.heap = z := ⟨_, rfl⟩
  rw [e6] at Kq6 V6
  have z6 : h0.size ≤ h6.size := Kq6.1
  have y6 : @LT.lt Nat instLTNat t6 h6.size := V6.lt
  have k7 : To p.tables e below S0 (T6.setTop (mkF m 45 #[.val (.ref a), .val (.ref b), .val (.int (0 : Int32)), .val (.int (4 : Int32)), .val .null, .val (.ref t6)] [(.int (4 : Int32)), (.ref t6), (.ref a)])) := fun tt hq => k6 tt (by
    show Steps _ _ _ (T6.setTop (mkF m 39 #[.val (.ref a), .val (.ref b), .val (.int (0 : Int32)), .val (.int (4 : Int32)), .val .null, .unset] [(.ref t6)])) _
    refine XS.astore X6.here hx rfl (hb hby d_jdk_42_method_149_code_39) rfl rfl (l' := #[.val (.ref a), .val (.ref b), .val (.int (0 : Int32)), .val (.int (4 : Int32)), .val .null, .val (.ref t6)]) rfl ?_
    show Steps _ _ _ (T6.setTop (mkF m 41 #[.val (.ref a), .val (.ref b), .val (.int (0 : Int32)), .val (.int (4 : Int32)), .val .null, .val (.ref t6)] [])) _
    refine XS.aloadN X6.here hx rfl (hb hby d_jdk_42_method_149_code_41) rfl rfl ?_
    show Steps _ _ _ (T6.setTop (mkF m 42 #[.val (.ref a), .val (.ref b), .val (.int (0 : Int32)), .val (.int (4 : Int32)), .val .null, .val (.ref t6)] [(.ref a)])) _
    refine XS.aload X6.here hx rfl (hb hby d_jdk_42_method_149_code_42) rfl rfl ?_
    show Steps _ _ _ (T6.setTop (mkF m 44 #[.val (.ref a), .val (.ref b), .val (.int (0 : Int32)), .val (.int (4 : Int32)), .val .null, .val (.ref t6)] [(.ref t6), (.ref a)])) _
    refine XS.iloadN X6.here hx rfl (hb hby d_jdk_42_method_149_code_44) rfl ?_
    show Steps _ _ _ (T6.setTop (mkF m 45 #[.val (.ref a), .val (.ref b), .val (.int (0 : Int32)), .val (.int (4 : Int32)), .val .null, .val (.ref t6)] [(.int (4 : Int32)), (.ref t6), (.ref a)])) _
    exact hq)
  obtain ⟨_, T8, L8, X8, ⟨rfl, Nq8, eq8⟩, k8a⟩ := callS' X6 hx hZ (y := (⟨"java/lang/StringUTF16", "coderFromArrayLen", "([BI)B"⟩ : MethodName)) hown (hw _ (List.mem_of_getElem? (i := 27) rfl)) (hw _ (List.mem_of_getElem? (i := 28) rfl)) (hw _ (List.mem_of_getElem? (i := 21) rfl)) (hw _ (List.mem_of_getElem? (i := 29) rfl)) (by decide) (backC (W := 1) (rm_cl_4 l Z a0 hw t6 kt6 (nar .byte (d0.toInt8.toInt32)) (nar .byte (d1.toInt8.toInt32)) (nar .byte (d2.toInt8.toInt32)) (nar .byte (d3.toInt8.toInt32)) h6 n0 (by omega) V6) hZ (hw _ (List.mem_of_getElem? (i := 29) rfl)) (hw _ (List.mem_of_getElem? (i := 21) rfl)) (by decide) (by decide)) e6 (argsL := [(.ref t6), (.int (4 : Int32))]) (rest := [(.ref a)]) rfl rfl pd_2 rfl (by rw [hml]; rfl) (hb hby d_jdk_42_method_149_code_45) (Nat.le_of_eq rfl) (by decide) (by decide) k7
  have k8 : To p.tables e below S0 (T8.setTop (mkF m 48 #[.val (.ref a), .val (.ref b), .val (.int (0 : Int32)), .val (.int (4 : Int32)), .val .null, .val (.ref t6)] [(.int (0 : Int32)), (.ref a)])) := k8a
  have N8 := N6.app Nq8
  have e8 : T8.heap = h6 := eq8
  have f9 : Exa Z h6 a "java/lang/String" := (E0.keep Kq6)
  have f10 : Fld Z h6 a "java/lang/String" "coder" "B" u2 := (F2.keep Kq6 nin0)
  obtain ⟨T11, h11, X11, e11, W11, st11⟩ := putF X8 hx hZ hown (host := "") (Or.inl (hw _ (List.mem_of_getElem? (i := 30) rfl))) Via.refl e8 f10 f9 (Or.inr ⟨(hw _ (List.mem_of_getElem? (i := 31) rfl)), rfl, hnm⟩) (hw _ (List.mem_of_getElem? (i := 6) rfl)) (ty := .byte) (by decide) rfl rfl (g := (mkF m 48 #[.val (.ref a), .val (.ref b), .val (.int (0 : Int32)), .val (.int (4 : Int32)), .val .null, .val (.ref t6)] [(.int (0 : Int32)), (.ref a)])) rfl rfl (hb hby d_jdk_42_method_149_code_48)
  have k11 : To p.tables e below S0 (T11.setTop (mkF m 51 #[.val (.ref a), .val (.ref b), .val (.int (0 : Int32)), .val (.int (4 : Int32)), .val .null, .val (.ref t6)] [])) := fun tt hq => k8 tt (st11 tt hq)
  have z11 : h11.size = h6.size := W11.size
  have F11 := f10.same W11
  have N11 := Fr.snoc X11 N8 (by omega : n0 ≤ a)
  have f12 : Exa Z h11 a "java/lang/String" := (f9.wr W11)
  have f13 : Fld Z h11 a "java/lang/String" "value" "[B" u1 := ((F1.keep Kq6 nin0).other W11 (Or.inr (slot_ne (Or.inr (hw _ (List.mem_of_getElem? (i := 33) rfl))) (Or.inr (hw _ (List.mem_of_getElem? (i := 31) rfl))) (by decide) (t := (.array .byte)) (t' := .byte) (by decide) (by decide))))
  have k14 : To p.tables e below S0 (T11.setTop (mkF m 54 #[.val (.ref a), .val (.ref b), .val (.int (0 : Int32)), .val (.int (4 : Int32)), .val .null, .val (.ref t6)] [(.ref t6), (.ref a)])) := fun tt hq => k11 tt (by
    show Steps _ _ _ (T11.setTop (mkF m 51 #[.val (.ref a), .val (.ref b), .val (.int (0 : Int32)), .val (.int (4 : Int32)), .val .null, .val (.ref t6)] [])) _
    refine XS.aloadN X11.here hx rfl (hb hby d_jdk_42_method_149_code_51) rfl rfl ?_
    show Steps _ _ _ (T11.setTop (mkF m 52 #[.val (.ref a), .val (.ref b), .val (.int (0 : Int32)), .val (.int (4 : Int32)), .val .null, .val (.ref t6)] [(.ref a)])) _
    refine XS.aload X11.here hx rfl (hb hby d_jdk_42_method_149_code_52) rfl rfl ?_
    show Steps _ _ _ (T11.setTop (mkF m 54 #[.val (.ref a), .val (.ref b), .val (.int (0 : Int32)), .val (.int (4 : Int32)), .val .null, .val (.ref t6)] [(.ref t6), (.ref a)])) _
    exact hq)
  obtain ⟨T15, h15, X15, e15, W15, st15⟩ := putF X11 hx hZ hown (host := "") (Or.inl (hw _ (List.mem_of_getElem? (i := 32) rfl))) Via.refl e11 f13 f12 (Or.inr ⟨(hw _ (List.mem_of_getElem? (i := 33) rfl)), rfl, hnm⟩) (hw _ (List.mem_of_getElem? (i := 6) rfl)) (ty := (.array .byte)) (by decide) rfl rfl (g := (mkF m 54 #[.val (.ref a), .val (.ref b), .val (.int (0 : Int32)), .val (.int (4 : Int32)), .val .null, .val (.ref t6)] [(.ref t6), (.ref a)])) rfl rfl (hb hby d_jdk_42_method_149_code_54)
  have k15 : To p.tables e below S0 (T15.setTop (mkF m 57 #[.val (.ref a), .val (.ref b), .val (.int (0 : Int32)), .val (.int (4 : Int32)), .val .null, .val (.ref t6)] [])) := fun tt hq => k14 tt (st15 tt hq)
  have z15 : h15.size = h11.size := W15.size
  have F15 := f13.same W15
  have N15 := Fr.snoc X15 N11 (by omega : n0 ≤ a)
  have f16 : Exa Z h15 a "java/lang/String" := (f12.wr W15)
  have f17 : Fld Z h15 a "java/lang/String" "coder" "B" (.int (0 : Int32)) := (F11.other W15 (Or.inr (slot_ne (Or.inr (hw _ (List.mem_of_getElem? (i := 31) rfl))) (Or.inr (hw _ (List.mem_of_getElem? (i := 33) rfl))) (by decide) (t := .byte) (t' := (.array .byte)) (by decide) (by decide))))
  have f18 : Arv Z h15 t6 kt6 .byte (4 : Int32) [(.int (nar .byte (d0.toInt8.toInt32))), (.int (nar .byte (d1.toInt8.toInt32))), (.int (nar .byte (d2.toInt8.toInt32))), (.int (nar .byte (d3.toInt8.toInt32)))] (.int (0 : Int32)) := ((V6.other W11 (adr_ne (by omega))).other W15 (adr_ne (by omega)))
  have hE := e15
  refine retVoid X15 hx hret hlk (hb hby d_jdk_42_method_149_code_57) k15 ?_ (by decide) (by decide)
  try rw [hE]
  exact ⟨rfl, N15, ((((Keep.refl h0 [a]).trans Kq6 all0).wr W11 (Or.inl (by simp))).wr W15 (Or.inl (by simp))), t6, kt6, (by omega), f16, F15, f17, f18⟩
theorem d_jdk_42_method_3_code_0 : decode jdk_42_method_3_code 0 = .ok (.aload_n 0, 1) := by decide +kernel
theorem d_jdk_42_method_3_code_1 : decode jdk_42_method_3_code 1 = .ok (.aload_n 1, 1) := by decide +kernel
theorem d_jdk_42_method_3_code_2 : decode jdk_42_method_3_code 2 = .ok (.iconst 0, 1) := by decide +kernel
theorem d_jdk_42_method_3_code_3 : decode jdk_42_method_3_code 3 = .ok (.aload_n 1, 1) := by decide +kernel
theorem d_jdk_42_method_3_code_4 : decode jdk_42_method_3_code 4 = .ok (.arraylength, 1) := by decide +kernel
theorem d_jdk_42_method_3_code_5 : decode jdk_42_method_3_code 5 = .ok (.aconst_null, 1) := by decide +kernel
theorem d_jdk_42_method_3_code_6 : decode jdk_42_method_3_code 6 = .ok (.invokespecial 27, 3) := by decide +kernel
theorem d_jdk_42_method_3_code_9 : decode jdk_42_method_3_code 9 = .ok (.return_, 1) := by decide +kernel
theorem pd_3 : parseMethodDescriptor "([CIILjava/lang/Void;)V" = some ⟨[(.array .char), .int, .int, (.object "java/lang/Void")], none⟩ := by decide +kernel
set_option maxRecDepth 65536 in
set_option maxHeartbeats 40000000 in
theorem rm_n1_4 (l : Launch) (Z : State) (a0 : Array Value) (hw : ∀ d ∈ tables_1, d.before a0 Z = true) (zc : Int32) (a : Addr) (b : Addr) (kb : ClassId) (u1 : Value) (u2 : Value) (d0 : Int32) (d1 : Int32) (d2 : Int32) (d3 : Int32) (h0 : Heap) (n0 : Nat) (hn0 : n0 ≤ h0.size) (S_c : Sta Z Z.heap "java/lang/String" "COMPACT_STRINGS" "Z" (.int zc)) (hzc : ¬ zc = (0 : Int32)) (O0 : Old Z n0 h0) (E0 : Exa Z h0 a "java/lang/String") (F1 : Fld Z h0 a "java/lang/String" "value" "[B" u1) (F2 : Fld Z h0 a "java/lang/String" "coder" "B" u2) (P0 : Arv Z h0 b kb .char (4 : Int32) [(.int d0), (.int d1), (.int d2), (.int d3)] (.int (0 : Int32))) (ga : n0 ≤ a) (ya : @LT.lt Nat instLTNat a h0.size) (yb : @LT.lt Nat instLTNat b h0.size) (nab : ¬ (@Eq Nat b a)) (hd0 : ¬ d0 < (0 : Int32) ∧ ¬ (255 : Int32) < d0) (hd1 : ¬ d1 < (0 : Int32) ∧ ¬ (255 : Int32) < d1) (hd2 : ¬ d2 < (0 : Int32) ∧ ¬ (255 : Int32) < d2) (hd3 : ¬ d3 < (0 : Int32) ∧ ¬ (255 : Int32) < d3) :
    Con l Z (⟨"java/lang/String", "<init>", "([C)V"⟩ : MethodName) jdk_42_method_3_code 2 none [] ({ frames := 3, cells := 1, slots := 4, locals := 52 } : Room) #[(.ref a), (.ref b)] h0 (fun v h L => v = none ∧ Fr n0 L ∧ Keep h0 h [a] ∧ ∃ (t : Addr) (k : ClassId), h0.size ≤ t ∧ Exa Z h a "java/lang/String" ∧ Fld Z h a "java/lang/String" "value" "[B" (.ref t) ∧ Fld Z h a "java/lang/String" "coder" "B" (.int (0 : Int32)) ∧ Arv Z h t k .byte (4 : Int32) [(.int (nar .byte (d0.toInt8.toInt32))), (.int (nar .byte (d1.toInt8.toInt32))), (.int (nar .byte (d2.toInt8.toInt32))), (.int (nar .byte (d3.toInt8.toInt32)))] (.int (0 : Int32))) := by
  refine enter (Ls := #[.val (.ref a), .val (.ref b)]) (plainFor_of_name pn_1) (fun m => by exact entry_eq rfl) ?_
  intro p e s m below meth cd_ s₁ S0 hx hby hml hret hlk hnm hown hZ X0 e0 k0
  have N0 := Fr.nil n0
  have k1 : To p.tables e below S0 (s₁.setTop (mkF m 4 #[.val (.ref a), .val (.ref b)] [(.ref b), (.int (0 : Int32)), (.ref b), (.ref a)])) := fun tt hq => k0 tt (by
    show Steps _ _ _ (s₁.setTop (mkF m 0 #[.val (.ref a), .val (.ref b)] [])) _
    refine XS.aloadN X0.here hx rfl (hb hby d_jdk_42_method_3_code_0) rfl rfl ?_
    show Steps _ _ _ (s₁.setTop (mkF m 1 #[.val (.ref a), .val (.ref b)] [(.ref a)])) _
    refine XS.aloadN X0.here hx rfl (hb hby d_jdk_42_method_3_code_1) rfl rfl ?_
    show Steps _ _ _ (s₁.setTop (mkF m 2 #[.val (.ref a), .val (.ref b)] [(.ref b), (.ref a)])) _
    refine XS.iconst X0.here hx rfl (hb hby d_jdk_42_method_3_code_2) ?_
    show Steps _ _ _ (s₁.setTop (mkF m 3 #[.val (.ref a), .val (.ref b)] [(.int (0 : Int32)), (.ref b), (.ref a)])) _
    refine XS.aloadN X0.here hx rfl (hb hby d_jdk_42_method_3_code_3) rfl rfl ?_
    show Steps _ _ _ (s₁.setTop (mkF m 4 #[.val (.ref a), .val (.ref b)] [(.ref b), (.int (0 : Int32)), (.ref b), (.ref a)])) _
    exact hq)
  obtain ⟨cl2, Ar2, -, S2, M2, -, -⟩ := id P0
  have st2 := fun tt => X0.arraylength hx (by rw [e0]; exact Ar2.1) (State.isArrayOf_alike hZ.alike Ar2.2.1) (g := (mkF m 4 #[.val (.ref a), .val (.ref b)] [(.ref b), (.int (0 : Int32)), (.ref b), (.ref a)])) rfl rfl (hb hby d_jdk_42_method_3_code_4) tt
  rw [len_of S2 M2] at st2
  have k2 : To p.tables e below S0 (s₁.setTop (mkF m 5 #[.val (.ref a), .val (.ref b)] [(.int (4 : Int32)), (.int (0 : Int32)), (.ref b), (.ref a)])) := fun tt hq => k1 tt (st2 tt hq)
  have k3 : To p.tables e below S0 (s₁.setTop (mkF m 6 #[.val (.ref a), .val (.ref b)] [.null, (.int (4 : Int32)), (.int (0 : Int32)), (.ref b), (.ref a)])) := fun tt hq => k2 tt (by
    show Steps _ _ _ (s₁.setTop (mkF m 5 #[.val (.ref a), .val (.ref b)] [(.int (4 : Int32)), (.int (0 : Int32)), (.ref b), (.ref a)])) _
    refine XS.aconstNull X0.here hx rfl (hb hby d_jdk_42_method_3_code_5) ?_
    show Steps _ _ _ (s₁.setTop (mkF m 6 #[.val (.ref a), .val (.ref b)] [.null, (.int (4 : Int32)), (.int (0 : Int32)), (.ref b), (.ref a)])) _
    exact hq)
  obtain ⟨_, T4, L4, X4, ⟨rfl, Nq4, Kq4, t4, kt4, gt4, P40, P41, P42, P43⟩, k4a⟩ := callC' X0 hx hZ (y := (⟨"java/lang/String", "<init>", "([CIILjava/lang/Void;)V"⟩ : MethodName)) rfl hown (hw _ (List.mem_of_getElem? (i := 11) rfl)) (hw _ (List.mem_of_getElem? (i := 12) rfl)) (hw _ (List.mem_of_getElem? (i := 14) rfl)) (by decide) (backC (W := 0) (rm_n4_4 l Z a0 hw zc a b kb u1 u2 d0 d1 d2 d3 h0 n0 (by omega) S_c hzc O0 E0 F1 F2 P0 (by omega) (by omega) (by omega) (by omega) hd0 hd1 hd2 hd3) hZ (hw _ (List.mem_of_getElem? (i := 14) rfl)) (hw _ (List.mem_of_getElem? (i := 7) rfl)) (by decide) (by decide)) e0 (argsL := [(.ref b), (.int (0 : Int32)), (.int (4 : Int32)), .null]) (rest := []) rfl rfl pd_3 rfl (by rw [hml]; rfl) (hb hby d_jdk_42_method_3_code_6) (Nat.le_of_eq rfl) (by decide) (by decide) k3
  have k4 : To p.tables e below S0 (T4.setTop (mkF m 9 #[.val (.ref a), .val (.ref b)] [])) := k4a
  have N4 := N0.app Nq4
  obtain ⟨h4, e4⟩ : ∃ z, T4.heap = z := ⟨_, rfl⟩
  rw [e4] at Kq4 P40 P41 P42 P43
  have z4 : h0.size ≤ h4.size := Kq4.1
  have y4 : @LT.lt Nat instLTNat t4 h4.size := P43.lt
  have hE := e4
  refine retVoid X4 hx hret hlk (hb hby d_jdk_42_method_3_code_9) k4 ?_ (by decide) (by decide)
  try rw [hE]
  exact ⟨rfl, N4, ((Keep.refl h0 [a]).trans Kq4 (allS (Or.inl (by simp)) all0)), t4, kt4, (by omega), P40, P41, P42, P43⟩
theorem d_jdk_42_method_154_code_0 : decode jdk_42_method_154_code 0 = .ok (.getstatic 38, 3) := by decide +kernel
theorem d_jdk_42_method_154_code_3 : decode jdk_42_method_154_code 3 = .ok (.ifCond .eq 14, 3) := by decide +kernel
theorem d_jdk_42_method_154_code_6 : decode jdk_42_method_154_code 6 = .ok (.aload_n 0, 1) := by decide +kernel
theorem d_jdk_42_method_154_code_7 : decode jdk_42_method_154_code 7 = .ok (.getfield 15, 3) := by decide +kernel
theorem d_jdk_42_method_154_code_10 : decode jdk_42_method_154_code 10 = .ok (.ifCond .ne 7, 3) := by decide +kernel
theorem d_jdk_42_method_154_code_13 : decode jdk_42_method_154_code 13 = .ok (.iconst 1, 1) := by decide +kernel
theorem d_jdk_42_method_154_code_14 : decode jdk_42_method_154_code 14 = .ok (.goto 4, 3) := by decide +kernel
theorem d_jdk_42_method_154_code_17 : decode jdk_42_method_154_code 17 = .ok (.iconst 0, 1) := by decide +kernel
theorem d_jdk_42_method_154_code_18 : decode jdk_42_method_154_code 18 = .ok (.ireturn, 1) := by decide +kernel
set_option maxRecDepth 65536 in
set_option maxHeartbeats 40000000 in
theorem rm_latin (l : Launch) (Z : State) (a0 : Array Value) (hw : ∀ d ∈ tables_1, d.before a0 Z = true) (zc : Int32) (a : Addr) (h0 : Heap) (n0 : Nat) (hn0 : n0 ≤ h0.size) (S_c : Sta Z Z.heap "java/lang/String" "COMPACT_STRINGS" "Z" (.int zc)) (hzc : ¬ zc = (0 : Int32)) (O0 : Old Z n0 h0) (F0 : Fld Z h0 a "java/lang/String" "coder" "B" (.int (0 : Int32))) :
    Con l Z (⟨"java/lang/String", "isLatin1", "()Z"⟩ : MethodName) jdk_42_method_154_code 1 (some .boolean) [] ({ frames := 0, cells := 0, slots := 0, locals := 0 } : Room) #[(.ref a)] h0 (fun v h L => v = some (.int (1 : Int32)) ∧ Fr n0 L ∧ h = h0) := by
  refine enter (Ls := #[.val (.ref a)]) (plainFor_of_name pn_1) (fun m => by exact entry_eq rfl) ?_
  intro p e s m below meth cd_ s₁ S0 hx hby hml hret hlk hnm hown hZ X0 e0 k0
  have N0 := Fr.nil n0
  obtain ⟨T1, X1, e1, st1⟩ := getS2 X0 hx hZ hown (host := "") (Or.inl (hw _ (List.mem_of_getElem? (i := 18) rfl))) Via.refl e0 (staOld S_c O0) (g := (mkF m 0 #[.val (.ref a)] [])) rfl (hb hby d_jdk_42_method_154_code_0)
  have k1 : To p.tables e below S0 (T1.setTop (mkF m 3 #[.val (.ref a)] [(.int zc)])) := fun tt hq => k0 tt (st1 tt hq)
  have k2 : To p.tables e below S0 (T1.setTop (mkF m 7 #[.val (.ref a)] [(.ref a)])) := fun tt hq => k1 tt (by
    show Steps _ _ _ (T1.setTop (mkF m 3 #[.val (.ref a)] [(.int zc)])) _
    refine XS.ifNo X1.here hx rfl (hb hby d_jdk_42_method_154_code_3) rfl ((if0 _ _).trans (feq hzc).1) ?_
    show Steps _ _ _ (T1.setTop (mkF m 6 #[.val (.ref a)] [])) _
    refine XS.aloadN X1.here hx rfl (hb hby d_jdk_42_method_154_code_6) rfl rfl ?_
    show Steps _ _ _ (T1.setTop (mkF m 7 #[.val (.ref a)] [(.ref a)])) _
    exact hq)
  obtain ⟨T3, X3, e3, st3⟩ := getF X1 hx hZ hown (host := "") (Or.inl (hw _ (List.mem_of_getElem? (i := 30) rfl))) Via.refl e1 F0 (g := (mkF m 7 #[.val (.ref a)] [(.ref a)])) rfl rfl (hb hby d_jdk_42_method_154_code_7)
  have k3 : To p.tables e below S0 (T3.setTop (mkF m 10 #[.val (.ref a)] [(.int (0 : Int32))])) := fun tt hq => k2 tt (st3 tt hq)
  have k4 : To p.tables e below S0 (T3.setTop (mkF m 18 #[.val (.ref a)] [(.int (1 : Int32))])) := fun tt hq => k3 tt (by
    show Steps _ _ _ (T3.setTop (mkF m 10 #[.val (.ref a)] [(.int (0 : Int32))])) _
    refine XS.ifNo X3.here hx rfl (hb hby d_jdk_42_method_154_code_10) rfl ((if0 _ _).trans (teq (by decide)).2) ?_
    show Steps _ _ _ (T3.setTop (mkF m 13 #[.val (.ref a)] [])) _
    refine XS.iconst X3.here hx rfl (hb hby d_jdk_42_method_154_code_13) ?_
    show Steps _ _ _ (T3.setTop (mkF m 14 #[.val (.ref a)] [(.int (1 : Int32))])) _
    refine XS.goto X3.here hx rfl (pc0 := 14) (pc' := 18) rfl (hb hby d_jdk_42_method_154_code_14) (by decide) (by decide) ?_
    show Steps _ _ _ (T3.setTop (mkF m 18 #[.val (.ref a)] [(.int (1 : Int32))])) _
    exact hq)
  have hE := e3
  refine retInt X3 hx hret hlk (by simp) rfl (hb hby d_jdk_42_method_154_code_18) k4 ?_ (by decide) (by decide)
  try rw [hE]
  exact ⟨rfl, N0, rfl⟩
theorem d_jdk_41_method_11_code_0 : decode jdk_41_method_11_code 0 = .ok (.iload_n 0, 1) := by decide +kernel
theorem d_jdk_41_method_11_code_1 : decode jdk_41_method_11_code 1 = .ok (.ifCond .lt 8, 3) := by decide +kernel
theorem d_jdk_41_method_11_code_4 : decode jdk_41_method_11_code 4 = .ok (.iload_n 0, 1) := by decide +kernel
theorem d_jdk_41_method_11_code_5 : decode jdk_41_method_11_code 5 = .ok (.iload_n 1, 1) := by decide +kernel
theorem d_jdk_41_method_11_code_6 : decode jdk_41_method_11_code 6 = .ok (.if_icmp .lt 10, 3) := by decide +kernel
theorem d_jdk_41_method_11_code_9 : decode jdk_41_method_11_code 9 = .ok (.aload_n 2, 1) := by decide +kernel
theorem d_jdk_41_method_11_code_10 : decode jdk_41_method_11_code 10 = .ok (.iload_n 0, 1) := by decide +kernel
theorem d_jdk_41_method_11_code_11 : decode jdk_41_method_11_code 11 = .ok (.iload_n 1, 1) := by decide +kernel
theorem d_jdk_41_method_11_code_12 : decode jdk_41_method_11_code 12 = .ok (.invokestatic 95, 3) := by decide +kernel
theorem d_jdk_41_method_11_code_15 : decode jdk_41_method_11_code 15 = .ok (.athrow, 1) := by decide +kernel
theorem d_jdk_41_method_11_code_16 : decode jdk_41_method_11_code 16 = .ok (.iload_n 0, 1) := by decide +kernel
theorem d_jdk_41_method_11_code_17 : decode jdk_41_method_11_code 17 = .ok (.ireturn, 1) := by decide +kernel
theorem pn_2 : plainName "jdk/internal/util/Preconditions" = true := by first | (simp [plainName, overriddenIn]; done) | decide +kernel
set_option maxRecDepth 65536 in
set_option maxHeartbeats 40000000 in
theorem rm_pchk (l : Launch) (Z : State) (a0 : Array Value) (hw : ∀ d ∈ tables_1, d.before a0 Z = true) (i : Int32) (n : Int32) (fm : Value) (h0 : Heap) (n0 : Nat) (hn0 : n0 ≤ h0.size) (hfm : fm.isRef = true) (hi0 : ¬ i < (0 : Int32)) (hi1 : i < n) :
    Con l Z (⟨"jdk/internal/util/Preconditions", "checkIndex", "(IILjava/util/function/BiFunction;)I"⟩ : MethodName) jdk_41_method_11_code 3 (some .int) [] ({ frames := 0, cells := 0, slots := 0, locals := 0 } : Room) #[(.int i), (.int n), fm] h0 (fun v h L => v = some (.int i) ∧ Fr n0 L ∧ h = h0) := by
  refine enter (Ls := #[.val (.int i), .val (.int n), .val fm]) (plainFor_of_name pn_2) (fun m => by rcases ref_cases hfm with rfl | ⟨z, rfl⟩ <;> exact entry_eq rfl) ?_
  intro p e s m below meth cd_ s₁ S0 hx hby hml hret hlk hnm hown hZ X0 e0 k0
  have N0 := Fr.nil n0
  have k1 : To p.tables e below S0 (s₁.setTop (mkF m 17 #[.val (.int i), .val (.int n), .val fm] [(.int i)])) := fun tt hq => k0 tt (by
    show Steps _ _ _ (s₁.setTop (mkF m 0 #[.val (.int i), .val (.int n), .val fm] [])) _
    refine XS.iloadN X0.here hx rfl (hb hby d_jdk_41_method_11_code_0) rfl ?_
    show Steps _ _ _ (s₁.setTop (mkF m 1 #[.val (.int i), .val (.int n), .val fm] [(.int i)])) _
    refine XS.ifNo X0.here hx rfl (hb hby d_jdk_41_method_11_code_1) rfl ((if0 _ _).trans (flt hi0).1) ?_
    show Steps _ _ _ (s₁.setTop (mkF m 4 #[.val (.int i), .val (.int n), .val fm] [])) _
    refine XS.iloadN X0.here hx rfl (hb hby d_jdk_41_method_11_code_4) rfl ?_
    show Steps _ _ _ (s₁.setTop (mkF m 5 #[.val (.int i), .val (.int n), .val fm] [(.int i)])) _
    refine XS.iloadN X0.here hx rfl (hb hby d_jdk_41_method_11_code_5) rfl ?_
    show Steps _ _ _ (s₁.setTop (mkF m 6 #[.val (.int i), .val (.int n), .val fm] [(.int n), (.int i)])) _
    refine XS.icmpYes X0.here hx rfl (pc0 := 6) (pc' := 16) rfl (hb hby d_jdk_41_method_11_code_6) rfl (tlt hi1).1 (by decide) (by decide) ?_
    show Steps _ _ _ (s₁.setTop (mkF m 16 #[.val (.int i), .val (.int n), .val fm] [])) _
    refine XS.iloadN X0.here hx rfl (hb hby d_jdk_41_method_11_code_16) rfl ?_
    show Steps _ _ _ (s₁.setTop (mkF m 17 #[.val (.int i), .val (.int n), .val fm] [(.int i)])) _
    exact hq)
  have hE := e0
  refine retInt X0 hx hret hlk (by simp) rfl (hb hby d_jdk_41_method_11_code_17) k1 ?_ (by decide) (by decide)
  try rw [hE]
  exact ⟨rfl, N0, rfl⟩
theorem d_jdk_42_method_155_code_0 : decode jdk_42_method_155_code 0 = .ok (.iload_n 0, 1) := by decide +kernel
theorem d_jdk_42_method_155_code_1 : decode jdk_42_method_155_code 1 = .ok (.iload_n 1, 1) := by decide +kernel
theorem d_jdk_42_method_155_code_2 : decode jdk_42_method_155_code 2 = .ok (.getstatic 1053, 3) := by decide +kernel
theorem d_jdk_42_method_155_code_5 : decode jdk_42_method_155_code 5 = .ok (.invokestatic 1059, 3) := by decide +kernel
theorem d_jdk_42_method_155_code_8 : decode jdk_42_method_155_code 8 = .ok (.pop, 1) := by decide +kernel
theorem d_jdk_42_method_155_code_9 : decode jdk_42_method_155_code 9 = .ok (.return_, 1) := by decide +kernel
theorem pd_4 : parseMethodDescriptor "(IILjava/util/function/BiFunction;)I" = some ⟨[.int, .int, (.object "java/util/function/BiFunction")], some .int⟩ := by decide +kernel
set_option maxRecDepth 65536 in
set_option maxHeartbeats 40000000 in
theorem rm_chk (l : Launch) (Z : State) (a0 : Array Value) (hw : ∀ d ∈ tables_1, d.before a0 Z = true) (fm : Value) (i : Int32) (n : Int32) (h0 : Heap) (n0 : Nat) (hn0 : n0 ≤ h0.size) (S_f : Sta Z Z.heap "jdk/internal/util/Preconditions" "SIOOBE_FORMATTER" "Ljava/util/function/BiFunction;" fm) (hfm : fm.isRef = true) (O0 : Old Z n0 h0) (hi0 : ¬ i < (0 : Int32)) (hi1 : i < n) :
    Con l Z (⟨"java/lang/String", "checkIndex", "(II)V"⟩ : MethodName) jdk_42_method_155_code 2 none [] ({ frames := 1, cells := 0, slots := 0, locals := 14 } : Room) #[(.int i), (.int n)] h0 (fun v h L => v = none ∧ Fr n0 L ∧ h = h0) := by
  refine enter (Ls := #[.val (.int i), .val (.int n)]) (plainFor_of_name pn_1) (fun m => by exact entry_eq rfl) ?_
  intro p e s m below meth cd_ s₁ S0 hx hby hml hret hlk hnm hown hZ X0 e0 k0
  have N0 := Fr.nil n0
  have k1 : To p.tables e below S0 (s₁.setTop (mkF m 2 #[.val (.int i), .val (.int n)] [(.int n), (.int i)])) := fun tt hq => k0 tt (by
    show Steps _ _ _ (s₁.setTop (mkF m 0 #[.val (.int i), .val (.int n)] [])) _
    refine XS.iloadN X0.here hx rfl (hb hby d_jdk_42_method_155_code_0) rfl ?_
    show Steps _ _ _ (s₁.setTop (mkF m 1 #[.val (.int i), .val (.int n)] [(.int i)])) _
    refine XS.iloadN X0.here hx rfl (hb hby d_jdk_42_method_155_code_1) rfl ?_
    show Steps _ _ _ (s₁.setTop (mkF m 2 #[.val (.int i), .val (.int n)] [(.int n), (.int i)])) _
    exact hq)
  obtain ⟨T2, X2, e2, st2⟩ := getS2 X0 hx hZ hown (host := "") (Or.inl (hw _ (List.mem_of_getElem? (i := 59) rfl))) Via.refl e0 (staOld S_f O0) (g := (mkF m 2 #[.val (.int i), .val (.int n)] [(.int n), (.int i)])) rfl (hb hby d_jdk_42_method_155_code_2)
  have k2 : To p.tables e below S0 (T2.setTop (mkF m 5 #[.val (.int i), .val (.int n)] [fm, (.int n), (.int i)])) := fun tt hq => k1 tt (st2 tt hq)
  obtain ⟨_, T3, L3, X3, ⟨rfl, Nq3, eq3⟩, k3a⟩ := callS' X2 hx hZ (y := (⟨"jdk/internal/util/Preconditions", "checkIndex", "(IILjava/util/function/BiFunction;)I"⟩ : MethodName)) hown (hw _ (List.mem_of_getElem? (i := 61) rfl)) (hw _ (List.mem_of_getElem? (i := 62) rfl)) (hw _ (List.mem_of_getElem? (i := 60) rfl)) (hw _ (List.mem_of_getElem? (i := 63) rfl)) (by decide) (backC (W := 0) (rm_pchk l Z a0 hw i n fm h0 n0 (by omega) hfm hi0 hi1) hZ (hw _ (List.mem_of_getElem? (i := 63) rfl)) (hw _ (List.mem_of_getElem? (i := 60) rfl)) (by decide) (by decide)) e2 (argsL := [(.int i), (.int n), fm]) (rest := []) rfl rfl pd_4 rfl (by rw [hml]; rfl) (hb hby d_jdk_42_method_155_code_5) (Nat.le_of_eq rfl) (by decide) (by decide) k2
  have k3 : To p.tables e below S0 (T3.setTop (mkF m 8 #[.val (.int i), .val (.int n)] [(.int i)])) := k3a
  have N3 := N0.app Nq3
  have e3 : T3.heap = h0 := eq3
  have k4 : To p.tables e below S0 (T3.setTop (mkF m 9 #[.val (.int i), .val (.int n)] [])) := fun tt hq => k3 tt (by
    show Steps _ _ _ (T3.setTop (mkF m 8 #[.val (.int i), .val (.int n)] [(.int i)])) _
    refine XS.pop X3.here hx rfl (hb hby d_jdk_42_method_155_code_8) rfl rfl ?_
    show Steps _ _ _ (T3.setTop (mkF m 9 #[.val (.int i), .val (.int n)] [])) _
    exact hq)
  have hE := e3
  refine retVoid X3 hx hret hlk (hb hby d_jdk_42_method_155_code_9) k4 ?_ (by decide) (by decide)
  try rw [hE]
  exact ⟨rfl, N3, rfl⟩
theorem d_jdk_43_method_2_code_0 : decode jdk_43_method_2_code 0 = .ok (.iload_n 1, 1) := by decide +kernel
theorem d_jdk_43_method_2_code_1 : decode jdk_43_method_2_code 1 = .ok (.aload_n 0, 1) := by decide +kernel
theorem d_jdk_43_method_2_code_2 : decode jdk_43_method_2_code 2 = .ok (.arraylength, 1) := by decide +kernel
theorem d_jdk_43_method_2_code_3 : decode jdk_43_method_2_code 3 = .ok (.invokestatic 9, 3) := by decide +kernel
theorem d_jdk_43_method_2_code_6 : decode jdk_43_method_2_code 6 = .ok (.aload_n 0, 1) := by decide +kernel
theorem d_jdk_43_method_2_code_7 : decode jdk_43_method_2_code 7 = .ok (.iload_n 1, 1) := by decide +kernel
theorem d_jdk_43_method_2_code_8 : decode jdk_43_method_2_code 8 = .ok (.baload, 1) := by decide +kernel
theorem d_jdk_43_method_2_code_9 : decode jdk_43_method_2_code 9 = .ok (.sipush 255, 3) := by decide +kernel
theorem d_jdk_43_method_2_code_12 : decode jdk_43_method_2_code 12 = .ok (.iand, 1) := by decide +kernel
theorem d_jdk_43_method_2_code_13 : decode jdk_43_method_2_code 13 = .ok (.i2c, 1) := by decide +kernel
theorem d_jdk_43_method_2_code_14 : decode jdk_43_method_2_code 14 = .ok (.ireturn, 1) := by decide +kernel
theorem pn_3 : plainName "java/lang/StringLatin1" = true := by first | (simp [plainName, overriddenIn]; done) | decide +kernel
theorem pd_5 : parseMethodDescriptor "(II)V" = some ⟨[.int, .int], none⟩ := by decide +kernel
set_option maxRecDepth 65536 in
set_option maxHeartbeats 40000000 in
theorem rm_lca4_0 (l : Launch) (Z : State) (a0 : Array Value) (hw : ∀ d ∈ tables_1, d.before a0 Z = true) (fm : Value) (t : Addr) (kt : ClassId) (c0 : Int32) (c1 : Int32) (c2 : Int32) (c3 : Int32) (h0 : Heap) (n0 : Nat) (hn0 : n0 ≤ h0.size) (S_f : Sta Z Z.heap "jdk/internal/util/Preconditions" "SIOOBE_FORMATTER" "Ljava/util/function/BiFunction;" fm) (hfm : fm.isRef = true) (O0 : Old Z n0 h0) (P0 : Arv Z h0 t kt .byte (4 : Int32) [(.int c0), (.int c1), (.int c2), (.int c3)] (.int 0)) :
    Con l Z (⟨"java/lang/StringLatin1", "charAt", "([BI)C"⟩ : MethodName) jdk_43_method_2_code 2 (some .char) [] ({ frames := 2, cells := 0, slots := 0, locals := 27 } : Room) #[(.ref t), (.int (0 : Int32))] h0 (fun v h L => v = some (.int (c0 &&& (255 : Int32))) ∧ Fr n0 L ∧ h = h0) := by
  refine enter (Ls := #[.val (.ref t), .val (.int (0 : Int32))]) (plainFor_of_name pn_3) (fun m => by exact entry_eq rfl) ?_
  intro p e s m below meth cd_ s₁ S0 hx hby hml hret hlk hnm hown hZ X0 e0 k0
  have N0 := Fr.nil n0
  have k1 : To p.tables e below S0 (s₁.setTop (mkF m 2 #[.val (.ref t), .val (.int (0 : Int32))] [(.ref t), (.int (0 : Int32))])) := fun tt hq => k0 tt (by
    show Steps _ _ _ (s₁.setTop (mkF m 0 #[.val (.ref t), .val (.int (0 : Int32))] [])) _
    refine XS.iloadN X0.here hx rfl (hb hby d_jdk_43_method_2_code_0) rfl ?_
    show Steps _ _ _ (s₁.setTop (mkF m 1 #[.val (.ref t), .val (.int (0 : Int32))] [(.int (0 : Int32))])) _
    refine XS.aloadN X0.here hx rfl (hb hby d_jdk_43_method_2_code_1) rfl rfl ?_
    show Steps _ _ _ (s₁.setTop (mkF m 2 #[.val (.ref t), .val (.int (0 : Int32))] [(.ref t), (.int (0 : Int32))])) _
    exact hq)
  obtain ⟨cl2, Ar2, -, S2, M2, -, -⟩ := id P0
  have st2 := fun tt => X0.arraylength hx (by rw [e0]; exact Ar2.1) (State.isArrayOf_alike hZ.alike Ar2.2.1) (g := (mkF m 2 #[.val (.ref t), .val (.int (0 : Int32))] [(.ref t), (.int (0 : Int32))])) rfl rfl (hb hby d_jdk_43_method_2_code_2) tt
  rw [len_of S2 M2] at st2
  have k2 : To p.tables e below S0 (s₁.setTop (mkF m 3 #[.val (.ref t), .val (.int (0 : Int32))] [(.int (4 : Int32)), (.int (0 : Int32))])) := fun tt hq => k1 tt (st2 tt hq)
  obtain ⟨_, T3, L3, X3, ⟨rfl, Nq3, eq3⟩, k3a⟩ := callS' X0 hx hZ (y := (⟨"java/lang/String", "checkIndex", "(II)V"⟩ : MethodName)) hown (hw _ (List.mem_of_getElem? (i := 56) rfl)) (hw _ (List.mem_of_getElem? (i := 57) rfl)) (hw _ (List.mem_of_getElem? (i := 7) rfl)) (hw _ (List.mem_of_getElem? (i := 58) rfl)) (by decide) (backC (W := 0) (rm_chk l Z a0 hw fm (0 : Int32) (4 : Int32) h0 n0 (by omega) S_f hfm O0 (by decide) (by decide)) hZ (hw _ (List.mem_of_getElem? (i := 58) rfl)) (hw _ (List.mem_of_getElem? (i := 7) rfl)) (by decide) (by decide)) e0 (argsL := [(.int (0 : Int32)), (.int (4 : Int32))]) (rest := []) rfl rfl pd_5 rfl (by rw [hml]; rfl) (hb hby d_jdk_43_method_2_code_3) (Nat.le_of_eq rfl) (by decide) (by decide) k2
  have k3 : To p.tables e below S0 (T3.setTop (mkF m 6 #[.val (.ref t), .val (.int (0 : Int32))] [])) := k3a
  have N3 := N0.app Nq3
  have e3 : T3.heap = h0 := eq3
  have k4 : To p.tables e below S0 (T3.setTop (mkF m 8 #[.val (.ref t), .val (.int (0 : Int32))] [(.int (0 : Int32)), (.ref t)])) := fun tt hq => k3 tt (by
    show Steps _ _ _ (T3.setTop (mkF m 6 #[.val (.ref t), .val (.int (0 : Int32))] [])) _
    refine XS.aloadN X3.here hx rfl (hb hby d_jdk_43_method_2_code_6) rfl rfl ?_
    show Steps _ _ _ (T3.setTop (mkF m 7 #[.val (.ref t), .val (.int (0 : Int32))] [(.ref t)])) _
    refine XS.iloadN X3.here hx rfl (hb hby d_jdk_43_method_2_code_7) rfl ?_
    show Steps _ _ _ (T3.setTop (mkF m 8 #[.val (.ref t), .val (.int (0 : Int32))] [(.int (0 : Int32)), (.ref t)])) _
    exact hq)
  obtain ⟨cl5, Ar5, -, S5, -, G5, -⟩ := id P0
  have hi5 := inb_of (j := (0 : Int32)) S5 ⟨by decide, by decide⟩
  have st5 := fun tt => X3.baloadBytes hx (j := (0 : Int32)) (v := (.int c0)) (by rw [e3]; exact Ar5.1) (State.isArrayOf_alike hZ.alike Ar5.2.1) Ar5.2.2 hi5 (G5.at hi5 rfl) (g := (mkF m 8 #[.val (.ref t), .val (.int (0 : Int32))] [(.int (0 : Int32)), (.ref t)])) rfl rfl (hb hby d_jdk_43_method_2_code_8) tt
  have k5 : To p.tables e below S0 (T3.setTop (mkF m 9 #[.val (.ref t), .val (.int (0 : Int32))] [(.int c0)])) := fun tt hq => k4 tt (st5 tt hq)
  have k6 : To p.tables e below S0 (T3.setTop (mkF m 14 #[.val (.ref t), .val (.int (0 : Int32))] [(.int ((c0 &&& (255 : Int32)).toUInt32.toUInt16.toUInt32.toInt32))])) := fun tt hq => k5 tt (by
    show Steps _ _ _ (T3.setTop (mkF m 9 #[.val (.ref t), .val (.int (0 : Int32))] [(.int c0)])) _
    refine XS.sipush X3.here hx rfl (hb hby d_jdk_43_method_2_code_9) ?_
    show Steps _ _ _ (T3.setTop (mkF m 12 #[.val (.ref t), .val (.int (0 : Int32))] [(.int (255 : Int32)), (.int c0)])) _
    refine XS.iand X3.here hx rfl (hb hby d_jdk_43_method_2_code_12) rfl ?_
    show Steps _ _ _ (T3.setTop (mkF m 13 #[.val (.ref t), .val (.int (0 : Int32))] [(.int (c0 &&& (255 : Int32)))])) _
    refine XS.i2c X3.here hx rfl (hb hby d_jdk_43_method_2_code_13) rfl ?_
    show Steps _ _ _ (T3.setTop (mkF m 14 #[.val (.ref t), .val (.int (0 : Int32))] [(.int ((c0 &&& (255 : Int32)).toUInt32.toUInt16.toUInt32.toInt32))])) _
    exact hq)
  have k7 : To p.tables e below S0 (T3.setTop (mkF m 14 #[.val (.ref t), .val (.int (0 : Int32))] [(.int (c0 &&& (255 : Int32)))])) := by have hq := k6; rw [i2c_mask] at hq; exact hq
  have hE := e3
  refine retInt X3 hx hret hlk (by simp) (own_narrowc _) (hb hby d_jdk_43_method_2_code_14) k7 ?_ (by decide) (by decide)
  try rw [hE]
  exact ⟨rfl, N3, rfl⟩
theorem d_jdk_42_method_56_code_0 : decode jdk_42_method_56_code 0 = .ok (.aload_n 0, 1) := by decide +kernel
theorem d_jdk_42_method_56_code_1 : decode jdk_42_method_56_code 1 = .ok (.invokevirtual 492, 3) := by decide +kernel
theorem d_jdk_42_method_56_code_4 : decode jdk_42_method_56_code 4 = .ok (.ifCond .eq 12, 3) := by decide +kernel
theorem d_jdk_42_method_56_code_7 : decode jdk_42_method_56_code 7 = .ok (.aload_n 0, 1) := by decide +kernel
theorem d_jdk_42_method_56_code_8 : decode jdk_42_method_56_code 8 = .ok (.getfield 9, 3) := by decide +kernel
theorem d_jdk_42_method_56_code_11 : decode jdk_42_method_56_code 11 = .ok (.iload_n 1, 1) := by decide +kernel
theorem d_jdk_42_method_56_code_12 : decode jdk_42_method_56_code 12 = .ok (.invokestatic 495, 3) := by decide +kernel
theorem d_jdk_42_method_56_code_15 : decode jdk_42_method_56_code 15 = .ok (.ireturn, 1) := by decide +kernel
theorem d_jdk_42_method_56_code_16 : decode jdk_42_method_56_code 16 = .ok (.aload_n 0, 1) := by decide +kernel
theorem d_jdk_42_method_56_code_17 : decode jdk_42_method_56_code 17 = .ok (.getfield 9, 3) := by decide +kernel
theorem d_jdk_42_method_56_code_20 : decode jdk_42_method_56_code 20 = .ok (.iload_n 1, 1) := by decide +kernel
theorem d_jdk_42_method_56_code_21 : decode jdk_42_method_56_code 21 = .ok (.invokestatic 498, 3) := by decide +kernel
theorem d_jdk_42_method_56_code_24 : decode jdk_42_method_56_code 24 = .ok (.ireturn, 1) := by decide +kernel
theorem pd_6 : parseMethodDescriptor "()Z" = some ⟨[], some .boolean⟩ := by decide +kernel
theorem pd_7 : parseMethodDescriptor "([BI)C" = some ⟨[(.array .byte), .int], some .char⟩ := by decide +kernel
set_option maxRecDepth 65536 in
set_option maxHeartbeats 40000000 in
theorem rm_ca4_0 (l : Launch) (Z : State) (a0 : Array Value) (hw : ∀ d ∈ tables_1, d.before a0 Z = true) (zc : Int32) (fm : Value) (a : Addr) (t : Addr) (kt : ClassId) (c0 : Int32) (c1 : Int32) (c2 : Int32) (c3 : Int32) (r : Int32) (h0 : Heap) (n0 : Nat) (hn0 : n0 ≤ h0.size) (S_c : Sta Z Z.heap "java/lang/String" "COMPACT_STRINGS" "Z" (.int zc)) (hzc : ¬ zc = (0 : Int32)) (S_f : Sta Z Z.heap "jdk/internal/util/Preconditions" "SIOOBE_FORMATTER" "Ljava/util/function/BiFunction;" fm) (hfm : fm.isRef = true) (O0 : Old Z n0 h0) (P0 : Exa Z h0 a "java/lang/String") (P1 : Fld Z h0 a "java/lang/String" "value" "[B" (.ref t)) (P2 : Fld Z h0 a "java/lang/String" "coder" "B" (.int (0 : Int32))) (P3 : Arv Z h0 t kt .byte (4 : Int32) [(.int c0), (.int c1), (.int c2), (.int c3)] (.int 0)) (hr : (c0 &&& (255 : Int32)) = r) :
    Con l Z (⟨"java/lang/String", "charAt", "(I)C"⟩ : MethodName) jdk_42_method_56_code 2 (some .char) [] ({ frames := 3, cells := 0, slots := 0, locals := 40 } : Room) #[(.ref a), (.int (0 : Int32))] h0 (fun v h L => v = some (.int r) ∧ Fr n0 L ∧ h = h0) := by
  refine enter (Ls := #[.val (.ref a), .val (.int (0 : Int32))]) (plainFor_of_name pn_1) (fun m => by exact entry_eq rfl) ?_
  intro p e s m below meth cd_ s₁ S0 hx hby hml hret hlk hnm hown hZ X0 e0 k0
  have N0 := Fr.nil n0
  have k1 : To p.tables e below S0 (s₁.setTop (mkF m 1 #[.val (.ref a), .val (.int (0 : Int32))] [(.ref a)])) := fun tt hq => k0 tt (by
    show Steps _ _ _ (s₁.setTop (mkF m 0 #[.val (.ref a), .val (.int (0 : Int32))] [])) _
    refine XS.aloadN X0.here hx rfl (hb hby d_jdk_42_method_56_code_0) rfl rfl ?_
    show Steps _ _ _ (s₁.setTop (mkF m 1 #[.val (.ref a), .val (.int (0 : Int32))] [(.ref a)])) _
    exact hq)
  obtain ⟨_, T2, L2, X2, ⟨rfl, Nq2, eq2⟩, k2a⟩ := callV' X0 hx hZ (y := (⟨"java/lang/String", "isLatin1", "()Z"⟩ : MethodName)) (z := (⟨"java/lang/String", "isLatin1", "()Z"⟩ : MethodName)) hown (hw _ (List.mem_of_getElem? (i := 47) rfl)) (hw _ (List.mem_of_getElem? (i := 48) rfl)) (notFace_of_selects (args := #[]) (mvT hZ (hw _ (List.mem_of_getElem? (i := 50) rfl)))) (hw _ (List.mem_of_getElem? (i := 50) rfl)) (hw _ (List.mem_of_getElem? (i := 49) rfl)) (by decide) P0 (backC (W := 0) (rm_latin l Z a0 hw zc a h0 n0 (by omega) S_c hzc O0 P2) hZ (hw _ (List.mem_of_getElem? (i := 51) rfl)) (hw _ (List.mem_of_getElem? (i := 7) rfl)) (by decide) (by decide)) e0 (argsL := []) (rest := []) rfl rfl pd_6 rfl (by rw [hml]; rfl) (hb hby d_jdk_42_method_56_code_1) (Nat.le_of_eq rfl) (by decide) (by decide) k1
  have k2 : To p.tables e below S0 (T2.setTop (mkF m 4 #[.val (.ref a), .val (.int (0 : Int32))] [(.int (1 : Int32))])) := k2a
  have N2 := N0.app Nq2
  have e2 : T2.heap = h0 := eq2
  have k3 : To p.tables e below S0 (T2.setTop (mkF m 8 #[.val (.ref a), .val (.int (0 : Int32))] [(.ref a)])) := fun tt hq => k2 tt (by
    show Steps _ _ _ (T2.setTop (mkF m 4 #[.val (.ref a), .val (.int (0 : Int32))] [(.int (1 : Int32))])) _
    refine XS.ifNo X2.here hx rfl (hb hby d_jdk_42_method_56_code_4) rfl ((if0 _ _).trans (feq (by decide)).1) ?_
    show Steps _ _ _ (T2.setTop (mkF m 7 #[.val (.ref a), .val (.int (0 : Int32))] [])) _
    refine XS.aloadN X2.here hx rfl (hb hby d_jdk_42_method_56_code_7) rfl rfl ?_
    show Steps _ _ _ (T2.setTop (mkF m 8 #[.val (.ref a), .val (.int (0 : Int32))] [(.ref a)])) _
    exact hq)
  obtain ⟨T4, X4, e4, st4⟩ := getF X2 hx hZ hown (host := "") (Or.inl (hw _ (List.mem_of_getElem? (i := 32) rfl))) Via.refl e2 P1 (g := (mkF m 8 #[.val (.ref a), .val (.int (0 : Int32))] [(.ref a)])) rfl rfl (hb hby d_jdk_42_method_56_code_8)
  have k4 : To p.tables e below S0 (T4.setTop (mkF m 11 #[.val (.ref a), .val (.int (0 : Int32))] [(.ref t)])) := fun tt hq => k3 tt (st4 tt hq)
  have k5 : To p.tables e below S0 (T4.setTop (mkF m 12 #[.val (.ref a), .val (.int (0 : Int32))] [(.int (0 : Int32)), (.ref t)])) := fun tt hq => k4 tt (by
    show Steps _ _ _ (T4.setTop (mkF m 11 #[.val (.ref a), .val (.int (0 : Int32))] [(.ref t)])) _
    refine XS.iloadN X4.here hx rfl (hb hby d_jdk_42_method_56_code_11) rfl ?_
    show Steps _ _ _ (T4.setTop (mkF m 12 #[.val (.ref a), .val (.int (0 : Int32))] [(.int (0 : Int32)), (.ref t)])) _
    exact hq)
  obtain ⟨_, T6, L6, X6, ⟨rfl, Nq6, eq6⟩, k6a⟩ := callS' X4 hx hZ (y := (⟨"java/lang/StringLatin1", "charAt", "([BI)C"⟩ : MethodName)) hown (hw _ (List.mem_of_getElem? (i := 52) rfl)) (hw _ (List.mem_of_getElem? (i := 53) rfl)) (hw _ (List.mem_of_getElem? (i := 54) rfl)) (hw _ (List.mem_of_getElem? (i := 55) rfl)) (by decide) (backC (W := 0) (rm_lca4_0 l Z a0 hw fm t kt c0 c1 c2 c3 h0 n0 (by omega) S_f hfm O0 P3) hZ (hw _ (List.mem_of_getElem? (i := 55) rfl)) (hw _ (List.mem_of_getElem? (i := 54) rfl)) (by decide) (by decide)) e4 (argsL := [(.ref t), (.int (0 : Int32))]) (rest := []) rfl rfl pd_7 rfl (by rw [hml]; rfl) (hb hby d_jdk_42_method_56_code_12) (Nat.le_of_eq rfl) (by decide) (by decide) k5
  have k6 : To p.tables e below S0 (T6.setTop (mkF m 15 #[.val (.ref a), .val (.int (0 : Int32))] [(.int (c0 &&& (255 : Int32)))])) := k6a
  have N6 := N2.app Nq6
  have e6 : T6.heap = h0 := eq6
  have hE := e6
  refine retInt X6 hx hret hlk (by simp) (own_narrowc _) (hb hby d_jdk_42_method_56_code_15) k6 ?_ (by decide) (by decide)
  try rw [hE]
  exact ⟨by rw [hr], N6, rfl⟩
set_option maxRecDepth 65536 in
set_option maxHeartbeats 40000000 in
theorem rm_lca4_1 (l : Launch) (Z : State) (a0 : Array Value) (hw : ∀ d ∈ tables_1, d.before a0 Z = true) (fm : Value) (t : Addr) (kt : ClassId) (c0 : Int32) (c1 : Int32) (c2 : Int32) (c3 : Int32) (h0 : Heap) (n0 : Nat) (hn0 : n0 ≤ h0.size) (S_f : Sta Z Z.heap "jdk/internal/util/Preconditions" "SIOOBE_FORMATTER" "Ljava/util/function/BiFunction;" fm) (hfm : fm.isRef = true) (O0 : Old Z n0 h0) (P0 : Arv Z h0 t kt .byte (4 : Int32) [(.int c0), (.int c1), (.int c2), (.int c3)] (.int 0)) :
    Con l Z (⟨"java/lang/StringLatin1", "charAt", "([BI)C"⟩ : MethodName) jdk_43_method_2_code 2 (some .char) [] ({ frames := 2, cells := 0, slots := 0, locals := 27 } : Room) #[(.ref t), (.int (1 : Int32))] h0 (fun v h L => v = some (.int (c1 &&& (255 : Int32))) ∧ Fr n0 L ∧ h = h0) := by
  refine enter (Ls := #[.val (.ref t), .val (.int (1 : Int32))]) (plainFor_of_name pn_3) (fun m => by exact entry_eq rfl) ?_
  intro p e s m below meth cd_ s₁ S0 hx hby hml hret hlk hnm hown hZ X0 e0 k0
  have N0 := Fr.nil n0
  have k1 : To p.tables e below S0 (s₁.setTop (mkF m 2 #[.val (.ref t), .val (.int (1 : Int32))] [(.ref t), (.int (1 : Int32))])) := fun tt hq => k0 tt (by
    show Steps _ _ _ (s₁.setTop (mkF m 0 #[.val (.ref t), .val (.int (1 : Int32))] [])) _
    refine XS.iloadN X0.here hx rfl (hb hby d_jdk_43_method_2_code_0) rfl ?_
    show Steps _ _ _ (s₁.setTop (mkF m 1 #[.val (.ref t), .val (.int (1 : Int32))] [(.int (1 : Int32))])) _
    refine XS.aloadN X0.here hx rfl (hb hby d_jdk_43_method_2_code_1) rfl rfl ?_
    show Steps _ _ _ (s₁.setTop (mkF m 2 #[.val (.ref t), .val (.int (1 : Int32))] [(.ref t), (.int (1 : Int32))])) _
    exact hq)
  obtain ⟨cl2, Ar2, -, S2, M2, -, -⟩ := id P0
  have st2 := fun tt => X0.arraylength hx (by rw [e0]; exact Ar2.1) (State.isArrayOf_alike hZ.alike Ar2.2.1) (g := (mkF m 2 #[.val (.ref t), .val (.int (1 : Int32))] [(.ref t), (.int (1 : Int32))])) rfl rfl (hb hby d_jdk_43_method_2_code_2) tt
  rw [len_of S2 M2] at st2
  have k2 : To p.tables e below S0 (s₁.setTop (mkF m 3 #[.val (.ref t), .val (.int (1 : Int32))] [(.int (4 : Int32)), (.int (1 : Int32))])) := fun tt hq => k1 tt (st2 tt hq)
  obtain ⟨_, T3, L3, X3, ⟨rfl, Nq3, eq3⟩, k3a⟩ := callS' X0 hx hZ (y := (⟨"java/lang/String", "checkIndex", "(II)V"⟩ : MethodName)) hown (hw _ (List.mem_of_getElem? (i := 56) rfl)) (hw _ (List.mem_of_getElem? (i := 57) rfl)) (hw _ (List.mem_of_getElem? (i := 7) rfl)) (hw _ (List.mem_of_getElem? (i := 58) rfl)) (by decide) (backC (W := 0) (rm_chk l Z a0 hw fm (1 : Int32) (4 : Int32) h0 n0 (by omega) S_f hfm O0 (by decide) (by decide)) hZ (hw _ (List.mem_of_getElem? (i := 58) rfl)) (hw _ (List.mem_of_getElem? (i := 7) rfl)) (by decide) (by decide)) e0 (argsL := [(.int (1 : Int32)), (.int (4 : Int32))]) (rest := []) rfl rfl pd_5 rfl (by rw [hml]; rfl) (hb hby d_jdk_43_method_2_code_3) (Nat.le_of_eq rfl) (by decide) (by decide) k2
  have k3 : To p.tables e below S0 (T3.setTop (mkF m 6 #[.val (.ref t), .val (.int (1 : Int32))] [])) := k3a
  have N3 := N0.app Nq3
  have e3 : T3.heap = h0 := eq3
  have k4 : To p.tables e below S0 (T3.setTop (mkF m 8 #[.val (.ref t), .val (.int (1 : Int32))] [(.int (1 : Int32)), (.ref t)])) := fun tt hq => k3 tt (by
    show Steps _ _ _ (T3.setTop (mkF m 6 #[.val (.ref t), .val (.int (1 : Int32))] [])) _
    refine XS.aloadN X3.here hx rfl (hb hby d_jdk_43_method_2_code_6) rfl rfl ?_
    show Steps _ _ _ (T3.setTop (mkF m 7 #[.val (.ref t), .val (.int (1 : Int32))] [(.ref t)])) _
    refine XS.iloadN X3.here hx rfl (hb hby d_jdk_43_method_2_code_7) rfl ?_
    show Steps _ _ _ (T3.setTop (mkF m 8 #[.val (.ref t), .val (.int (1 : Int32))] [(.int (1 : Int32)), (.ref t)])) _
    exact hq)
  obtain ⟨cl5, Ar5, -, S5, -, G5, -⟩ := id P0
  have hi5 := inb_of (j := (1 : Int32)) S5 ⟨by decide, by decide⟩
  have st5 := fun tt => X3.baloadBytes hx (j := (1 : Int32)) (v := (.int c1)) (by rw [e3]; exact Ar5.1) (State.isArrayOf_alike hZ.alike Ar5.2.1) Ar5.2.2 hi5 (G5.at hi5 rfl) (g := (mkF m 8 #[.val (.ref t), .val (.int (1 : Int32))] [(.int (1 : Int32)), (.ref t)])) rfl rfl (hb hby d_jdk_43_method_2_code_8) tt
  have k5 : To p.tables e below S0 (T3.setTop (mkF m 9 #[.val (.ref t), .val (.int (1 : Int32))] [(.int c1)])) := fun tt hq => k4 tt (st5 tt hq)
  have k6 : To p.tables e below S0 (T3.setTop (mkF m 14 #[.val (.ref t), .val (.int (1 : Int32))] [(.int ((c1 &&& (255 : Int32)).toUInt32.toUInt16.toUInt32.toInt32))])) := fun tt hq => k5 tt (by
    show Steps _ _ _ (T3.setTop (mkF m 9 #[.val (.ref t), .val (.int (1 : Int32))] [(.int c1)])) _
    refine XS.sipush X3.here hx rfl (hb hby d_jdk_43_method_2_code_9) ?_
    show Steps _ _ _ (T3.setTop (mkF m 12 #[.val (.ref t), .val (.int (1 : Int32))] [(.int (255 : Int32)), (.int c1)])) _
    refine XS.iand X3.here hx rfl (hb hby d_jdk_43_method_2_code_12) rfl ?_
    show Steps _ _ _ (T3.setTop (mkF m 13 #[.val (.ref t), .val (.int (1 : Int32))] [(.int (c1 &&& (255 : Int32)))])) _
    refine XS.i2c X3.here hx rfl (hb hby d_jdk_43_method_2_code_13) rfl ?_
    show Steps _ _ _ (T3.setTop (mkF m 14 #[.val (.ref t), .val (.int (1 : Int32))] [(.int ((c1 &&& (255 : Int32)).toUInt32.toUInt16.toUInt32.toInt32))])) _
    exact hq)
  have k7 : To p.tables e below S0 (T3.setTop (mkF m 14 #[.val (.ref t), .val (.int (1 : Int32))] [(.int (c1 &&& (255 : Int32)))])) := by have hq := k6; rw [i2c_mask] at hq; exact hq
  have hE := e3
  refine retInt X3 hx hret hlk (by simp) (own_narrowc _) (hb hby d_jdk_43_method_2_code_14) k7 ?_ (by decide) (by decide)
  try rw [hE]
  exact ⟨rfl, N3, rfl⟩
set_option maxRecDepth 65536 in
set_option maxHeartbeats 40000000 in
theorem rm_ca4_1 (l : Launch) (Z : State) (a0 : Array Value) (hw : ∀ d ∈ tables_1, d.before a0 Z = true) (zc : Int32) (fm : Value) (a : Addr) (t : Addr) (kt : ClassId) (c0 : Int32) (c1 : Int32) (c2 : Int32) (c3 : Int32) (r : Int32) (h0 : Heap) (n0 : Nat) (hn0 : n0 ≤ h0.size) (S_c : Sta Z Z.heap "java/lang/String" "COMPACT_STRINGS" "Z" (.int zc)) (hzc : ¬ zc = (0 : Int32)) (S_f : Sta Z Z.heap "jdk/internal/util/Preconditions" "SIOOBE_FORMATTER" "Ljava/util/function/BiFunction;" fm) (hfm : fm.isRef = true) (O0 : Old Z n0 h0) (P0 : Exa Z h0 a "java/lang/String") (P1 : Fld Z h0 a "java/lang/String" "value" "[B" (.ref t)) (P2 : Fld Z h0 a "java/lang/String" "coder" "B" (.int (0 : Int32))) (P3 : Arv Z h0 t kt .byte (4 : Int32) [(.int c0), (.int c1), (.int c2), (.int c3)] (.int 0)) (hr : (c1 &&& (255 : Int32)) = r) :
    Con l Z (⟨"java/lang/String", "charAt", "(I)C"⟩ : MethodName) jdk_42_method_56_code 2 (some .char) [] ({ frames := 3, cells := 0, slots := 0, locals := 40 } : Room) #[(.ref a), (.int (1 : Int32))] h0 (fun v h L => v = some (.int r) ∧ Fr n0 L ∧ h = h0) := by
  refine enter (Ls := #[.val (.ref a), .val (.int (1 : Int32))]) (plainFor_of_name pn_1) (fun m => by exact entry_eq rfl) ?_
  intro p e s m below meth cd_ s₁ S0 hx hby hml hret hlk hnm hown hZ X0 e0 k0
  have N0 := Fr.nil n0
  have k1 : To p.tables e below S0 (s₁.setTop (mkF m 1 #[.val (.ref a), .val (.int (1 : Int32))] [(.ref a)])) := fun tt hq => k0 tt (by
    show Steps _ _ _ (s₁.setTop (mkF m 0 #[.val (.ref a), .val (.int (1 : Int32))] [])) _
    refine XS.aloadN X0.here hx rfl (hb hby d_jdk_42_method_56_code_0) rfl rfl ?_
    show Steps _ _ _ (s₁.setTop (mkF m 1 #[.val (.ref a), .val (.int (1 : Int32))] [(.ref a)])) _
    exact hq)
  obtain ⟨_, T2, L2, X2, ⟨rfl, Nq2, eq2⟩, k2a⟩ := callV' X0 hx hZ (y := (⟨"java/lang/String", "isLatin1", "()Z"⟩ : MethodName)) (z := (⟨"java/lang/String", "isLatin1", "()Z"⟩ : MethodName)) hown (hw _ (List.mem_of_getElem? (i := 47) rfl)) (hw _ (List.mem_of_getElem? (i := 48) rfl)) (notFace_of_selects (args := #[]) (mvT hZ (hw _ (List.mem_of_getElem? (i := 50) rfl)))) (hw _ (List.mem_of_getElem? (i := 50) rfl)) (hw _ (List.mem_of_getElem? (i := 49) rfl)) (by decide) P0 (backC (W := 0) (rm_latin l Z a0 hw zc a h0 n0 (by omega) S_c hzc O0 P2) hZ (hw _ (List.mem_of_getElem? (i := 51) rfl)) (hw _ (List.mem_of_getElem? (i := 7) rfl)) (by decide) (by decide)) e0 (argsL := []) (rest := []) rfl rfl pd_6 rfl (by rw [hml]; rfl) (hb hby d_jdk_42_method_56_code_1) (Nat.le_of_eq rfl) (by decide) (by decide) k1
  have k2 : To p.tables e below S0 (T2.setTop (mkF m 4 #[.val (.ref a), .val (.int (1 : Int32))] [(.int (1 : Int32))])) := k2a
  have N2 := N0.app Nq2
  have e2 : T2.heap = h0 := eq2
  have k3 : To p.tables e below S0 (T2.setTop (mkF m 8 #[.val (.ref a), .val (.int (1 : Int32))] [(.ref a)])) := fun tt hq => k2 tt (by
    show Steps _ _ _ (T2.setTop (mkF m 4 #[.val (.ref a), .val (.int (1 : Int32))] [(.int (1 : Int32))])) _
    refine XS.ifNo X2.here hx rfl (hb hby d_jdk_42_method_56_code_4) rfl ((if0 _ _).trans (feq (by decide)).1) ?_
    show Steps _ _ _ (T2.setTop (mkF m 7 #[.val (.ref a), .val (.int (1 : Int32))] [])) _
    refine XS.aloadN X2.here hx rfl (hb hby d_jdk_42_method_56_code_7) rfl rfl ?_
    show Steps _ _ _ (T2.setTop (mkF m 8 #[.val (.ref a), .val (.int (1 : Int32))] [(.ref a)])) _
    exact hq)
  obtain ⟨T4, X4, e4, st4⟩ := getF X2 hx hZ hown (host := "") (Or.inl (hw _ (List.mem_of_getElem? (i := 32) rfl))) Via.refl e2 P1 (g := (mkF m 8 #[.val (.ref a), .val (.int (1 : Int32))] [(.ref a)])) rfl rfl (hb hby d_jdk_42_method_56_code_8)
  have k4 : To p.tables e below S0 (T4.setTop (mkF m 11 #[.val (.ref a), .val (.int (1 : Int32))] [(.ref t)])) := fun tt hq => k3 tt (st4 tt hq)
  have k5 : To p.tables e below S0 (T4.setTop (mkF m 12 #[.val (.ref a), .val (.int (1 : Int32))] [(.int (1 : Int32)), (.ref t)])) := fun tt hq => k4 tt (by
    show Steps _ _ _ (T4.setTop (mkF m 11 #[.val (.ref a), .val (.int (1 : Int32))] [(.ref t)])) _
    refine XS.iloadN X4.here hx rfl (hb hby d_jdk_42_method_56_code_11) rfl ?_
    show Steps _ _ _ (T4.setTop (mkF m 12 #[.val (.ref a), .val (.int (1 : Int32))] [(.int (1 : Int32)), (.ref t)])) _
    exact hq)
  obtain ⟨_, T6, L6, X6, ⟨rfl, Nq6, eq6⟩, k6a⟩ := callS' X4 hx hZ (y := (⟨"java/lang/StringLatin1", "charAt", "([BI)C"⟩ : MethodName)) hown (hw _ (List.mem_of_getElem? (i := 52) rfl)) (hw _ (List.mem_of_getElem? (i := 53) rfl)) (hw _ (List.mem_of_getElem? (i := 54) rfl)) (hw _ (List.mem_of_getElem? (i := 55) rfl)) (by decide) (backC (W := 0) (rm_lca4_1 l Z a0 hw fm t kt c0 c1 c2 c3 h0 n0 (by omega) S_f hfm O0 P3) hZ (hw _ (List.mem_of_getElem? (i := 55) rfl)) (hw _ (List.mem_of_getElem? (i := 54) rfl)) (by decide) (by decide)) e4 (argsL := [(.ref t), (.int (1 : Int32))]) (rest := []) rfl rfl pd_7 rfl (by rw [hml]; rfl) (hb hby d_jdk_42_method_56_code_12) (Nat.le_of_eq rfl) (by decide) (by decide) k5
  have k6 : To p.tables e below S0 (T6.setTop (mkF m 15 #[.val (.ref a), .val (.int (1 : Int32))] [(.int (c1 &&& (255 : Int32)))])) := k6a
  have N6 := N2.app Nq6
  have e6 : T6.heap = h0 := eq6
  have hE := e6
  refine retInt X6 hx hret hlk (by simp) (own_narrowc _) (hb hby d_jdk_42_method_56_code_15) k6 ?_ (by decide) (by decide)
  try rw [hE]
  exact ⟨by rw [hr], N6, rfl⟩
set_option maxRecDepth 65536 in
set_option maxHeartbeats 40000000 in
theorem rm_lca4_2 (l : Launch) (Z : State) (a0 : Array Value) (hw : ∀ d ∈ tables_1, d.before a0 Z = true) (fm : Value) (t : Addr) (kt : ClassId) (c0 : Int32) (c1 : Int32) (c2 : Int32) (c3 : Int32) (h0 : Heap) (n0 : Nat) (hn0 : n0 ≤ h0.size) (S_f : Sta Z Z.heap "jdk/internal/util/Preconditions" "SIOOBE_FORMATTER" "Ljava/util/function/BiFunction;" fm) (hfm : fm.isRef = true) (O0 : Old Z n0 h0) (P0 : Arv Z h0 t kt .byte (4 : Int32) [(.int c0), (.int c1), (.int c2), (.int c3)] (.int 0)) :
    Con l Z (⟨"java/lang/StringLatin1", "charAt", "([BI)C"⟩ : MethodName) jdk_43_method_2_code 2 (some .char) [] ({ frames := 2, cells := 0, slots := 0, locals := 27 } : Room) #[(.ref t), (.int (2 : Int32))] h0 (fun v h L => v = some (.int (c2 &&& (255 : Int32))) ∧ Fr n0 L ∧ h = h0) := by
  refine enter (Ls := #[.val (.ref t), .val (.int (2 : Int32))]) (plainFor_of_name pn_3) (fun m => by exact entry_eq rfl) ?_
  intro p e s m below meth cd_ s₁ S0 hx hby hml hret hlk hnm hown hZ X0 e0 k0
  have N0 := Fr.nil n0
  have k1 : To p.tables e below S0 (s₁.setTop (mkF m 2 #[.val (.ref t), .val (.int (2 : Int32))] [(.ref t), (.int (2 : Int32))])) := fun tt hq => k0 tt (by
    show Steps _ _ _ (s₁.setTop (mkF m 0 #[.val (.ref t), .val (.int (2 : Int32))] [])) _
    refine XS.iloadN X0.here hx rfl (hb hby d_jdk_43_method_2_code_0) rfl ?_
    show Steps _ _ _ (s₁.setTop (mkF m 1 #[.val (.ref t), .val (.int (2 : Int32))] [(.int (2 : Int32))])) _
    refine XS.aloadN X0.here hx rfl (hb hby d_jdk_43_method_2_code_1) rfl rfl ?_
    show Steps _ _ _ (s₁.setTop (mkF m 2 #[.val (.ref t), .val (.int (2 : Int32))] [(.ref t), (.int (2 : Int32))])) _
    exact hq)
  obtain ⟨cl2, Ar2, -, S2, M2, -, -⟩ := id P0
  have st2 := fun tt => X0.arraylength hx (by rw [e0]; exact Ar2.1) (State.isArrayOf_alike hZ.alike Ar2.2.1) (g := (mkF m 2 #[.val (.ref t), .val (.int (2 : Int32))] [(.ref t), (.int (2 : Int32))])) rfl rfl (hb hby d_jdk_43_method_2_code_2) tt
  rw [len_of S2 M2] at st2
  have k2 : To p.tables e below S0 (s₁.setTop (mkF m 3 #[.val (.ref t), .val (.int (2 : Int32))] [(.int (4 : Int32)), (.int (2 : Int32))])) := fun tt hq => k1 tt (st2 tt hq)
  obtain ⟨_, T3, L3, X3, ⟨rfl, Nq3, eq3⟩, k3a⟩ := callS' X0 hx hZ (y := (⟨"java/lang/String", "checkIndex", "(II)V"⟩ : MethodName)) hown (hw _ (List.mem_of_getElem? (i := 56) rfl)) (hw _ (List.mem_of_getElem? (i := 57) rfl)) (hw _ (List.mem_of_getElem? (i := 7) rfl)) (hw _ (List.mem_of_getElem? (i := 58) rfl)) (by decide) (backC (W := 0) (rm_chk l Z a0 hw fm (2 : Int32) (4 : Int32) h0 n0 (by omega) S_f hfm O0 (by decide) (by decide)) hZ (hw _ (List.mem_of_getElem? (i := 58) rfl)) (hw _ (List.mem_of_getElem? (i := 7) rfl)) (by decide) (by decide)) e0 (argsL := [(.int (2 : Int32)), (.int (4 : Int32))]) (rest := []) rfl rfl pd_5 rfl (by rw [hml]; rfl) (hb hby d_jdk_43_method_2_code_3) (Nat.le_of_eq rfl) (by decide) (by decide) k2
  have k3 : To p.tables e below S0 (T3.setTop (mkF m 6 #[.val (.ref t), .val (.int (2 : Int32))] [])) := k3a
  have N3 := N0.app Nq3
  have e3 : T3.heap = h0 := eq3
  have k4 : To p.tables e below S0 (T3.setTop (mkF m 8 #[.val (.ref t), .val (.int (2 : Int32))] [(.int (2 : Int32)), (.ref t)])) := fun tt hq => k3 tt (by
    show Steps _ _ _ (T3.setTop (mkF m 6 #[.val (.ref t), .val (.int (2 : Int32))] [])) _
    refine XS.aloadN X3.here hx rfl (hb hby d_jdk_43_method_2_code_6) rfl rfl ?_
    show Steps _ _ _ (T3.setTop (mkF m 7 #[.val (.ref t), .val (.int (2 : Int32))] [(.ref t)])) _
    refine XS.iloadN X3.here hx rfl (hb hby d_jdk_43_method_2_code_7) rfl ?_
    show Steps _ _ _ (T3.setTop (mkF m 8 #[.val (.ref t), .val (.int (2 : Int32))] [(.int (2 : Int32)), (.ref t)])) _
    exact hq)
  obtain ⟨cl5, Ar5, -, S5, -, G5, -⟩ := id P0
  have hi5 := inb_of (j := (2 : Int32)) S5 ⟨by decide, by decide⟩
  have st5 := fun tt => X3.baloadBytes hx (j := (2 : Int32)) (v := (.int c2)) (by rw [e3]; exact Ar5.1) (State.isArrayOf_alike hZ.alike Ar5.2.1) Ar5.2.2 hi5 (G5.at hi5 rfl) (g := (mkF m 8 #[.val (.ref t), .val (.int (2 : Int32))] [(.int (2 : Int32)), (.ref t)])) rfl rfl (hb hby d_jdk_43_method_2_code_8) tt
  have k5 : To p.tables e below S0 (T3.setTop (mkF m 9 #[.val (.ref t), .val (.int (2 : Int32))] [(.int c2)])) := fun tt hq => k4 tt (st5 tt hq)
  have k6 : To p.tables e below S0 (T3.setTop (mkF m 14 #[.val (.ref t), .val (.int (2 : Int32))] [(.int ((c2 &&& (255 : Int32)).toUInt32.toUInt16.toUInt32.toInt32))])) := fun tt hq => k5 tt (by
    show Steps _ _ _ (T3.setTop (mkF m 9 #[.val (.ref t), .val (.int (2 : Int32))] [(.int c2)])) _
    refine XS.sipush X3.here hx rfl (hb hby d_jdk_43_method_2_code_9) ?_
    show Steps _ _ _ (T3.setTop (mkF m 12 #[.val (.ref t), .val (.int (2 : Int32))] [(.int (255 : Int32)), (.int c2)])) _
    refine XS.iand X3.here hx rfl (hb hby d_jdk_43_method_2_code_12) rfl ?_
    show Steps _ _ _ (T3.setTop (mkF m 13 #[.val (.ref t), .val (.int (2 : Int32))] [(.int (c2 &&& (255 : Int32)))])) _
    refine XS.i2c X3.here hx rfl (hb hby d_jdk_43_method_2_code_13) rfl ?_
    show Steps _ _ _ (T3.setTop (mkF m 14 #[.val (.ref t), .val (.int (2 : Int32))] [(.int ((c2 &&& (255 : Int32)).toUInt32.toUInt16.toUInt32.toInt32))])) _
    exact hq)
  have k7 : To p.tables e below S0 (T3.setTop (mkF m 14 #[.val (.ref t), .val (.int (2 : Int32))] [(.int (c2 &&& (255 : Int32)))])) := by have hq := k6; rw [i2c_mask] at hq; exact hq
  have hE := e3
  refine retInt X3 hx hret hlk (by simp) (own_narrowc _) (hb hby d_jdk_43_method_2_code_14) k7 ?_ (by decide) (by decide)
  try rw [hE]
  exact ⟨rfl, N3, rfl⟩
set_option maxRecDepth 65536 in
set_option maxHeartbeats 40000000 in
theorem rm_ca4_2 (l : Launch) (Z : State) (a0 : Array Value) (hw : ∀ d ∈ tables_1, d.before a0 Z = true) (zc : Int32) (fm : Value) (a : Addr) (t : Addr) (kt : ClassId) (c0 : Int32) (c1 : Int32) (c2 : Int32) (c3 : Int32) (r : Int32) (h0 : Heap) (n0 : Nat) (hn0 : n0 ≤ h0.size) (S_c : Sta Z Z.heap "java/lang/String" "COMPACT_STRINGS" "Z" (.int zc)) (hzc : ¬ zc = (0 : Int32)) (S_f : Sta Z Z.heap "jdk/internal/util/Preconditions" "SIOOBE_FORMATTER" "Ljava/util/function/BiFunction;" fm) (hfm : fm.isRef = true) (O0 : Old Z n0 h0) (P0 : Exa Z h0 a "java/lang/String") (P1 : Fld Z h0 a "java/lang/String" "value" "[B" (.ref t)) (P2 : Fld Z h0 a "java/lang/String" "coder" "B" (.int (0 : Int32))) (P3 : Arv Z h0 t kt .byte (4 : Int32) [(.int c0), (.int c1), (.int c2), (.int c3)] (.int 0)) (hr : (c2 &&& (255 : Int32)) = r) :
    Con l Z (⟨"java/lang/String", "charAt", "(I)C"⟩ : MethodName) jdk_42_method_56_code 2 (some .char) [] ({ frames := 3, cells := 0, slots := 0, locals := 40 } : Room) #[(.ref a), (.int (2 : Int32))] h0 (fun v h L => v = some (.int r) ∧ Fr n0 L ∧ h = h0) := by
  refine enter (Ls := #[.val (.ref a), .val (.int (2 : Int32))]) (plainFor_of_name pn_1) (fun m => by exact entry_eq rfl) ?_
  intro p e s m below meth cd_ s₁ S0 hx hby hml hret hlk hnm hown hZ X0 e0 k0
  have N0 := Fr.nil n0
  have k1 : To p.tables e below S0 (s₁.setTop (mkF m 1 #[.val (.ref a), .val (.int (2 : Int32))] [(.ref a)])) := fun tt hq => k0 tt (by
    show Steps _ _ _ (s₁.setTop (mkF m 0 #[.val (.ref a), .val (.int (2 : Int32))] [])) _
    refine XS.aloadN X0.here hx rfl (hb hby d_jdk_42_method_56_code_0) rfl rfl ?_
    show Steps _ _ _ (s₁.setTop (mkF m 1 #[.val (.ref a), .val (.int (2 : Int32))] [(.ref a)])) _
    exact hq)
  obtain ⟨_, T2, L2, X2, ⟨rfl, Nq2, eq2⟩, k2a⟩ := callV' X0 hx hZ (y := (⟨"java/lang/String", "isLatin1", "()Z"⟩ : MethodName)) (z := (⟨"java/lang/String", "isLatin1", "()Z"⟩ : MethodName)) hown (hw _ (List.mem_of_getElem? (i := 47) rfl)) (hw _ (List.mem_of_getElem? (i := 48) rfl)) (notFace_of_selects (args := #[]) (mvT hZ (hw _ (List.mem_of_getElem? (i := 50) rfl)))) (hw _ (List.mem_of_getElem? (i := 50) rfl)) (hw _ (List.mem_of_getElem? (i := 49) rfl)) (by decide) P0 (backC (W := 0) (rm_latin l Z a0 hw zc a h0 n0 (by omega) S_c hzc O0 P2) hZ (hw _ (List.mem_of_getElem? (i := 51) rfl)) (hw _ (List.mem_of_getElem? (i := 7) rfl)) (by decide) (by decide)) e0 (argsL := []) (rest := []) rfl rfl pd_6 rfl (by rw [hml]; rfl) (hb hby d_jdk_42_method_56_code_1) (Nat.le_of_eq rfl) (by decide) (by decide) k1
  have k2 : To p.tables e below S0 (T2.setTop (mkF m 4 #[.val (.ref a), .val (.int (2 : Int32))] [(.int (1 : Int32))])) := k2a
  have N2 := N0.app Nq2
  have e2 : T2.heap = h0 := eq2
  have k3 : To p.tables e below S0 (T2.setTop (mkF m 8 #[.val (.ref a), .val (.int (2 : Int32))] [(.ref a)])) := fun tt hq => k2 tt (by
    show Steps _ _ _ (T2.setTop (mkF m 4 #[.val (.ref a), .val (.int (2 : Int32))] [(.int (1 : Int32))])) _
    refine XS.ifNo X2.here hx rfl (hb hby d_jdk_42_method_56_code_4) rfl ((if0 _ _).trans (feq (by decide)).1) ?_
    show Steps _ _ _ (T2.setTop (mkF m 7 #[.val (.ref a), .val (.int (2 : Int32))] [])) _
    refine XS.aloadN X2.here hx rfl (hb hby d_jdk_42_method_56_code_7) rfl rfl ?_
    show Steps _ _ _ (T2.setTop (mkF m 8 #[.val (.ref a), .val (.int (2 : Int32))] [(.ref a)])) _
    exact hq)
  obtain ⟨T4, X4, e4, st4⟩ := getF X2 hx hZ hown (host := "") (Or.inl (hw _ (List.mem_of_getElem? (i := 32) rfl))) Via.refl e2 P1 (g := (mkF m 8 #[.val (.ref a), .val (.int (2 : Int32))] [(.ref a)])) rfl rfl (hb hby d_jdk_42_method_56_code_8)
  have k4 : To p.tables e below S0 (T4.setTop (mkF m 11 #[.val (.ref a), .val (.int (2 : Int32))] [(.ref t)])) := fun tt hq => k3 tt (st4 tt hq)
  have k5 : To p.tables e below S0 (T4.setTop (mkF m 12 #[.val (.ref a), .val (.int (2 : Int32))] [(.int (2 : Int32)), (.ref t)])) := fun tt hq => k4 tt (by
    show Steps _ _ _ (T4.setTop (mkF m 11 #[.val (.ref a), .val (.int (2 : Int32))] [(.ref t)])) _
    refine XS.iloadN X4.here hx rfl (hb hby d_jdk_42_method_56_code_11) rfl ?_
    show Steps _ _ _ (T4.setTop (mkF m 12 #[.val (.ref a), .val (.int (2 : Int32))] [(.int (2 : Int32)), (.ref t)])) _
    exact hq)
  obtain ⟨_, T6, L6, X6, ⟨rfl, Nq6, eq6⟩, k6a⟩ := callS' X4 hx hZ (y := (⟨"java/lang/StringLatin1", "charAt", "([BI)C"⟩ : MethodName)) hown (hw _ (List.mem_of_getElem? (i := 52) rfl)) (hw _ (List.mem_of_getElem? (i := 53) rfl)) (hw _ (List.mem_of_getElem? (i := 54) rfl)) (hw _ (List.mem_of_getElem? (i := 55) rfl)) (by decide) (backC (W := 0) (rm_lca4_2 l Z a0 hw fm t kt c0 c1 c2 c3 h0 n0 (by omega) S_f hfm O0 P3) hZ (hw _ (List.mem_of_getElem? (i := 55) rfl)) (hw _ (List.mem_of_getElem? (i := 54) rfl)) (by decide) (by decide)) e4 (argsL := [(.ref t), (.int (2 : Int32))]) (rest := []) rfl rfl pd_7 rfl (by rw [hml]; rfl) (hb hby d_jdk_42_method_56_code_12) (Nat.le_of_eq rfl) (by decide) (by decide) k5
  have k6 : To p.tables e below S0 (T6.setTop (mkF m 15 #[.val (.ref a), .val (.int (2 : Int32))] [(.int (c2 &&& (255 : Int32)))])) := k6a
  have N6 := N2.app Nq6
  have e6 : T6.heap = h0 := eq6
  have hE := e6
  refine retInt X6 hx hret hlk (by simp) (own_narrowc _) (hb hby d_jdk_42_method_56_code_15) k6 ?_ (by decide) (by decide)
  try rw [hE]
  exact ⟨by rw [hr], N6, rfl⟩
set_option maxRecDepth 65536 in
set_option maxHeartbeats 40000000 in
theorem rm_lca4_3 (l : Launch) (Z : State) (a0 : Array Value) (hw : ∀ d ∈ tables_1, d.before a0 Z = true) (fm : Value) (t : Addr) (kt : ClassId) (c0 : Int32) (c1 : Int32) (c2 : Int32) (c3 : Int32) (h0 : Heap) (n0 : Nat) (hn0 : n0 ≤ h0.size) (S_f : Sta Z Z.heap "jdk/internal/util/Preconditions" "SIOOBE_FORMATTER" "Ljava/util/function/BiFunction;" fm) (hfm : fm.isRef = true) (O0 : Old Z n0 h0) (P0 : Arv Z h0 t kt .byte (4 : Int32) [(.int c0), (.int c1), (.int c2), (.int c3)] (.int 0)) :
    Con l Z (⟨"java/lang/StringLatin1", "charAt", "([BI)C"⟩ : MethodName) jdk_43_method_2_code 2 (some .char) [] ({ frames := 2, cells := 0, slots := 0, locals := 27 } : Room) #[(.ref t), (.int (3 : Int32))] h0 (fun v h L => v = some (.int (c3 &&& (255 : Int32))) ∧ Fr n0 L ∧ h = h0) := by
  refine enter (Ls := #[.val (.ref t), .val (.int (3 : Int32))]) (plainFor_of_name pn_3) (fun m => by exact entry_eq rfl) ?_
  intro p e s m below meth cd_ s₁ S0 hx hby hml hret hlk hnm hown hZ X0 e0 k0
  have N0 := Fr.nil n0
  have k1 : To p.tables e below S0 (s₁.setTop (mkF m 2 #[.val (.ref t), .val (.int (3 : Int32))] [(.ref t), (.int (3 : Int32))])) := fun tt hq => k0 tt (by
    show Steps _ _ _ (s₁.setTop (mkF m 0 #[.val (.ref t), .val (.int (3 : Int32))] [])) _
    refine XS.iloadN X0.here hx rfl (hb hby d_jdk_43_method_2_code_0) rfl ?_
    show Steps _ _ _ (s₁.setTop (mkF m 1 #[.val (.ref t), .val (.int (3 : Int32))] [(.int (3 : Int32))])) _
    refine XS.aloadN X0.here hx rfl (hb hby d_jdk_43_method_2_code_1) rfl rfl ?_
    show Steps _ _ _ (s₁.setTop (mkF m 2 #[.val (.ref t), .val (.int (3 : Int32))] [(.ref t), (.int (3 : Int32))])) _
    exact hq)
  obtain ⟨cl2, Ar2, -, S2, M2, -, -⟩ := id P0
  have st2 := fun tt => X0.arraylength hx (by rw [e0]; exact Ar2.1) (State.isArrayOf_alike hZ.alike Ar2.2.1) (g := (mkF m 2 #[.val (.ref t), .val (.int (3 : Int32))] [(.ref t), (.int (3 : Int32))])) rfl rfl (hb hby d_jdk_43_method_2_code_2) tt
  rw [len_of S2 M2] at st2
  have k2 : To p.tables e below S0 (s₁.setTop (mkF m 3 #[.val (.ref t), .val (.int (3 : Int32))] [(.int (4 : Int32)), (.int (3 : Int32))])) := fun tt hq => k1 tt (st2 tt hq)
  obtain ⟨_, T3, L3, X3, ⟨rfl, Nq3, eq3⟩, k3a⟩ := callS' X0 hx hZ (y := (⟨"java/lang/String", "checkIndex", "(II)V"⟩ : MethodName)) hown (hw _ (List.mem_of_getElem? (i := 56) rfl)) (hw _ (List.mem_of_getElem? (i := 57) rfl)) (hw _ (List.mem_of_getElem? (i := 7) rfl)) (hw _ (List.mem_of_getElem? (i := 58) rfl)) (by decide) (backC (W := 0) (rm_chk l Z a0 hw fm (3 : Int32) (4 : Int32) h0 n0 (by omega) S_f hfm O0 (by decide) (by decide)) hZ (hw _ (List.mem_of_getElem? (i := 58) rfl)) (hw _ (List.mem_of_getElem? (i := 7) rfl)) (by decide) (by decide)) e0 (argsL := [(.int (3 : Int32)), (.int (4 : Int32))]) (rest := []) rfl rfl pd_5 rfl (by rw [hml]; rfl) (hb hby d_jdk_43_method_2_code_3) (Nat.le_of_eq rfl) (by decide) (by decide) k2
  have k3 : To p.tables e below S0 (T3.setTop (mkF m 6 #[.val (.ref t), .val (.int (3 : Int32))] [])) := k3a
  have N3 := N0.app Nq3
  have e3 : T3.heap = h0 := eq3
  have k4 : To p.tables e below S0 (T3.setTop (mkF m 8 #[.val (.ref t), .val (.int (3 : Int32))] [(.int (3 : Int32)), (.ref t)])) := fun tt hq => k3 tt (by
    show Steps _ _ _ (T3.setTop (mkF m 6 #[.val (.ref t), .val (.int (3 : Int32))] [])) _
    refine XS.aloadN X3.here hx rfl (hb hby d_jdk_43_method_2_code_6) rfl rfl ?_
    show Steps _ _ _ (T3.setTop (mkF m 7 #[.val (.ref t), .val (.int (3 : Int32))] [(.ref t)])) _
    refine XS.iloadN X3.here hx rfl (hb hby d_jdk_43_method_2_code_7) rfl ?_
    show Steps _ _ _ (T3.setTop (mkF m 8 #[.val (.ref t), .val (.int (3 : Int32))] [(.int (3 : Int32)), (.ref t)])) _
    exact hq)
  obtain ⟨cl5, Ar5, -, S5, -, G5, -⟩ := id P0
  have hi5 := inb_of (j := (3 : Int32)) S5 ⟨by decide, by decide⟩
  have st5 := fun tt => X3.baloadBytes hx (j := (3 : Int32)) (v := (.int c3)) (by rw [e3]; exact Ar5.1) (State.isArrayOf_alike hZ.alike Ar5.2.1) Ar5.2.2 hi5 (G5.at hi5 rfl) (g := (mkF m 8 #[.val (.ref t), .val (.int (3 : Int32))] [(.int (3 : Int32)), (.ref t)])) rfl rfl (hb hby d_jdk_43_method_2_code_8) tt
  have k5 : To p.tables e below S0 (T3.setTop (mkF m 9 #[.val (.ref t), .val (.int (3 : Int32))] [(.int c3)])) := fun tt hq => k4 tt (st5 tt hq)
  have k6 : To p.tables e below S0 (T3.setTop (mkF m 14 #[.val (.ref t), .val (.int (3 : Int32))] [(.int ((c3 &&& (255 : Int32)).toUInt32.toUInt16.toUInt32.toInt32))])) := fun tt hq => k5 tt (by
    show Steps _ _ _ (T3.setTop (mkF m 9 #[.val (.ref t), .val (.int (3 : Int32))] [(.int c3)])) _
    refine XS.sipush X3.here hx rfl (hb hby d_jdk_43_method_2_code_9) ?_
    show Steps _ _ _ (T3.setTop (mkF m 12 #[.val (.ref t), .val (.int (3 : Int32))] [(.int (255 : Int32)), (.int c3)])) _
    refine XS.iand X3.here hx rfl (hb hby d_jdk_43_method_2_code_12) rfl ?_
    show Steps _ _ _ (T3.setTop (mkF m 13 #[.val (.ref t), .val (.int (3 : Int32))] [(.int (c3 &&& (255 : Int32)))])) _
    refine XS.i2c X3.here hx rfl (hb hby d_jdk_43_method_2_code_13) rfl ?_
    show Steps _ _ _ (T3.setTop (mkF m 14 #[.val (.ref t), .val (.int (3 : Int32))] [(.int ((c3 &&& (255 : Int32)).toUInt32.toUInt16.toUInt32.toInt32))])) _
    exact hq)
  have k7 : To p.tables e below S0 (T3.setTop (mkF m 14 #[.val (.ref t), .val (.int (3 : Int32))] [(.int (c3 &&& (255 : Int32)))])) := by have hq := k6; rw [i2c_mask] at hq; exact hq
  have hE := e3
  refine retInt X3 hx hret hlk (by simp) (own_narrowc _) (hb hby d_jdk_43_method_2_code_14) k7 ?_ (by decide) (by decide)
  try rw [hE]
  exact ⟨rfl, N3, rfl⟩
set_option maxRecDepth 65536 in
set_option maxHeartbeats 40000000 in
theorem rm_ca4_3 (l : Launch) (Z : State) (a0 : Array Value) (hw : ∀ d ∈ tables_1, d.before a0 Z = true) (zc : Int32) (fm : Value) (a : Addr) (t : Addr) (kt : ClassId) (c0 : Int32) (c1 : Int32) (c2 : Int32) (c3 : Int32) (r : Int32) (h0 : Heap) (n0 : Nat) (hn0 : n0 ≤ h0.size) (S_c : Sta Z Z.heap "java/lang/String" "COMPACT_STRINGS" "Z" (.int zc)) (hzc : ¬ zc = (0 : Int32)) (S_f : Sta Z Z.heap "jdk/internal/util/Preconditions" "SIOOBE_FORMATTER" "Ljava/util/function/BiFunction;" fm) (hfm : fm.isRef = true) (O0 : Old Z n0 h0) (P0 : Exa Z h0 a "java/lang/String") (P1 : Fld Z h0 a "java/lang/String" "value" "[B" (.ref t)) (P2 : Fld Z h0 a "java/lang/String" "coder" "B" (.int (0 : Int32))) (P3 : Arv Z h0 t kt .byte (4 : Int32) [(.int c0), (.int c1), (.int c2), (.int c3)] (.int 0)) (hr : (c3 &&& (255 : Int32)) = r) :
    Con l Z (⟨"java/lang/String", "charAt", "(I)C"⟩ : MethodName) jdk_42_method_56_code 2 (some .char) [] ({ frames := 3, cells := 0, slots := 0, locals := 40 } : Room) #[(.ref a), (.int (3 : Int32))] h0 (fun v h L => v = some (.int r) ∧ Fr n0 L ∧ h = h0) := by
  refine enter (Ls := #[.val (.ref a), .val (.int (3 : Int32))]) (plainFor_of_name pn_1) (fun m => by exact entry_eq rfl) ?_
  intro p e s m below meth cd_ s₁ S0 hx hby hml hret hlk hnm hown hZ X0 e0 k0
  have N0 := Fr.nil n0
  have k1 : To p.tables e below S0 (s₁.setTop (mkF m 1 #[.val (.ref a), .val (.int (3 : Int32))] [(.ref a)])) := fun tt hq => k0 tt (by
    show Steps _ _ _ (s₁.setTop (mkF m 0 #[.val (.ref a), .val (.int (3 : Int32))] [])) _
    refine XS.aloadN X0.here hx rfl (hb hby d_jdk_42_method_56_code_0) rfl rfl ?_
    show Steps _ _ _ (s₁.setTop (mkF m 1 #[.val (.ref a), .val (.int (3 : Int32))] [(.ref a)])) _
    exact hq)
  obtain ⟨_, T2, L2, X2, ⟨rfl, Nq2, eq2⟩, k2a⟩ := callV' X0 hx hZ (y := (⟨"java/lang/String", "isLatin1", "()Z"⟩ : MethodName)) (z := (⟨"java/lang/String", "isLatin1", "()Z"⟩ : MethodName)) hown (hw _ (List.mem_of_getElem? (i := 47) rfl)) (hw _ (List.mem_of_getElem? (i := 48) rfl)) (notFace_of_selects (args := #[]) (mvT hZ (hw _ (List.mem_of_getElem? (i := 50) rfl)))) (hw _ (List.mem_of_getElem? (i := 50) rfl)) (hw _ (List.mem_of_getElem? (i := 49) rfl)) (by decide) P0 (backC (W := 0) (rm_latin l Z a0 hw zc a h0 n0 (by omega) S_c hzc O0 P2) hZ (hw _ (List.mem_of_getElem? (i := 51) rfl)) (hw _ (List.mem_of_getElem? (i := 7) rfl)) (by decide) (by decide)) e0 (argsL := []) (rest := []) rfl rfl pd_6 rfl (by rw [hml]; rfl) (hb hby d_jdk_42_method_56_code_1) (Nat.le_of_eq rfl) (by decide) (by decide) k1
  have k2 : To p.tables e below S0 (T2.setTop (mkF m 4 #[.val (.ref a), .val (.int (3 : Int32))] [(.int (1 : Int32))])) := k2a
  have N2 := N0.app Nq2
  have e2 : T2.heap = h0 := eq2
  have k3 : To p.tables e below S0 (T2.setTop (mkF m 8 #[.val (.ref a), .val (.int (3 : Int32))] [(.ref a)])) := fun tt hq => k2 tt (by
    show Steps _ _ _ (T2.setTop (mkF m 4 #[.val (.ref a), .val (.int (3 : Int32))] [(.int (1 : Int32))])) _
    refine XS.ifNo X2.here hx rfl (hb hby d_jdk_42_method_56_code_4) rfl ((if0 _ _).trans (feq (by decide)).1) ?_
    show Steps _ _ _ (T2.setTop (mkF m 7 #[.val (.ref a), .val (.int (3 : Int32))] [])) _
    refine XS.aloadN X2.here hx rfl (hb hby d_jdk_42_method_56_code_7) rfl rfl ?_
    show Steps _ _ _ (T2.setTop (mkF m 8 #[.val (.ref a), .val (.int (3 : Int32))] [(.ref a)])) _
    exact hq)
  obtain ⟨T4, X4, e4, st4⟩ := getF X2 hx hZ hown (host := "") (Or.inl (hw _ (List.mem_of_getElem? (i := 32) rfl))) Via.refl e2 P1 (g := (mkF m 8 #[.val (.ref a), .val (.int (3 : Int32))] [(.ref a)])) rfl rfl (hb hby d_jdk_42_method_56_code_8)
  have k4 : To p.tables e below S0 (T4.setTop (mkF m 11 #[.val (.ref a), .val (.int (3 : Int32))] [(.ref t)])) := fun tt hq => k3 tt (st4 tt hq)
  have k5 : To p.tables e below S0 (T4.setTop (mkF m 12 #[.val (.ref a), .val (.int (3 : Int32))] [(.int (3 : Int32)), (.ref t)])) := fun tt hq => k4 tt (by
    show Steps _ _ _ (T4.setTop (mkF m 11 #[.val (.ref a), .val (.int (3 : Int32))] [(.ref t)])) _
    refine XS.iloadN X4.here hx rfl (hb hby d_jdk_42_method_56_code_11) rfl ?_
    show Steps _ _ _ (T4.setTop (mkF m 12 #[.val (.ref a), .val (.int (3 : Int32))] [(.int (3 : Int32)), (.ref t)])) _
    exact hq)
  obtain ⟨_, T6, L6, X6, ⟨rfl, Nq6, eq6⟩, k6a⟩ := callS' X4 hx hZ (y := (⟨"java/lang/StringLatin1", "charAt", "([BI)C"⟩ : MethodName)) hown (hw _ (List.mem_of_getElem? (i := 52) rfl)) (hw _ (List.mem_of_getElem? (i := 53) rfl)) (hw _ (List.mem_of_getElem? (i := 54) rfl)) (hw _ (List.mem_of_getElem? (i := 55) rfl)) (by decide) (backC (W := 0) (rm_lca4_3 l Z a0 hw fm t kt c0 c1 c2 c3 h0 n0 (by omega) S_f hfm O0 P3) hZ (hw _ (List.mem_of_getElem? (i := 55) rfl)) (hw _ (List.mem_of_getElem? (i := 54) rfl)) (by decide) (by decide)) e4 (argsL := [(.ref t), (.int (3 : Int32))]) (rest := []) rfl rfl pd_7 rfl (by rw [hml]; rfl) (hb hby d_jdk_42_method_56_code_12) (Nat.le_of_eq rfl) (by decide) (by decide) k5
  have k6 : To p.tables e below S0 (T6.setTop (mkF m 15 #[.val (.ref a), .val (.int (3 : Int32))] [(.int (c3 &&& (255 : Int32)))])) := k6a
  have N6 := N2.app Nq6
  have e6 : T6.heap = h0 := eq6
  have hE := e6
  refine retInt X6 hx hret hlk (by simp) (own_narrowc _) (hb hby d_jdk_42_method_56_code_15) k6 ?_ (by decide) (by decide)
  try rw [hE]
  exact ⟨by rw [hr], N6, rfl⟩
theorem d_method_3_code_0 : decode method_3_code 0 = .ok (.iload_n 0, 1) := by decide +kernel
theorem d_method_3_code_1 : decode method_3_code 1 = .ok (.sipush 256, 3) := by decide +kernel
theorem d_method_3_code_4 : decode method_3_code 4 = .ok (.iand, 1) := by decide +kernel
theorem d_method_3_code_5 : decode method_3_code 5 = .ok (.ifCond .eq 8, 3) := by decide +kernel
theorem d_method_3_code_8 : decode method_3_code 8 = .ok (.bipush 48, 2) := by decide +kernel
theorem d_method_3_code_10 : decode method_3_code 10 = .ok (.goto 9, 3) := by decide +kernel
theorem d_method_3_code_13 : decode method_3_code 13 = .ok (.iload_n 0, 1) := by decide +kernel
theorem d_method_3_code_14 : decode method_3_code 14 = .ok (.sipush 255, 3) := by decide +kernel
theorem d_method_3_code_17 : decode method_3_code 17 = .ok (.iand, 1) := by decide +kernel
theorem d_method_3_code_18 : decode method_3_code 18 = .ok (.i2c, 1) := by decide +kernel
theorem d_method_3_code_19 : decode method_3_code 19 = .ok (.ireturn, 1) := by decide +kernel
theorem pn_4 : plainName "com/example/apportion/apportion/input/DecimalsFirstWholeDigitPinLaw" = true := by first | (simp [plainName, overriddenIn]; done) | decide +kernel
set_option maxRecDepth 65536 in
set_option maxHeartbeats 40000000 in
theorem rm_ch (l : Launch) (Z : State) (a0 : Array Value) (hw : ∀ d ∈ tables_1, d.before a0 Z = true) (a : Int32) (h0 : Heap) (n0 : Nat) (hn0 : n0 ≤ h0.size)  :
    Con l Z (⟨"com/example/apportion/apportion/input/DecimalsFirstWholeDigitPinLaw", "ch", "(I)C"⟩ : MethodName) method_3_code 1 (some .char) [] ({ frames := 0, cells := 0, slots := 0, locals := 0 } : Room) #[(.int a)] h0 (fun v h L => ∃ r : Int32, v = some (.int r) ∧ Fr n0 L ∧ h = h0 ∧ ¬ r < (0 : Int32) ∧ ¬ (255 : Int32) < r) := by
  refine enter (Ls := #[.val (.int a)]) (plainFor_of_name pn_4) (fun m => by exact entry_eq rfl) ?_
  intro p e s m below meth cd_ s₁ S0 hx hby hml hret hlk hnm hown hZ X0 e0 k0
  have N0 := Fr.nil n0
  have k1 : To p.tables e below S0 (s₁.setTop (mkF m 5 #[.val (.int a)] [(.int (a &&& (256 : Int32)))])) := fun tt hq => k0 tt (by
    show Steps _ _ _ (s₁.setTop (mkF m 0 #[.val (.int a)] [])) _
    refine XS.iloadN X0.here hx rfl (hb hby d_method_3_code_0) rfl ?_
    show Steps _ _ _ (s₁.setTop (mkF m 1 #[.val (.int a)] [(.int a)])) _
    refine XS.sipush X0.here hx rfl (hb hby d_method_3_code_1) ?_
    show Steps _ _ _ (s₁.setTop (mkF m 4 #[.val (.int a)] [(.int (256 : Int32)), (.int a)])) _
    refine XS.iand X0.here hx rfl (hb hby d_method_3_code_4) rfl ?_
    show Steps _ _ _ (s₁.setTop (mkF m 5 #[.val (.int a)] [(.int (a &&& (256 : Int32)))])) _
    exact hq)
  by_cases hc5_2 : (a &&& (256 : Int32)) = (0 : Int32)
  · -- pc 5, holds
    have k3 : To p.tables e below S0 (s₁.setTop (mkF m 19 #[.val (.int a)] [(.int ((a &&& (255 : Int32)).toUInt32.toUInt16.toUInt32.toInt32))])) := fun tt hq => k1 tt (by
      show Steps _ _ _ (s₁.setTop (mkF m 5 #[.val (.int a)] [(.int (a &&& (256 : Int32)))])) _
      refine XS.ifYes X0.here hx rfl (pc0 := 5) (pc' := 13) rfl (hb hby d_method_3_code_5) rfl ((if0 _ _).trans (teq hc5_2).1) (by decide) (by decide) ?_
      show Steps _ _ _ (s₁.setTop (mkF m 13 #[.val (.int a)] [])) _
      refine XS.iloadN X0.here hx rfl (hb hby d_method_3_code_13) rfl ?_
      show Steps _ _ _ (s₁.setTop (mkF m 14 #[.val (.int a)] [(.int a)])) _
      refine XS.sipush X0.here hx rfl (hb hby d_method_3_code_14) ?_
      show Steps _ _ _ (s₁.setTop (mkF m 17 #[.val (.int a)] [(.int (255 : Int32)), (.int a)])) _
      refine XS.iand X0.here hx rfl (hb hby d_method_3_code_17) rfl ?_
      show Steps _ _ _ (s₁.setTop (mkF m 18 #[.val (.int a)] [(.int (a &&& (255 : Int32)))])) _
      refine XS.i2c X0.here hx rfl (hb hby d_method_3_code_18) rfl ?_
      show Steps _ _ _ (s₁.setTop (mkF m 19 #[.val (.int a)] [(.int ((a &&& (255 : Int32)).toUInt32.toUInt16.toUInt32.toInt32))])) _
      exact hq)
    have k4 : To p.tables e below S0 (s₁.setTop (mkF m 19 #[.val (.int a)] [(.int (a &&& (255 : Int32)))])) := by have hq := k3; rw [i2c_mask] at hq; exact hq
    have hE := e0
    refine retInt X0 hx hret hlk (by simp) (own_narrowc _) (hb hby d_method_3_code_19) k4 ?_ (by decide) (by decide)
    try rw [hE]
    exact ⟨_, rfl, N0, rfl, (own_m255 _)⟩
  · -- pc 5, holds not
    have k5 : To p.tables e below S0 (s₁.setTop (mkF m 19 #[.val (.int a)] [(.int (48 : Int32))])) := fun tt hq => k1 tt (by
      show Steps _ _ _ (s₁.setTop (mkF m 5 #[.val (.int a)] [(.int (a &&& (256 : Int32)))])) _
      refine XS.ifNo X0.here hx rfl (hb hby d_method_3_code_5) rfl ((if0 _ _).trans (feq hc5_2).1) ?_
      show Steps _ _ _ (s₁.setTop (mkF m 8 #[.val (.int a)] [])) _
      refine XS.bipush X0.here hx rfl (hb hby d_method_3_code_8) ?_
      show Steps _ _ _ (s₁.setTop (mkF m 10 #[.val (.int a)] [(.int (48 : Int32))])) _
      refine XS.goto X0.here hx rfl (pc0 := 10) (pc' := 19) rfl (hb hby d_method_3_code_10) (by decide) (by decide) ?_
      show Steps _ _ _ (s₁.setTop (mkF m 19 #[.val (.int a)] [(.int (48 : Int32))])) _
      exact hq)
    have hE := e0
    refine retInt X0 hx hret hlk (by simp) rfl (hb hby d_method_3_code_19) k5 ?_ (by decide) (by decide)
    try rw [hE]
    exact ⟨_, rfl, N0, rfl, (by decide)⟩
theorem d_method_4_code_0 : decode method_4_code 0 = .ok (.iload_n 1, 1) := by decide +kernel
theorem d_method_4_code_1 : decode method_4_code 1 = .ok (.iload_n 2, 1) := by decide +kernel
theorem d_method_4_code_2 : decode method_4_code 2 = .ok (.if_icmp .lt 20, 3) := by decide +kernel
theorem d_method_4_code_5 : decode method_4_code 5 = .ok (.iload_n 1, 1) := by decide +kernel
theorem d_method_4_code_6 : decode method_4_code 6 = .ok (.iload_n 3, 1) := by decide +kernel
theorem d_method_4_code_7 : decode method_4_code 7 = .ok (.if_icmp .ge 15, 3) := by decide +kernel
theorem d_method_4_code_10 : decode method_4_code 10 = .ok (.aload_n 0, 1) := by decide +kernel
theorem d_method_4_code_11 : decode method_4_code 11 = .ok (.iload_n 1, 1) := by decide +kernel
theorem d_method_4_code_12 : decode method_4_code 12 = .ok (.caload, 1) := by decide +kernel
theorem d_method_4_code_13 : decode method_4_code 13 = .ok (.bipush 48, 2) := by decide +kernel
theorem d_method_4_code_15 : decode method_4_code 15 = .ok (.if_icmp .eq 7, 3) := by decide +kernel
theorem d_method_4_code_18 : decode method_4_code 18 = .ok (.iconst 1, 1) := by decide +kernel
theorem d_method_4_code_19 : decode method_4_code 19 = .ok (.goto 4, 3) := by decide +kernel
theorem d_method_4_code_22 : decode method_4_code 22 = .ok (.iconst 0, 1) := by decide +kernel
theorem d_method_4_code_23 : decode method_4_code 23 = .ok (.ireturn, 1) := by decide +kernel
set_option maxRecDepth 65536 in
set_option maxHeartbeats 40000000 in
theorem rm_st0_0_0 (l : Launch) (Z : State) (a0 : Array Value) (hw : ∀ d ∈ tables_1, d.before a0 Z = true) (b : Addr) (kb : ClassId) (d0 : Int32) (d1 : Int32) (d2 : Int32) (d3 : Int32) (r : Int32) (h0 : Heap) (n0 : Nat) (hn0 : n0 ≤ h0.size) (P0 : Arv Z h0 b kb .char (4 : Int32) [(.int d0), (.int d1), (.int d2), (.int d3)] (.int (0 : Int32))) (hr : (0 : Int32) = r) :
    Con l Z (⟨"com/example/apportion/apportion/input/DecimalsFirstWholeDigitPinLaw", "stops", "([CIII)Z"⟩ : MethodName) method_4_code 4 (some .boolean) [] ({ frames := 0, cells := 0, slots := 0, locals := 0 } : Room) #[(.ref b), (.int (0 : Int32)), (.int (0 : Int32)), (.int (0 : Int32))] h0 (fun v h L => v = some (.int r) ∧ Fr n0 L ∧ h = h0) := by
  refine enter (Ls := #[.val (.ref b), .val (.int (0 : Int32)), .val (.int (0 : Int32)), .val (.int (0 : Int32))]) (plainFor_of_name pn_4) (fun m => by exact entry_eq rfl) ?_
  intro p e s m below meth cd_ s₁ S0 hx hby hml hret hlk hnm hown hZ X0 e0 k0
  have N0 := Fr.nil n0
  have k1 : To p.tables e below S0 (s₁.setTop (mkF m 23 #[.val (.ref b), .val (.int (0 : Int32)), .val (.int (0 : Int32)), .val (.int (0 : Int32))] [(.int (0 : Int32))])) := fun tt hq => k0 tt (by
    show Steps _ _ _ (s₁.setTop (mkF m 0 #[.val (.ref b), .val (.int (0 : Int32)), .val (.int (0 : Int32)), .val (.int (0 : Int32))] [])) _
    refine XS.iloadN X0.here hx rfl (hb hby d_method_4_code_0) rfl ?_
    show Steps _ _ _ (s₁.setTop (mkF m 1 #[.val (.ref b), .val (.int (0 : Int32)), .val (.int (0 : Int32)), .val (.int (0 : Int32))] [(.int (0 : Int32))])) _
    refine XS.iloadN X0.here hx rfl (hb hby d_method_4_code_1) rfl ?_
    show Steps _ _ _ (s₁.setTop (mkF m 2 #[.val (.ref b), .val (.int (0 : Int32)), .val (.int (0 : Int32)), .val (.int (0 : Int32))] [(.int (0 : Int32)), (.int (0 : Int32))])) _
    refine XS.icmpNo X0.here hx rfl (hb hby d_method_4_code_2) rfl (flt (by decide)).1 ?_
    show Steps _ _ _ (s₁.setTop (mkF m 5 #[.val (.ref b), .val (.int (0 : Int32)), .val (.int (0 : Int32)), .val (.int (0 : Int32))] [])) _
    refine XS.iloadN X0.here hx rfl (hb hby d_method_4_code_5) rfl ?_
    show Steps _ _ _ (s₁.setTop (mkF m 6 #[.val (.ref b), .val (.int (0 : Int32)), .val (.int (0 : Int32)), .val (.int (0 : Int32))] [(.int (0 : Int32))])) _
    refine XS.iloadN X0.here hx rfl (hb hby d_method_4_code_6) rfl ?_
    show Steps _ _ _ (s₁.setTop (mkF m 7 #[.val (.ref b), .val (.int (0 : Int32)), .val (.int (0 : Int32)), .val (.int (0 : Int32))] [(.int (0 : Int32)), (.int (0 : Int32))])) _
    refine XS.icmpYes X0.here hx rfl (pc0 := 7) (pc' := 22) rfl (hb hby d_method_4_code_7) rfl (flt (by decide)).2.1 (by decide) (by decide) ?_
    show Steps _ _ _ (s₁.setTop (mkF m 22 #[.val (.ref b), .val (.int (0 : Int32)), .val (.int (0 : Int32)), .val (.int (0 : Int32))] [])) _
    refine XS.iconst X0.here hx rfl (hb hby d_method_4_code_22) ?_
    show Steps _ _ _ (s₁.setTop (mkF m 23 #[.val (.ref b), .val (.int (0 : Int32)), .val (.int (0 : Int32)), .val (.int (0 : Int32))] [(.int (0 : Int32))])) _
    exact hq)
  have hE := e0
  refine retInt X0 hx hret hlk (by simp) rfl (hb hby d_method_4_code_23) k1 ?_ (by decide) (by decide)
  try rw [hE]
  exact ⟨by rw [← hr], N0, rfl⟩
set_option maxRecDepth 65536 in
set_option maxHeartbeats 40000000 in
theorem rm_st1_0_0 (l : Launch) (Z : State) (a0 : Array Value) (hw : ∀ d ∈ tables_1, d.before a0 Z = true) (b : Addr) (kb : ClassId) (d0 : Int32) (d1 : Int32) (d2 : Int32) (d3 : Int32) (r : Int32) (h0 : Heap) (n0 : Nat) (hn0 : n0 ≤ h0.size) (P0 : Arv Z h0 b kb .char (4 : Int32) [(.int d0), (.int d1), (.int d2), (.int d3)] (.int (0 : Int32))) (hr : (0 : Int32) = r) :
    Con l Z (⟨"com/example/apportion/apportion/input/DecimalsFirstWholeDigitPinLaw", "stops", "([CIII)Z"⟩ : MethodName) method_4_code 4 (some .boolean) [] ({ frames := 0, cells := 0, slots := 0, locals := 0 } : Room) #[(.ref b), (.int (1 : Int32)), (.int (0 : Int32)), (.int (0 : Int32))] h0 (fun v h L => v = some (.int r) ∧ Fr n0 L ∧ h = h0) := by
  refine enter (Ls := #[.val (.ref b), .val (.int (1 : Int32)), .val (.int (0 : Int32)), .val (.int (0 : Int32))]) (plainFor_of_name pn_4) (fun m => by exact entry_eq rfl) ?_
  intro p e s m below meth cd_ s₁ S0 hx hby hml hret hlk hnm hown hZ X0 e0 k0
  have N0 := Fr.nil n0
  have k1 : To p.tables e below S0 (s₁.setTop (mkF m 23 #[.val (.ref b), .val (.int (1 : Int32)), .val (.int (0 : Int32)), .val (.int (0 : Int32))] [(.int (0 : Int32))])) := fun tt hq => k0 tt (by
    show Steps _ _ _ (s₁.setTop (mkF m 0 #[.val (.ref b), .val (.int (1 : Int32)), .val (.int (0 : Int32)), .val (.int (0 : Int32))] [])) _
    refine XS.iloadN X0.here hx rfl (hb hby d_method_4_code_0) rfl ?_
    show Steps _ _ _ (s₁.setTop (mkF m 1 #[.val (.ref b), .val (.int (1 : Int32)), .val (.int (0 : Int32)), .val (.int (0 : Int32))] [(.int (1 : Int32))])) _
    refine XS.iloadN X0.here hx rfl (hb hby d_method_4_code_1) rfl ?_
    show Steps _ _ _ (s₁.setTop (mkF m 2 #[.val (.ref b), .val (.int (1 : Int32)), .val (.int (0 : Int32)), .val (.int (0 : Int32))] [(.int (0 : Int32)), (.int (1 : Int32))])) _
    refine XS.icmpNo X0.here hx rfl (hb hby d_method_4_code_2) rfl (flt (by decide)).1 ?_
    show Steps _ _ _ (s₁.setTop (mkF m 5 #[.val (.ref b), .val (.int (1 : Int32)), .val (.int (0 : Int32)), .val (.int (0 : Int32))] [])) _
    refine XS.iloadN X0.here hx rfl (hb hby d_method_4_code_5) rfl ?_
    show Steps _ _ _ (s₁.setTop (mkF m 6 #[.val (.ref b), .val (.int (1 : Int32)), .val (.int (0 : Int32)), .val (.int (0 : Int32))] [(.int (1 : Int32))])) _
    refine XS.iloadN X0.here hx rfl (hb hby d_method_4_code_6) rfl ?_
    show Steps _ _ _ (s₁.setTop (mkF m 7 #[.val (.ref b), .val (.int (1 : Int32)), .val (.int (0 : Int32)), .val (.int (0 : Int32))] [(.int (0 : Int32)), (.int (1 : Int32))])) _
    refine XS.icmpYes X0.here hx rfl (pc0 := 7) (pc' := 22) rfl (hb hby d_method_4_code_7) rfl (flt (by decide)).2.1 (by decide) (by decide) ?_
    show Steps _ _ _ (s₁.setTop (mkF m 22 #[.val (.ref b), .val (.int (1 : Int32)), .val (.int (0 : Int32)), .val (.int (0 : Int32))] [])) _
    refine XS.iconst X0.here hx rfl (hb hby d_method_4_code_22) ?_
    show Steps _ _ _ (s₁.setTop (mkF m 23 #[.val (.ref b), .val (.int (1 : Int32)), .val (.int (0 : Int32)), .val (.int (0 : Int32))] [(.int (0 : Int32))])) _
    exact hq)
  have hE := e0
  refine retInt X0 hx hret hlk (by simp) rfl (hb hby d_method_4_code_23) k1 ?_ (by decide) (by decide)
  try rw [hE]
  exact ⟨by rw [← hr], N0, rfl⟩
set_option maxRecDepth 65536 in
set_option maxHeartbeats 40000000 in
theorem rm_st2_0_0 (l : Launch) (Z : State) (a0 : Array Value) (hw : ∀ d ∈ tables_1, d.before a0 Z = true) (b : Addr) (kb : ClassId) (d0 : Int32) (d1 : Int32) (d2 : Int32) (d3 : Int32) (r : Int32) (h0 : Heap) (n0 : Nat) (hn0 : n0 ≤ h0.size) (P0 : Arv Z h0 b kb .char (4 : Int32) [(.int d0), (.int d1), (.int d2), (.int d3)] (.int (0 : Int32))) (hr : (0 : Int32) = r) :
    Con l Z (⟨"com/example/apportion/apportion/input/DecimalsFirstWholeDigitPinLaw", "stops", "([CIII)Z"⟩ : MethodName) method_4_code 4 (some .boolean) [] ({ frames := 0, cells := 0, slots := 0, locals := 0 } : Room) #[(.ref b), (.int (2 : Int32)), (.int (0 : Int32)), (.int (0 : Int32))] h0 (fun v h L => v = some (.int r) ∧ Fr n0 L ∧ h = h0) := by
  refine enter (Ls := #[.val (.ref b), .val (.int (2 : Int32)), .val (.int (0 : Int32)), .val (.int (0 : Int32))]) (plainFor_of_name pn_4) (fun m => by exact entry_eq rfl) ?_
  intro p e s m below meth cd_ s₁ S0 hx hby hml hret hlk hnm hown hZ X0 e0 k0
  have N0 := Fr.nil n0
  have k1 : To p.tables e below S0 (s₁.setTop (mkF m 23 #[.val (.ref b), .val (.int (2 : Int32)), .val (.int (0 : Int32)), .val (.int (0 : Int32))] [(.int (0 : Int32))])) := fun tt hq => k0 tt (by
    show Steps _ _ _ (s₁.setTop (mkF m 0 #[.val (.ref b), .val (.int (2 : Int32)), .val (.int (0 : Int32)), .val (.int (0 : Int32))] [])) _
    refine XS.iloadN X0.here hx rfl (hb hby d_method_4_code_0) rfl ?_
    show Steps _ _ _ (s₁.setTop (mkF m 1 #[.val (.ref b), .val (.int (2 : Int32)), .val (.int (0 : Int32)), .val (.int (0 : Int32))] [(.int (2 : Int32))])) _
    refine XS.iloadN X0.here hx rfl (hb hby d_method_4_code_1) rfl ?_
    show Steps _ _ _ (s₁.setTop (mkF m 2 #[.val (.ref b), .val (.int (2 : Int32)), .val (.int (0 : Int32)), .val (.int (0 : Int32))] [(.int (0 : Int32)), (.int (2 : Int32))])) _
    refine XS.icmpNo X0.here hx rfl (hb hby d_method_4_code_2) rfl (flt (by decide)).1 ?_
    show Steps _ _ _ (s₁.setTop (mkF m 5 #[.val (.ref b), .val (.int (2 : Int32)), .val (.int (0 : Int32)), .val (.int (0 : Int32))] [])) _
    refine XS.iloadN X0.here hx rfl (hb hby d_method_4_code_5) rfl ?_
    show Steps _ _ _ (s₁.setTop (mkF m 6 #[.val (.ref b), .val (.int (2 : Int32)), .val (.int (0 : Int32)), .val (.int (0 : Int32))] [(.int (2 : Int32))])) _
    refine XS.iloadN X0.here hx rfl (hb hby d_method_4_code_6) rfl ?_
    show Steps _ _ _ (s₁.setTop (mkF m 7 #[.val (.ref b), .val (.int (2 : Int32)), .val (.int (0 : Int32)), .val (.int (0 : Int32))] [(.int (0 : Int32)), (.int (2 : Int32))])) _
    refine XS.icmpYes X0.here hx rfl (pc0 := 7) (pc' := 22) rfl (hb hby d_method_4_code_7) rfl (flt (by decide)).2.1 (by decide) (by decide) ?_
    show Steps _ _ _ (s₁.setTop (mkF m 22 #[.val (.ref b), .val (.int (2 : Int32)), .val (.int (0 : Int32)), .val (.int (0 : Int32))] [])) _
    refine XS.iconst X0.here hx rfl (hb hby d_method_4_code_22) ?_
    show Steps _ _ _ (s₁.setTop (mkF m 23 #[.val (.ref b), .val (.int (2 : Int32)), .val (.int (0 : Int32)), .val (.int (0 : Int32))] [(.int (0 : Int32))])) _
    exact hq)
  have hE := e0
  refine retInt X0 hx hret hlk (by simp) rfl (hb hby d_method_4_code_23) k1 ?_ (by decide) (by decide)
  try rw [hE]
  exact ⟨by rw [← hr], N0, rfl⟩
set_option maxRecDepth 65536 in
set_option maxHeartbeats 40000000 in
theorem rm_st3_0_0 (l : Launch) (Z : State) (a0 : Array Value) (hw : ∀ d ∈ tables_1, d.before a0 Z = true) (b : Addr) (kb : ClassId) (d0 : Int32) (d1 : Int32) (d2 : Int32) (d3 : Int32) (r : Int32) (h0 : Heap) (n0 : Nat) (hn0 : n0 ≤ h0.size) (P0 : Arv Z h0 b kb .char (4 : Int32) [(.int d0), (.int d1), (.int d2), (.int d3)] (.int (0 : Int32))) (hr : (0 : Int32) = r) :
    Con l Z (⟨"com/example/apportion/apportion/input/DecimalsFirstWholeDigitPinLaw", "stops", "([CIII)Z"⟩ : MethodName) method_4_code 4 (some .boolean) [] ({ frames := 0, cells := 0, slots := 0, locals := 0 } : Room) #[(.ref b), (.int (3 : Int32)), (.int (0 : Int32)), (.int (0 : Int32))] h0 (fun v h L => v = some (.int r) ∧ Fr n0 L ∧ h = h0) := by
  refine enter (Ls := #[.val (.ref b), .val (.int (3 : Int32)), .val (.int (0 : Int32)), .val (.int (0 : Int32))]) (plainFor_of_name pn_4) (fun m => by exact entry_eq rfl) ?_
  intro p e s m below meth cd_ s₁ S0 hx hby hml hret hlk hnm hown hZ X0 e0 k0
  have N0 := Fr.nil n0
  have k1 : To p.tables e below S0 (s₁.setTop (mkF m 23 #[.val (.ref b), .val (.int (3 : Int32)), .val (.int (0 : Int32)), .val (.int (0 : Int32))] [(.int (0 : Int32))])) := fun tt hq => k0 tt (by
    show Steps _ _ _ (s₁.setTop (mkF m 0 #[.val (.ref b), .val (.int (3 : Int32)), .val (.int (0 : Int32)), .val (.int (0 : Int32))] [])) _
    refine XS.iloadN X0.here hx rfl (hb hby d_method_4_code_0) rfl ?_
    show Steps _ _ _ (s₁.setTop (mkF m 1 #[.val (.ref b), .val (.int (3 : Int32)), .val (.int (0 : Int32)), .val (.int (0 : Int32))] [(.int (3 : Int32))])) _
    refine XS.iloadN X0.here hx rfl (hb hby d_method_4_code_1) rfl ?_
    show Steps _ _ _ (s₁.setTop (mkF m 2 #[.val (.ref b), .val (.int (3 : Int32)), .val (.int (0 : Int32)), .val (.int (0 : Int32))] [(.int (0 : Int32)), (.int (3 : Int32))])) _
    refine XS.icmpNo X0.here hx rfl (hb hby d_method_4_code_2) rfl (flt (by decide)).1 ?_
    show Steps _ _ _ (s₁.setTop (mkF m 5 #[.val (.ref b), .val (.int (3 : Int32)), .val (.int (0 : Int32)), .val (.int (0 : Int32))] [])) _
    refine XS.iloadN X0.here hx rfl (hb hby d_method_4_code_5) rfl ?_
    show Steps _ _ _ (s₁.setTop (mkF m 6 #[.val (.ref b), .val (.int (3 : Int32)), .val (.int (0 : Int32)), .val (.int (0 : Int32))] [(.int (3 : Int32))])) _
    refine XS.iloadN X0.here hx rfl (hb hby d_method_4_code_6) rfl ?_
    show Steps _ _ _ (s₁.setTop (mkF m 7 #[.val (.ref b), .val (.int (3 : Int32)), .val (.int (0 : Int32)), .val (.int (0 : Int32))] [(.int (0 : Int32)), (.int (3 : Int32))])) _
    refine XS.icmpYes X0.here hx rfl (pc0 := 7) (pc' := 22) rfl (hb hby d_method_4_code_7) rfl (flt (by decide)).2.1 (by decide) (by decide) ?_
    show Steps _ _ _ (s₁.setTop (mkF m 22 #[.val (.ref b), .val (.int (3 : Int32)), .val (.int (0 : Int32)), .val (.int (0 : Int32))] [])) _
    refine XS.iconst X0.here hx rfl (hb hby d_method_4_code_22) ?_
    show Steps _ _ _ (s₁.setTop (mkF m 23 #[.val (.ref b), .val (.int (3 : Int32)), .val (.int (0 : Int32)), .val (.int (0 : Int32))] [(.int (0 : Int32))])) _
    exact hq)
  have hE := e0
  refine retInt X0 hx hret hlk (by simp) rfl (hb hby d_method_4_code_23) k1 ?_ (by decide) (by decide)
  try rw [hE]
  exact ⟨by rw [← hr], N0, rfl⟩
set_option maxRecDepth 65536 in
set_option maxHeartbeats 40000000 in
theorem rm_st0_0_1 (l : Launch) (Z : State) (a0 : Array Value) (hw : ∀ d ∈ tables_1, d.before a0 Z = true) (b : Addr) (kb : ClassId) (d0 : Int32) (d1 : Int32) (d2 : Int32) (d3 : Int32) (r : Int32) (h0 : Heap) (n0 : Nat) (hn0 : n0 ≤ h0.size) (P0 : Arv Z h0 b kb .char (4 : Int32) [(.int d0), (.int d1), (.int d2), (.int d3)] (.int (0 : Int32))) (hr : (if d0 = (48 : Int32) then (0 : Int32) else 1) = r) :
    Con l Z (⟨"com/example/apportion/apportion/input/DecimalsFirstWholeDigitPinLaw", "stops", "([CIII)Z"⟩ : MethodName) method_4_code 4 (some .boolean) [] ({ frames := 0, cells := 0, slots := 0, locals := 0 } : Room) #[(.ref b), (.int (0 : Int32)), (.int (0 : Int32)), (.int (1 : Int32))] h0 (fun v h L => v = some (.int r) ∧ Fr n0 L ∧ h = h0) := by
  refine enter (Ls := #[.val (.ref b), .val (.int (0 : Int32)), .val (.int (0 : Int32)), .val (.int (1 : Int32))]) (plainFor_of_name pn_4) (fun m => by exact entry_eq rfl) ?_
  intro p e s m below meth cd_ s₁ S0 hx hby hml hret hlk hnm hown hZ X0 e0 k0
  have N0 := Fr.nil n0
  have k1 : To p.tables e below S0 (s₁.setTop (mkF m 12 #[.val (.ref b), .val (.int (0 : Int32)), .val (.int (0 : Int32)), .val (.int (1 : Int32))] [(.int (0 : Int32)), (.ref b)])) := fun tt hq => k0 tt (by
    show Steps _ _ _ (s₁.setTop (mkF m 0 #[.val (.ref b), .val (.int (0 : Int32)), .val (.int (0 : Int32)), .val (.int (1 : Int32))] [])) _
    refine XS.iloadN X0.here hx rfl (hb hby d_method_4_code_0) rfl ?_
    show Steps _ _ _ (s₁.setTop (mkF m 1 #[.val (.ref b), .val (.int (0 : Int32)), .val (.int (0 : Int32)), .val (.int (1 : Int32))] [(.int (0 : Int32))])) _
    refine XS.iloadN X0.here hx rfl (hb hby d_method_4_code_1) rfl ?_
    show Steps _ _ _ (s₁.setTop (mkF m 2 #[.val (.ref b), .val (.int (0 : Int32)), .val (.int (0 : Int32)), .val (.int (1 : Int32))] [(.int (0 : Int32)), (.int (0 : Int32))])) _
    refine XS.icmpNo X0.here hx rfl (hb hby d_method_4_code_2) rfl (flt (by decide)).1 ?_
    show Steps _ _ _ (s₁.setTop (mkF m 5 #[.val (.ref b), .val (.int (0 : Int32)), .val (.int (0 : Int32)), .val (.int (1 : Int32))] [])) _
    refine XS.iloadN X0.here hx rfl (hb hby d_method_4_code_5) rfl ?_
    show Steps _ _ _ (s₁.setTop (mkF m 6 #[.val (.ref b), .val (.int (0 : Int32)), .val (.int (0 : Int32)), .val (.int (1 : Int32))] [(.int (0 : Int32))])) _
    refine XS.iloadN X0.here hx rfl (hb hby d_method_4_code_6) rfl ?_
    show Steps _ _ _ (s₁.setTop (mkF m 7 #[.val (.ref b), .val (.int (0 : Int32)), .val (.int (0 : Int32)), .val (.int (1 : Int32))] [(.int (1 : Int32)), (.int (0 : Int32))])) _
    refine XS.icmpNo X0.here hx rfl (hb hby d_method_4_code_7) rfl (tlt (by decide)).2.1 ?_
    show Steps _ _ _ (s₁.setTop (mkF m 10 #[.val (.ref b), .val (.int (0 : Int32)), .val (.int (0 : Int32)), .val (.int (1 : Int32))] [])) _
    refine XS.aloadN X0.here hx rfl (hb hby d_method_4_code_10) rfl rfl ?_
    show Steps _ _ _ (s₁.setTop (mkF m 11 #[.val (.ref b), .val (.int (0 : Int32)), .val (.int (0 : Int32)), .val (.int (1 : Int32))] [(.ref b)])) _
    refine XS.iloadN X0.here hx rfl (hb hby d_method_4_code_11) rfl ?_
    show Steps _ _ _ (s₁.setTop (mkF m 12 #[.val (.ref b), .val (.int (0 : Int32)), .val (.int (0 : Int32)), .val (.int (1 : Int32))] [(.int (0 : Int32)), (.ref b)])) _
    exact hq)
  obtain ⟨cl2, Ar2, -, S2, -, G2, -⟩ := id P0
  have hi2 := inb_of (j := (0 : Int32)) S2 ⟨by decide, by decide⟩
  have st2 := fun tt => X0.caload hx (j := (0 : Int32)) (v := (.int d0)) (by rw [e0]; exact Ar2.1) (State.isArrayOf_alike hZ.alike Ar2.2.1) Ar2.2.2 hi2 (G2.at hi2 rfl) (g := (mkF m 12 #[.val (.ref b), .val (.int (0 : Int32)), .val (.int (0 : Int32)), .val (.int (1 : Int32))] [(.int (0 : Int32)), (.ref b)])) rfl rfl (hb hby d_method_4_code_12) tt
  have k2 : To p.tables e below S0 (s₁.setTop (mkF m 13 #[.val (.ref b), .val (.int (0 : Int32)), .val (.int (0 : Int32)), .val (.int (1 : Int32))] [(.int d0)])) := fun tt hq => k1 tt (st2 tt hq)
  have k3 : To p.tables e below S0 (s₁.setTop (mkF m 15 #[.val (.ref b), .val (.int (0 : Int32)), .val (.int (0 : Int32)), .val (.int (1 : Int32))] [(.int (48 : Int32)), (.int d0)])) := fun tt hq => k2 tt (by
    show Steps _ _ _ (s₁.setTop (mkF m 13 #[.val (.ref b), .val (.int (0 : Int32)), .val (.int (0 : Int32)), .val (.int (1 : Int32))] [(.int d0)])) _
    refine XS.bipush X0.here hx rfl (hb hby d_method_4_code_13) ?_
    show Steps _ _ _ (s₁.setTop (mkF m 15 #[.val (.ref b), .val (.int (0 : Int32)), .val (.int (0 : Int32)), .val (.int (1 : Int32))] [(.int (48 : Int32)), (.int d0)])) _
    exact hq)
  by_cases hc15_4 : d0 = (48 : Int32)
  · -- pc 15, holds
    have k5 : To p.tables e below S0 (s₁.setTop (mkF m 23 #[.val (.ref b), .val (.int (0 : Int32)), .val (.int (0 : Int32)), .val (.int (1 : Int32))] [(.int (0 : Int32))])) := fun tt hq => k3 tt (by
      show Steps _ _ _ (s₁.setTop (mkF m 15 #[.val (.ref b), .val (.int (0 : Int32)), .val (.int (0 : Int32)), .val (.int (1 : Int32))] [(.int (48 : Int32)), (.int d0)])) _
      refine XS.icmpYes X0.here hx rfl (pc0 := 15) (pc' := 22) rfl (hb hby d_method_4_code_15) rfl (teq hc15_4).1 (by decide) (by decide) ?_
      show Steps _ _ _ (s₁.setTop (mkF m 22 #[.val (.ref b), .val (.int (0 : Int32)), .val (.int (0 : Int32)), .val (.int (1 : Int32))] [])) _
      refine XS.iconst X0.here hx rfl (hb hby d_method_4_code_22) ?_
      show Steps _ _ _ (s₁.setTop (mkF m 23 #[.val (.ref b), .val (.int (0 : Int32)), .val (.int (0 : Int32)), .val (.int (1 : Int32))] [(.int (0 : Int32))])) _
      exact hq)
    have hE := e0
    refine retInt X0 hx hret hlk (by simp) rfl (hb hby d_method_4_code_23) k5 ?_ (by decide) (by decide)
    try rw [hE]
    exact ⟨by rw [← hr, if_pos hc15_4], N0, rfl⟩
  · -- pc 15, holds not
    have k6 : To p.tables e below S0 (s₁.setTop (mkF m 23 #[.val (.ref b), .val (.int (0 : Int32)), .val (.int (0 : Int32)), .val (.int (1 : Int32))] [(.int (1 : Int32))])) := fun tt hq => k3 tt (by
      show Steps _ _ _ (s₁.setTop (mkF m 15 #[.val (.ref b), .val (.int (0 : Int32)), .val (.int (0 : Int32)), .val (.int (1 : Int32))] [(.int (48 : Int32)), (.int d0)])) _
      refine XS.icmpNo X0.here hx rfl (hb hby d_method_4_code_15) rfl (feq hc15_4).1 ?_
      show Steps _ _ _ (s₁.setTop (mkF m 18 #[.val (.ref b), .val (.int (0 : Int32)), .val (.int (0 : Int32)), .val (.int (1 : Int32))] [])) _
      refine XS.iconst X0.here hx rfl (hb hby d_method_4_code_18) ?_
      show Steps _ _ _ (s₁.setTop (mkF m 19 #[.val (.ref b), .val (.int (0 : Int32)), .val (.int (0 : Int32)), .val (.int (1 : Int32))] [(.int (1 : Int32))])) _
      refine XS.goto X0.here hx rfl (pc0 := 19) (pc' := 23) rfl (hb hby d_method_4_code_19) (by decide) (by decide) ?_
      show Steps _ _ _ (s₁.setTop (mkF m 23 #[.val (.ref b), .val (.int (0 : Int32)), .val (.int (0 : Int32)), .val (.int (1 : Int32))] [(.int (1 : Int32))])) _
      exact hq)
    have hE := e0
    refine retInt X0 hx hret hlk (by simp) rfl (hb hby d_method_4_code_23) k6 ?_ (by decide) (by decide)
    try rw [hE]
    exact ⟨by rw [← hr, if_neg hc15_4], N0, rfl⟩
set_option maxRecDepth 65536 in
set_option maxHeartbeats 40000000 in
theorem rm_st1_0_1 (l : Launch) (Z : State) (a0 : Array Value) (hw : ∀ d ∈ tables_1, d.before a0 Z = true) (b : Addr) (kb : ClassId) (d0 : Int32) (d1 : Int32) (d2 : Int32) (d3 : Int32) (r : Int32) (h0 : Heap) (n0 : Nat) (hn0 : n0 ≤ h0.size) (P0 : Arv Z h0 b kb .char (4 : Int32) [(.int d0), (.int d1), (.int d2), (.int d3)] (.int (0 : Int32))) (hr : (0 : Int32) = r) :
    Con l Z (⟨"com/example/apportion/apportion/input/DecimalsFirstWholeDigitPinLaw", "stops", "([CIII)Z"⟩ : MethodName) method_4_code 4 (some .boolean) [] ({ frames := 0, cells := 0, slots := 0, locals := 0 } : Room) #[(.ref b), (.int (1 : Int32)), (.int (0 : Int32)), (.int (1 : Int32))] h0 (fun v h L => v = some (.int r) ∧ Fr n0 L ∧ h = h0) := by
  refine enter (Ls := #[.val (.ref b), .val (.int (1 : Int32)), .val (.int (0 : Int32)), .val (.int (1 : Int32))]) (plainFor_of_name pn_4) (fun m => by exact entry_eq rfl) ?_
  intro p e s m below meth cd_ s₁ S0 hx hby hml hret hlk hnm hown hZ X0 e0 k0
  have N0 := Fr.nil n0
  have k1 : To p.tables e below S0 (s₁.setTop (mkF m 23 #[.val (.ref b), .val (.int (1 : Int32)), .val (.int (0 : Int32)), .val (.int (1 : Int32))] [(.int (0 : Int32))])) := fun tt hq => k0 tt (by
    show Steps _ _ _ (s₁.setTop (mkF m 0 #[.val (.ref b), .val (.int (1 : Int32)), .val (.int (0 : Int32)), .val (.int (1 : Int32))] [])) _
    refine XS.iloadN X0.here hx rfl (hb hby d_method_4_code_0) rfl ?_
    show Steps _ _ _ (s₁.setTop (mkF m 1 #[.val (.ref b), .val (.int (1 : Int32)), .val (.int (0 : Int32)), .val (.int (1 : Int32))] [(.int (1 : Int32))])) _
    refine XS.iloadN X0.here hx rfl (hb hby d_method_4_code_1) rfl ?_
    show Steps _ _ _ (s₁.setTop (mkF m 2 #[.val (.ref b), .val (.int (1 : Int32)), .val (.int (0 : Int32)), .val (.int (1 : Int32))] [(.int (0 : Int32)), (.int (1 : Int32))])) _
    refine XS.icmpNo X0.here hx rfl (hb hby d_method_4_code_2) rfl (flt (by decide)).1 ?_
    show Steps _ _ _ (s₁.setTop (mkF m 5 #[.val (.ref b), .val (.int (1 : Int32)), .val (.int (0 : Int32)), .val (.int (1 : Int32))] [])) _
    refine XS.iloadN X0.here hx rfl (hb hby d_method_4_code_5) rfl ?_
    show Steps _ _ _ (s₁.setTop (mkF m 6 #[.val (.ref b), .val (.int (1 : Int32)), .val (.int (0 : Int32)), .val (.int (1 : Int32))] [(.int (1 : Int32))])) _
    refine XS.iloadN X0.here hx rfl (hb hby d_method_4_code_6) rfl ?_
    show Steps _ _ _ (s₁.setTop (mkF m 7 #[.val (.ref b), .val (.int (1 : Int32)), .val (.int (0 : Int32)), .val (.int (1 : Int32))] [(.int (1 : Int32)), (.int (1 : Int32))])) _
    refine XS.icmpYes X0.here hx rfl (pc0 := 7) (pc' := 22) rfl (hb hby d_method_4_code_7) rfl (flt (by decide)).2.1 (by decide) (by decide) ?_
    show Steps _ _ _ (s₁.setTop (mkF m 22 #[.val (.ref b), .val (.int (1 : Int32)), .val (.int (0 : Int32)), .val (.int (1 : Int32))] [])) _
    refine XS.iconst X0.here hx rfl (hb hby d_method_4_code_22) ?_
    show Steps _ _ _ (s₁.setTop (mkF m 23 #[.val (.ref b), .val (.int (1 : Int32)), .val (.int (0 : Int32)), .val (.int (1 : Int32))] [(.int (0 : Int32))])) _
    exact hq)
  have hE := e0
  refine retInt X0 hx hret hlk (by simp) rfl (hb hby d_method_4_code_23) k1 ?_ (by decide) (by decide)
  try rw [hE]
  exact ⟨by rw [← hr], N0, rfl⟩
set_option maxRecDepth 65536 in
set_option maxHeartbeats 40000000 in
theorem rm_st2_0_1 (l : Launch) (Z : State) (a0 : Array Value) (hw : ∀ d ∈ tables_1, d.before a0 Z = true) (b : Addr) (kb : ClassId) (d0 : Int32) (d1 : Int32) (d2 : Int32) (d3 : Int32) (r : Int32) (h0 : Heap) (n0 : Nat) (hn0 : n0 ≤ h0.size) (P0 : Arv Z h0 b kb .char (4 : Int32) [(.int d0), (.int d1), (.int d2), (.int d3)] (.int (0 : Int32))) (hr : (0 : Int32) = r) :
    Con l Z (⟨"com/example/apportion/apportion/input/DecimalsFirstWholeDigitPinLaw", "stops", "([CIII)Z"⟩ : MethodName) method_4_code 4 (some .boolean) [] ({ frames := 0, cells := 0, slots := 0, locals := 0 } : Room) #[(.ref b), (.int (2 : Int32)), (.int (0 : Int32)), (.int (1 : Int32))] h0 (fun v h L => v = some (.int r) ∧ Fr n0 L ∧ h = h0) := by
  refine enter (Ls := #[.val (.ref b), .val (.int (2 : Int32)), .val (.int (0 : Int32)), .val (.int (1 : Int32))]) (plainFor_of_name pn_4) (fun m => by exact entry_eq rfl) ?_
  intro p e s m below meth cd_ s₁ S0 hx hby hml hret hlk hnm hown hZ X0 e0 k0
  have N0 := Fr.nil n0
  have k1 : To p.tables e below S0 (s₁.setTop (mkF m 23 #[.val (.ref b), .val (.int (2 : Int32)), .val (.int (0 : Int32)), .val (.int (1 : Int32))] [(.int (0 : Int32))])) := fun tt hq => k0 tt (by
    show Steps _ _ _ (s₁.setTop (mkF m 0 #[.val (.ref b), .val (.int (2 : Int32)), .val (.int (0 : Int32)), .val (.int (1 : Int32))] [])) _
    refine XS.iloadN X0.here hx rfl (hb hby d_method_4_code_0) rfl ?_
    show Steps _ _ _ (s₁.setTop (mkF m 1 #[.val (.ref b), .val (.int (2 : Int32)), .val (.int (0 : Int32)), .val (.int (1 : Int32))] [(.int (2 : Int32))])) _
    refine XS.iloadN X0.here hx rfl (hb hby d_method_4_code_1) rfl ?_
    show Steps _ _ _ (s₁.setTop (mkF m 2 #[.val (.ref b), .val (.int (2 : Int32)), .val (.int (0 : Int32)), .val (.int (1 : Int32))] [(.int (0 : Int32)), (.int (2 : Int32))])) _
    refine XS.icmpNo X0.here hx rfl (hb hby d_method_4_code_2) rfl (flt (by decide)).1 ?_
    show Steps _ _ _ (s₁.setTop (mkF m 5 #[.val (.ref b), .val (.int (2 : Int32)), .val (.int (0 : Int32)), .val (.int (1 : Int32))] [])) _
    refine XS.iloadN X0.here hx rfl (hb hby d_method_4_code_5) rfl ?_
    show Steps _ _ _ (s₁.setTop (mkF m 6 #[.val (.ref b), .val (.int (2 : Int32)), .val (.int (0 : Int32)), .val (.int (1 : Int32))] [(.int (2 : Int32))])) _
    refine XS.iloadN X0.here hx rfl (hb hby d_method_4_code_6) rfl ?_
    show Steps _ _ _ (s₁.setTop (mkF m 7 #[.val (.ref b), .val (.int (2 : Int32)), .val (.int (0 : Int32)), .val (.int (1 : Int32))] [(.int (1 : Int32)), (.int (2 : Int32))])) _
    refine XS.icmpYes X0.here hx rfl (pc0 := 7) (pc' := 22) rfl (hb hby d_method_4_code_7) rfl (flt (by decide)).2.1 (by decide) (by decide) ?_
    show Steps _ _ _ (s₁.setTop (mkF m 22 #[.val (.ref b), .val (.int (2 : Int32)), .val (.int (0 : Int32)), .val (.int (1 : Int32))] [])) _
    refine XS.iconst X0.here hx rfl (hb hby d_method_4_code_22) ?_
    show Steps _ _ _ (s₁.setTop (mkF m 23 #[.val (.ref b), .val (.int (2 : Int32)), .val (.int (0 : Int32)), .val (.int (1 : Int32))] [(.int (0 : Int32))])) _
    exact hq)
  have hE := e0
  refine retInt X0 hx hret hlk (by simp) rfl (hb hby d_method_4_code_23) k1 ?_ (by decide) (by decide)
  try rw [hE]
  exact ⟨by rw [← hr], N0, rfl⟩
set_option maxRecDepth 65536 in
set_option maxHeartbeats 40000000 in
theorem rm_st3_0_1 (l : Launch) (Z : State) (a0 : Array Value) (hw : ∀ d ∈ tables_1, d.before a0 Z = true) (b : Addr) (kb : ClassId) (d0 : Int32) (d1 : Int32) (d2 : Int32) (d3 : Int32) (r : Int32) (h0 : Heap) (n0 : Nat) (hn0 : n0 ≤ h0.size) (P0 : Arv Z h0 b kb .char (4 : Int32) [(.int d0), (.int d1), (.int d2), (.int d3)] (.int (0 : Int32))) (hr : (0 : Int32) = r) :
    Con l Z (⟨"com/example/apportion/apportion/input/DecimalsFirstWholeDigitPinLaw", "stops", "([CIII)Z"⟩ : MethodName) method_4_code 4 (some .boolean) [] ({ frames := 0, cells := 0, slots := 0, locals := 0 } : Room) #[(.ref b), (.int (3 : Int32)), (.int (0 : Int32)), (.int (1 : Int32))] h0 (fun v h L => v = some (.int r) ∧ Fr n0 L ∧ h = h0) := by
  refine enter (Ls := #[.val (.ref b), .val (.int (3 : Int32)), .val (.int (0 : Int32)), .val (.int (1 : Int32))]) (plainFor_of_name pn_4) (fun m => by exact entry_eq rfl) ?_
  intro p e s m below meth cd_ s₁ S0 hx hby hml hret hlk hnm hown hZ X0 e0 k0
  have N0 := Fr.nil n0
  have k1 : To p.tables e below S0 (s₁.setTop (mkF m 23 #[.val (.ref b), .val (.int (3 : Int32)), .val (.int (0 : Int32)), .val (.int (1 : Int32))] [(.int (0 : Int32))])) := fun tt hq => k0 tt (by
    show Steps _ _ _ (s₁.setTop (mkF m 0 #[.val (.ref b), .val (.int (3 : Int32)), .val (.int (0 : Int32)), .val (.int (1 : Int32))] [])) _
    refine XS.iloadN X0.here hx rfl (hb hby d_method_4_code_0) rfl ?_
    show Steps _ _ _ (s₁.setTop (mkF m 1 #[.val (.ref b), .val (.int (3 : Int32)), .val (.int (0 : Int32)), .val (.int (1 : Int32))] [(.int (3 : Int32))])) _
    refine XS.iloadN X0.here hx rfl (hb hby d_method_4_code_1) rfl ?_
    show Steps _ _ _ (s₁.setTop (mkF m 2 #[.val (.ref b), .val (.int (3 : Int32)), .val (.int (0 : Int32)), .val (.int (1 : Int32))] [(.int (0 : Int32)), (.int (3 : Int32))])) _
    refine XS.icmpNo X0.here hx rfl (hb hby d_method_4_code_2) rfl (flt (by decide)).1 ?_
    show Steps _ _ _ (s₁.setTop (mkF m 5 #[.val (.ref b), .val (.int (3 : Int32)), .val (.int (0 : Int32)), .val (.int (1 : Int32))] [])) _
    refine XS.iloadN X0.here hx rfl (hb hby d_method_4_code_5) rfl ?_
    show Steps _ _ _ (s₁.setTop (mkF m 6 #[.val (.ref b), .val (.int (3 : Int32)), .val (.int (0 : Int32)), .val (.int (1 : Int32))] [(.int (3 : Int32))])) _
    refine XS.iloadN X0.here hx rfl (hb hby d_method_4_code_6) rfl ?_
    show Steps _ _ _ (s₁.setTop (mkF m 7 #[.val (.ref b), .val (.int (3 : Int32)), .val (.int (0 : Int32)), .val (.int (1 : Int32))] [(.int (1 : Int32)), (.int (3 : Int32))])) _
    refine XS.icmpYes X0.here hx rfl (pc0 := 7) (pc' := 22) rfl (hb hby d_method_4_code_7) rfl (flt (by decide)).2.1 (by decide) (by decide) ?_
    show Steps _ _ _ (s₁.setTop (mkF m 22 #[.val (.ref b), .val (.int (3 : Int32)), .val (.int (0 : Int32)), .val (.int (1 : Int32))] [])) _
    refine XS.iconst X0.here hx rfl (hb hby d_method_4_code_22) ?_
    show Steps _ _ _ (s₁.setTop (mkF m 23 #[.val (.ref b), .val (.int (3 : Int32)), .val (.int (0 : Int32)), .val (.int (1 : Int32))] [(.int (0 : Int32))])) _
    exact hq)
  have hE := e0
  refine retInt X0 hx hret hlk (by simp) rfl (hb hby d_method_4_code_23) k1 ?_ (by decide) (by decide)
  try rw [hE]
  exact ⟨by rw [← hr], N0, rfl⟩
set_option maxRecDepth 65536 in
set_option maxHeartbeats 40000000 in
theorem rm_st0_0_2 (l : Launch) (Z : State) (a0 : Array Value) (hw : ∀ d ∈ tables_1, d.before a0 Z = true) (b : Addr) (kb : ClassId) (d0 : Int32) (d1 : Int32) (d2 : Int32) (d3 : Int32) (r : Int32) (h0 : Heap) (n0 : Nat) (hn0 : n0 ≤ h0.size) (P0 : Arv Z h0 b kb .char (4 : Int32) [(.int d0), (.int d1), (.int d2), (.int d3)] (.int (0 : Int32))) (hr : (if d0 = (48 : Int32) then (0 : Int32) else 1) = r) :
    Con l Z (⟨"com/example/apportion/apportion/input/DecimalsFirstWholeDigitPinLaw", "stops", "([CIII)Z"⟩ : MethodName) method_4_code 4 (some .boolean) [] ({ frames := 0, cells := 0, slots := 0, locals := 0 } : Room) #[(.ref b), (.int (0 : Int32)), (.int (0 : Int32)), (.int (2 : Int32))] h0 (fun v h L => v = some (.int r) ∧ Fr n0 L ∧ h = h0) := by
  refine enter (Ls := #[.val (.ref b), .val (.int (0 : Int32)), .val (.int (0 : Int32)), .val (.int (2 : Int32))]) (plainFor_of_name pn_4) (fun m => by exact entry_eq rfl) ?_
  intro p e s m below meth cd_ s₁ S0 hx hby hml hret hlk hnm hown hZ X0 e0 k0
  have N0 := Fr.nil n0
  have k1 : To p.tables e below S0 (s₁.setTop (mkF m 12 #[.val (.ref b), .val (.int (0 : Int32)), .val (.int (0 : Int32)), .val (.int (2 : Int32))] [(.int (0 : Int32)), (.ref b)])) := fun tt hq => k0 tt (by
    show Steps _ _ _ (s₁.setTop (mkF m 0 #[.val (.ref b), .val (.int (0 : Int32)), .val (.int (0 : Int32)), .val (.int (2 : Int32))] [])) _
    refine XS.iloadN X0.here hx rfl (hb hby d_method_4_code_0) rfl ?_
    show Steps _ _ _ (s₁.setTop (mkF m 1 #[.val (.ref b), .val (.int (0 : Int32)), .val (.int (0 : Int32)), .val (.int (2 : Int32))] [(.int (0 : Int32))])) _
    refine XS.iloadN X0.here hx rfl (hb hby d_method_4_code_1) rfl ?_
    show Steps _ _ _ (s₁.setTop (mkF m 2 #[.val (.ref b), .val (.int (0 : Int32)), .val (.int (0 : Int32)), .val (.int (2 : Int32))] [(.int (0 : Int32)), (.int (0 : Int32))])) _
    refine XS.icmpNo X0.here hx rfl (hb hby d_method_4_code_2) rfl (flt (by decide)).1 ?_
    show Steps _ _ _ (s₁.setTop (mkF m 5 #[.val (.ref b), .val (.int (0 : Int32)), .val (.int (0 : Int32)), .val (.int (2 : Int32))] [])) _
    refine XS.iloadN X0.here hx rfl (hb hby d_method_4_code_5) rfl ?_
    show Steps _ _ _ (s₁.setTop (mkF m 6 #[.val (.ref b), .val (.int (0 : Int32)), .val (.int (0 : Int32)), .val (.int (2 : Int32))] [(.int (0 : Int32))])) _
    refine XS.iloadN X0.here hx rfl (hb hby d_method_4_code_6) rfl ?_
    show Steps _ _ _ (s₁.setTop (mkF m 7 #[.val (.ref b), .val (.int (0 : Int32)), .val (.int (0 : Int32)), .val (.int (2 : Int32))] [(.int (2 : Int32)), (.int (0 : Int32))])) _
    refine XS.icmpNo X0.here hx rfl (hb hby d_method_4_code_7) rfl (tlt (by decide)).2.1 ?_
    show Steps _ _ _ (s₁.setTop (mkF m 10 #[.val (.ref b), .val (.int (0 : Int32)), .val (.int (0 : Int32)), .val (.int (2 : Int32))] [])) _
    refine XS.aloadN X0.here hx rfl (hb hby d_method_4_code_10) rfl rfl ?_
    show Steps _ _ _ (s₁.setTop (mkF m 11 #[.val (.ref b), .val (.int (0 : Int32)), .val (.int (0 : Int32)), .val (.int (2 : Int32))] [(.ref b)])) _
    refine XS.iloadN X0.here hx rfl (hb hby d_method_4_code_11) rfl ?_
    show Steps _ _ _ (s₁.setTop (mkF m 12 #[.val (.ref b), .val (.int (0 : Int32)), .val (.int (0 : Int32)), .val (.int (2 : Int32))] [(.int (0 : Int32)), (.ref b)])) _
    exact hq)
  obtain ⟨cl2, Ar2, -, S2, -, G2, -⟩ := id P0
  have hi2 := inb_of (j := (0 : Int32)) S2 ⟨by decide, by decide⟩
  have st2 := fun tt => X0.caload hx (j := (0 : Int32)) (v := (.int d0)) (by rw [e0]; exact Ar2.1) (State.isArrayOf_alike hZ.alike Ar2.2.1) Ar2.2.2 hi2 (G2.at hi2 rfl) (g := (mkF m 12 #[.val (.ref b), .val (.int (0 : Int32)), .val (.int (0 : Int32)), .val (.int (2 : Int32))] [(.int (0 : Int32)), (.ref b)])) rfl rfl (hb hby d_method_4_code_12) tt
  have k2 : To p.tables e below S0 (s₁.setTop (mkF m 13 #[.val (.ref b), .val (.int (0 : Int32)), .val (.int (0 : Int32)), .val (.int (2 : Int32))] [(.int d0)])) := fun tt hq => k1 tt (st2 tt hq)
  have k3 : To p.tables e below S0 (s₁.setTop (mkF m 15 #[.val (.ref b), .val (.int (0 : Int32)), .val (.int (0 : Int32)), .val (.int (2 : Int32))] [(.int (48 : Int32)), (.int d0)])) := fun tt hq => k2 tt (by
    show Steps _ _ _ (s₁.setTop (mkF m 13 #[.val (.ref b), .val (.int (0 : Int32)), .val (.int (0 : Int32)), .val (.int (2 : Int32))] [(.int d0)])) _
    refine XS.bipush X0.here hx rfl (hb hby d_method_4_code_13) ?_
    show Steps _ _ _ (s₁.setTop (mkF m 15 #[.val (.ref b), .val (.int (0 : Int32)), .val (.int (0 : Int32)), .val (.int (2 : Int32))] [(.int (48 : Int32)), (.int d0)])) _
    exact hq)
  by_cases hc15_4 : d0 = (48 : Int32)
  · -- pc 15, holds
    have k5 : To p.tables e below S0 (s₁.setTop (mkF m 23 #[.val (.ref b), .val (.int (0 : Int32)), .val (.int (0 : Int32)), .val (.int (2 : Int32))] [(.int (0 : Int32))])) := fun tt hq => k3 tt (by
      show Steps _ _ _ (s₁.setTop (mkF m 15 #[.val (.ref b), .val (.int (0 : Int32)), .val (.int (0 : Int32)), .val (.int (2 : Int32))] [(.int (48 : Int32)), (.int d0)])) _
      refine XS.icmpYes X0.here hx rfl (pc0 := 15) (pc' := 22) rfl (hb hby d_method_4_code_15) rfl (teq hc15_4).1 (by decide) (by decide) ?_
      show Steps _ _ _ (s₁.setTop (mkF m 22 #[.val (.ref b), .val (.int (0 : Int32)), .val (.int (0 : Int32)), .val (.int (2 : Int32))] [])) _
      refine XS.iconst X0.here hx rfl (hb hby d_method_4_code_22) ?_
      show Steps _ _ _ (s₁.setTop (mkF m 23 #[.val (.ref b), .val (.int (0 : Int32)), .val (.int (0 : Int32)), .val (.int (2 : Int32))] [(.int (0 : Int32))])) _
      exact hq)
    have hE := e0
    refine retInt X0 hx hret hlk (by simp) rfl (hb hby d_method_4_code_23) k5 ?_ (by decide) (by decide)
    try rw [hE]
    exact ⟨by rw [← hr, if_pos hc15_4], N0, rfl⟩
  · -- pc 15, holds not
    have k6 : To p.tables e below S0 (s₁.setTop (mkF m 23 #[.val (.ref b), .val (.int (0 : Int32)), .val (.int (0 : Int32)), .val (.int (2 : Int32))] [(.int (1 : Int32))])) := fun tt hq => k3 tt (by
      show Steps _ _ _ (s₁.setTop (mkF m 15 #[.val (.ref b), .val (.int (0 : Int32)), .val (.int (0 : Int32)), .val (.int (2 : Int32))] [(.int (48 : Int32)), (.int d0)])) _
      refine XS.icmpNo X0.here hx rfl (hb hby d_method_4_code_15) rfl (feq hc15_4).1 ?_
      show Steps _ _ _ (s₁.setTop (mkF m 18 #[.val (.ref b), .val (.int (0 : Int32)), .val (.int (0 : Int32)), .val (.int (2 : Int32))] [])) _
      refine XS.iconst X0.here hx rfl (hb hby d_method_4_code_18) ?_
      show Steps _ _ _ (s₁.setTop (mkF m 19 #[.val (.ref b), .val (.int (0 : Int32)), .val (.int (0 : Int32)), .val (.int (2 : Int32))] [(.int (1 : Int32))])) _
      refine XS.goto X0.here hx rfl (pc0 := 19) (pc' := 23) rfl (hb hby d_method_4_code_19) (by decide) (by decide) ?_
      show Steps _ _ _ (s₁.setTop (mkF m 23 #[.val (.ref b), .val (.int (0 : Int32)), .val (.int (0 : Int32)), .val (.int (2 : Int32))] [(.int (1 : Int32))])) _
      exact hq)
    have hE := e0
    refine retInt X0 hx hret hlk (by simp) rfl (hb hby d_method_4_code_23) k6 ?_ (by decide) (by decide)
    try rw [hE]
    exact ⟨by rw [← hr, if_neg hc15_4], N0, rfl⟩
set_option maxRecDepth 65536 in
set_option maxHeartbeats 40000000 in
theorem rm_st1_0_2 (l : Launch) (Z : State) (a0 : Array Value) (hw : ∀ d ∈ tables_1, d.before a0 Z = true) (b : Addr) (kb : ClassId) (d0 : Int32) (d1 : Int32) (d2 : Int32) (d3 : Int32) (r : Int32) (h0 : Heap) (n0 : Nat) (hn0 : n0 ≤ h0.size) (P0 : Arv Z h0 b kb .char (4 : Int32) [(.int d0), (.int d1), (.int d2), (.int d3)] (.int (0 : Int32))) (hr : (if d1 = (48 : Int32) then (0 : Int32) else 1) = r) :
    Con l Z (⟨"com/example/apportion/apportion/input/DecimalsFirstWholeDigitPinLaw", "stops", "([CIII)Z"⟩ : MethodName) method_4_code 4 (some .boolean) [] ({ frames := 0, cells := 0, slots := 0, locals := 0 } : Room) #[(.ref b), (.int (1 : Int32)), (.int (0 : Int32)), (.int (2 : Int32))] h0 (fun v h L => v = some (.int r) ∧ Fr n0 L ∧ h = h0) := by
  refine enter (Ls := #[.val (.ref b), .val (.int (1 : Int32)), .val (.int (0 : Int32)), .val (.int (2 : Int32))]) (plainFor_of_name pn_4) (fun m => by exact entry_eq rfl) ?_
  intro p e s m below meth cd_ s₁ S0 hx hby hml hret hlk hnm hown hZ X0 e0 k0
  have N0 := Fr.nil n0
  have k1 : To p.tables e below S0 (s₁.setTop (mkF m 12 #[.val (.ref b), .val (.int (1 : Int32)), .val (.int (0 : Int32)), .val (.int (2 : Int32))] [(.int (1 : Int32)), (.ref b)])) := fun tt hq => k0 tt (by
    show Steps _ _ _ (s₁.setTop (mkF m 0 #[.val (.ref b), .val (.int (1 : Int32)), .val (.int (0 : Int32)), .val (.int (2 : Int32))] [])) _
    refine XS.iloadN X0.here hx rfl (hb hby d_method_4_code_0) rfl ?_
    show Steps _ _ _ (s₁.setTop (mkF m 1 #[.val (.ref b), .val (.int (1 : Int32)), .val (.int (0 : Int32)), .val (.int (2 : Int32))] [(.int (1 : Int32))])) _
    refine XS.iloadN X0.here hx rfl (hb hby d_method_4_code_1) rfl ?_
    show Steps _ _ _ (s₁.setTop (mkF m 2 #[.val (.ref b), .val (.int (1 : Int32)), .val (.int (0 : Int32)), .val (.int (2 : Int32))] [(.int (0 : Int32)), (.int (1 : Int32))])) _
    refine XS.icmpNo X0.here hx rfl (hb hby d_method_4_code_2) rfl (flt (by decide)).1 ?_
    show Steps _ _ _ (s₁.setTop (mkF m 5 #[.val (.ref b), .val (.int (1 : Int32)), .val (.int (0 : Int32)), .val (.int (2 : Int32))] [])) _
    refine XS.iloadN X0.here hx rfl (hb hby d_method_4_code_5) rfl ?_
    show Steps _ _ _ (s₁.setTop (mkF m 6 #[.val (.ref b), .val (.int (1 : Int32)), .val (.int (0 : Int32)), .val (.int (2 : Int32))] [(.int (1 : Int32))])) _
    refine XS.iloadN X0.here hx rfl (hb hby d_method_4_code_6) rfl ?_
    show Steps _ _ _ (s₁.setTop (mkF m 7 #[.val (.ref b), .val (.int (1 : Int32)), .val (.int (0 : Int32)), .val (.int (2 : Int32))] [(.int (2 : Int32)), (.int (1 : Int32))])) _
    refine XS.icmpNo X0.here hx rfl (hb hby d_method_4_code_7) rfl (tlt (by decide)).2.1 ?_
    show Steps _ _ _ (s₁.setTop (mkF m 10 #[.val (.ref b), .val (.int (1 : Int32)), .val (.int (0 : Int32)), .val (.int (2 : Int32))] [])) _
    refine XS.aloadN X0.here hx rfl (hb hby d_method_4_code_10) rfl rfl ?_
    show Steps _ _ _ (s₁.setTop (mkF m 11 #[.val (.ref b), .val (.int (1 : Int32)), .val (.int (0 : Int32)), .val (.int (2 : Int32))] [(.ref b)])) _
    refine XS.iloadN X0.here hx rfl (hb hby d_method_4_code_11) rfl ?_
    show Steps _ _ _ (s₁.setTop (mkF m 12 #[.val (.ref b), .val (.int (1 : Int32)), .val (.int (0 : Int32)), .val (.int (2 : Int32))] [(.int (1 : Int32)), (.ref b)])) _
    exact hq)
  obtain ⟨cl2, Ar2, -, S2, -, G2, -⟩ := id P0
  have hi2 := inb_of (j := (1 : Int32)) S2 ⟨by decide, by decide⟩
  have st2 := fun tt => X0.caload hx (j := (1 : Int32)) (v := (.int d1)) (by rw [e0]; exact Ar2.1) (State.isArrayOf_alike hZ.alike Ar2.2.1) Ar2.2.2 hi2 (G2.at hi2 rfl) (g := (mkF m 12 #[.val (.ref b), .val (.int (1 : Int32)), .val (.int (0 : Int32)), .val (.int (2 : Int32))] [(.int (1 : Int32)), (.ref b)])) rfl rfl (hb hby d_method_4_code_12) tt
  have k2 : To p.tables e below S0 (s₁.setTop (mkF m 13 #[.val (.ref b), .val (.int (1 : Int32)), .val (.int (0 : Int32)), .val (.int (2 : Int32))] [(.int d1)])) := fun tt hq => k1 tt (st2 tt hq)
  have k3 : To p.tables e below S0 (s₁.setTop (mkF m 15 #[.val (.ref b), .val (.int (1 : Int32)), .val (.int (0 : Int32)), .val (.int (2 : Int32))] [(.int (48 : Int32)), (.int d1)])) := fun tt hq => k2 tt (by
    show Steps _ _ _ (s₁.setTop (mkF m 13 #[.val (.ref b), .val (.int (1 : Int32)), .val (.int (0 : Int32)), .val (.int (2 : Int32))] [(.int d1)])) _
    refine XS.bipush X0.here hx rfl (hb hby d_method_4_code_13) ?_
    show Steps _ _ _ (s₁.setTop (mkF m 15 #[.val (.ref b), .val (.int (1 : Int32)), .val (.int (0 : Int32)), .val (.int (2 : Int32))] [(.int (48 : Int32)), (.int d1)])) _
    exact hq)
  by_cases hc15_4 : d1 = (48 : Int32)
  · -- pc 15, holds
    have k5 : To p.tables e below S0 (s₁.setTop (mkF m 23 #[.val (.ref b), .val (.int (1 : Int32)), .val (.int (0 : Int32)), .val (.int (2 : Int32))] [(.int (0 : Int32))])) := fun tt hq => k3 tt (by
      show Steps _ _ _ (s₁.setTop (mkF m 15 #[.val (.ref b), .val (.int (1 : Int32)), .val (.int (0 : Int32)), .val (.int (2 : Int32))] [(.int (48 : Int32)), (.int d1)])) _
      refine XS.icmpYes X0.here hx rfl (pc0 := 15) (pc' := 22) rfl (hb hby d_method_4_code_15) rfl (teq hc15_4).1 (by decide) (by decide) ?_
      show Steps _ _ _ (s₁.setTop (mkF m 22 #[.val (.ref b), .val (.int (1 : Int32)), .val (.int (0 : Int32)), .val (.int (2 : Int32))] [])) _
      refine XS.iconst X0.here hx rfl (hb hby d_method_4_code_22) ?_
      show Steps _ _ _ (s₁.setTop (mkF m 23 #[.val (.ref b), .val (.int (1 : Int32)), .val (.int (0 : Int32)), .val (.int (2 : Int32))] [(.int (0 : Int32))])) _
      exact hq)
    have hE := e0
    refine retInt X0 hx hret hlk (by simp) rfl (hb hby d_method_4_code_23) k5 ?_ (by decide) (by decide)
    try rw [hE]
    exact ⟨by rw [← hr, if_pos hc15_4], N0, rfl⟩
  · -- pc 15, holds not
    have k6 : To p.tables e below S0 (s₁.setTop (mkF m 23 #[.val (.ref b), .val (.int (1 : Int32)), .val (.int (0 : Int32)), .val (.int (2 : Int32))] [(.int (1 : Int32))])) := fun tt hq => k3 tt (by
      show Steps _ _ _ (s₁.setTop (mkF m 15 #[.val (.ref b), .val (.int (1 : Int32)), .val (.int (0 : Int32)), .val (.int (2 : Int32))] [(.int (48 : Int32)), (.int d1)])) _
      refine XS.icmpNo X0.here hx rfl (hb hby d_method_4_code_15) rfl (feq hc15_4).1 ?_
      show Steps _ _ _ (s₁.setTop (mkF m 18 #[.val (.ref b), .val (.int (1 : Int32)), .val (.int (0 : Int32)), .val (.int (2 : Int32))] [])) _
      refine XS.iconst X0.here hx rfl (hb hby d_method_4_code_18) ?_
      show Steps _ _ _ (s₁.setTop (mkF m 19 #[.val (.ref b), .val (.int (1 : Int32)), .val (.int (0 : Int32)), .val (.int (2 : Int32))] [(.int (1 : Int32))])) _
      refine XS.goto X0.here hx rfl (pc0 := 19) (pc' := 23) rfl (hb hby d_method_4_code_19) (by decide) (by decide) ?_
      show Steps _ _ _ (s₁.setTop (mkF m 23 #[.val (.ref b), .val (.int (1 : Int32)), .val (.int (0 : Int32)), .val (.int (2 : Int32))] [(.int (1 : Int32))])) _
      exact hq)
    have hE := e0
    refine retInt X0 hx hret hlk (by simp) rfl (hb hby d_method_4_code_23) k6 ?_ (by decide) (by decide)
    try rw [hE]
    exact ⟨by rw [← hr, if_neg hc15_4], N0, rfl⟩
set_option maxRecDepth 65536 in
set_option maxHeartbeats 40000000 in
theorem rm_st2_0_2 (l : Launch) (Z : State) (a0 : Array Value) (hw : ∀ d ∈ tables_1, d.before a0 Z = true) (b : Addr) (kb : ClassId) (d0 : Int32) (d1 : Int32) (d2 : Int32) (d3 : Int32) (r : Int32) (h0 : Heap) (n0 : Nat) (hn0 : n0 ≤ h0.size) (P0 : Arv Z h0 b kb .char (4 : Int32) [(.int d0), (.int d1), (.int d2), (.int d3)] (.int (0 : Int32))) (hr : (0 : Int32) = r) :
    Con l Z (⟨"com/example/apportion/apportion/input/DecimalsFirstWholeDigitPinLaw", "stops", "([CIII)Z"⟩ : MethodName) method_4_code 4 (some .boolean) [] ({ frames := 0, cells := 0, slots := 0, locals := 0 } : Room) #[(.ref b), (.int (2 : Int32)), (.int (0 : Int32)), (.int (2 : Int32))] h0 (fun v h L => v = some (.int r) ∧ Fr n0 L ∧ h = h0) := by
  refine enter (Ls := #[.val (.ref b), .val (.int (2 : Int32)), .val (.int (0 : Int32)), .val (.int (2 : Int32))]) (plainFor_of_name pn_4) (fun m => by exact entry_eq rfl) ?_
  intro p e s m below meth cd_ s₁ S0 hx hby hml hret hlk hnm hown hZ X0 e0 k0
  have N0 := Fr.nil n0
  have k1 : To p.tables e below S0 (s₁.setTop (mkF m 23 #[.val (.ref b), .val (.int (2 : Int32)), .val (.int (0 : Int32)), .val (.int (2 : Int32))] [(.int (0 : Int32))])) := fun tt hq => k0 tt (by
    show Steps _ _ _ (s₁.setTop (mkF m 0 #[.val (.ref b), .val (.int (2 : Int32)), .val (.int (0 : Int32)), .val (.int (2 : Int32))] [])) _
    refine XS.iloadN X0.here hx rfl (hb hby d_method_4_code_0) rfl ?_
    show Steps _ _ _ (s₁.setTop (mkF m 1 #[.val (.ref b), .val (.int (2 : Int32)), .val (.int (0 : Int32)), .val (.int (2 : Int32))] [(.int (2 : Int32))])) _
    refine XS.iloadN X0.here hx rfl (hb hby d_method_4_code_1) rfl ?_
    show Steps _ _ _ (s₁.setTop (mkF m 2 #[.val (.ref b), .val (.int (2 : Int32)), .val (.int (0 : Int32)), .val (.int (2 : Int32))] [(.int (0 : Int32)), (.int (2 : Int32))])) _
    refine XS.icmpNo X0.here hx rfl (hb hby d_method_4_code_2) rfl (flt (by decide)).1 ?_
    show Steps _ _ _ (s₁.setTop (mkF m 5 #[.val (.ref b), .val (.int (2 : Int32)), .val (.int (0 : Int32)), .val (.int (2 : Int32))] [])) _
    refine XS.iloadN X0.here hx rfl (hb hby d_method_4_code_5) rfl ?_
    show Steps _ _ _ (s₁.setTop (mkF m 6 #[.val (.ref b), .val (.int (2 : Int32)), .val (.int (0 : Int32)), .val (.int (2 : Int32))] [(.int (2 : Int32))])) _
    refine XS.iloadN X0.here hx rfl (hb hby d_method_4_code_6) rfl ?_
    show Steps _ _ _ (s₁.setTop (mkF m 7 #[.val (.ref b), .val (.int (2 : Int32)), .val (.int (0 : Int32)), .val (.int (2 : Int32))] [(.int (2 : Int32)), (.int (2 : Int32))])) _
    refine XS.icmpYes X0.here hx rfl (pc0 := 7) (pc' := 22) rfl (hb hby d_method_4_code_7) rfl (flt (by decide)).2.1 (by decide) (by decide) ?_
    show Steps _ _ _ (s₁.setTop (mkF m 22 #[.val (.ref b), .val (.int (2 : Int32)), .val (.int (0 : Int32)), .val (.int (2 : Int32))] [])) _
    refine XS.iconst X0.here hx rfl (hb hby d_method_4_code_22) ?_
    show Steps _ _ _ (s₁.setTop (mkF m 23 #[.val (.ref b), .val (.int (2 : Int32)), .val (.int (0 : Int32)), .val (.int (2 : Int32))] [(.int (0 : Int32))])) _
    exact hq)
  have hE := e0
  refine retInt X0 hx hret hlk (by simp) rfl (hb hby d_method_4_code_23) k1 ?_ (by decide) (by decide)
  try rw [hE]
  exact ⟨by rw [← hr], N0, rfl⟩
set_option maxRecDepth 65536 in
set_option maxHeartbeats 40000000 in
theorem rm_st3_0_2 (l : Launch) (Z : State) (a0 : Array Value) (hw : ∀ d ∈ tables_1, d.before a0 Z = true) (b : Addr) (kb : ClassId) (d0 : Int32) (d1 : Int32) (d2 : Int32) (d3 : Int32) (r : Int32) (h0 : Heap) (n0 : Nat) (hn0 : n0 ≤ h0.size) (P0 : Arv Z h0 b kb .char (4 : Int32) [(.int d0), (.int d1), (.int d2), (.int d3)] (.int (0 : Int32))) (hr : (0 : Int32) = r) :
    Con l Z (⟨"com/example/apportion/apportion/input/DecimalsFirstWholeDigitPinLaw", "stops", "([CIII)Z"⟩ : MethodName) method_4_code 4 (some .boolean) [] ({ frames := 0, cells := 0, slots := 0, locals := 0 } : Room) #[(.ref b), (.int (3 : Int32)), (.int (0 : Int32)), (.int (2 : Int32))] h0 (fun v h L => v = some (.int r) ∧ Fr n0 L ∧ h = h0) := by
  refine enter (Ls := #[.val (.ref b), .val (.int (3 : Int32)), .val (.int (0 : Int32)), .val (.int (2 : Int32))]) (plainFor_of_name pn_4) (fun m => by exact entry_eq rfl) ?_
  intro p e s m below meth cd_ s₁ S0 hx hby hml hret hlk hnm hown hZ X0 e0 k0
  have N0 := Fr.nil n0
  have k1 : To p.tables e below S0 (s₁.setTop (mkF m 23 #[.val (.ref b), .val (.int (3 : Int32)), .val (.int (0 : Int32)), .val (.int (2 : Int32))] [(.int (0 : Int32))])) := fun tt hq => k0 tt (by
    show Steps _ _ _ (s₁.setTop (mkF m 0 #[.val (.ref b), .val (.int (3 : Int32)), .val (.int (0 : Int32)), .val (.int (2 : Int32))] [])) _
    refine XS.iloadN X0.here hx rfl (hb hby d_method_4_code_0) rfl ?_
    show Steps _ _ _ (s₁.setTop (mkF m 1 #[.val (.ref b), .val (.int (3 : Int32)), .val (.int (0 : Int32)), .val (.int (2 : Int32))] [(.int (3 : Int32))])) _
    refine XS.iloadN X0.here hx rfl (hb hby d_method_4_code_1) rfl ?_
    show Steps _ _ _ (s₁.setTop (mkF m 2 #[.val (.ref b), .val (.int (3 : Int32)), .val (.int (0 : Int32)), .val (.int (2 : Int32))] [(.int (0 : Int32)), (.int (3 : Int32))])) _
    refine XS.icmpNo X0.here hx rfl (hb hby d_method_4_code_2) rfl (flt (by decide)).1 ?_
    show Steps _ _ _ (s₁.setTop (mkF m 5 #[.val (.ref b), .val (.int (3 : Int32)), .val (.int (0 : Int32)), .val (.int (2 : Int32))] [])) _
    refine XS.iloadN X0.here hx rfl (hb hby d_method_4_code_5) rfl ?_
    show Steps _ _ _ (s₁.setTop (mkF m 6 #[.val (.ref b), .val (.int (3 : Int32)), .val (.int (0 : Int32)), .val (.int (2 : Int32))] [(.int (3 : Int32))])) _
    refine XS.iloadN X0.here hx rfl (hb hby d_method_4_code_6) rfl ?_
    show Steps _ _ _ (s₁.setTop (mkF m 7 #[.val (.ref b), .val (.int (3 : Int32)), .val (.int (0 : Int32)), .val (.int (2 : Int32))] [(.int (2 : Int32)), (.int (3 : Int32))])) _
    refine XS.icmpYes X0.here hx rfl (pc0 := 7) (pc' := 22) rfl (hb hby d_method_4_code_7) rfl (flt (by decide)).2.1 (by decide) (by decide) ?_
    show Steps _ _ _ (s₁.setTop (mkF m 22 #[.val (.ref b), .val (.int (3 : Int32)), .val (.int (0 : Int32)), .val (.int (2 : Int32))] [])) _
    refine XS.iconst X0.here hx rfl (hb hby d_method_4_code_22) ?_
    show Steps _ _ _ (s₁.setTop (mkF m 23 #[.val (.ref b), .val (.int (3 : Int32)), .val (.int (0 : Int32)), .val (.int (2 : Int32))] [(.int (0 : Int32))])) _
    exact hq)
  have hE := e0
  refine retInt X0 hx hret hlk (by simp) rfl (hb hby d_method_4_code_23) k1 ?_ (by decide) (by decide)
  try rw [hE]
  exact ⟨by rw [← hr], N0, rfl⟩
set_option maxRecDepth 65536 in
set_option maxHeartbeats 40000000 in
theorem rm_st0_0_3 (l : Launch) (Z : State) (a0 : Array Value) (hw : ∀ d ∈ tables_1, d.before a0 Z = true) (b : Addr) (kb : ClassId) (d0 : Int32) (d1 : Int32) (d2 : Int32) (d3 : Int32) (r : Int32) (h0 : Heap) (n0 : Nat) (hn0 : n0 ≤ h0.size) (P0 : Arv Z h0 b kb .char (4 : Int32) [(.int d0), (.int d1), (.int d2), (.int d3)] (.int (0 : Int32))) (hr : (if d0 = (48 : Int32) then (0 : Int32) else 1) = r) :
    Con l Z (⟨"com/example/apportion/apportion/input/DecimalsFirstWholeDigitPinLaw", "stops", "([CIII)Z"⟩ : MethodName) method_4_code 4 (some .boolean) [] ({ frames := 0, cells := 0, slots := 0, locals := 0 } : Room) #[(.ref b), (.int (0 : Int32)), (.int (0 : Int32)), (.int (3 : Int32))] h0 (fun v h L => v = some (.int r) ∧ Fr n0 L ∧ h = h0) := by
  refine enter (Ls := #[.val (.ref b), .val (.int (0 : Int32)), .val (.int (0 : Int32)), .val (.int (3 : Int32))]) (plainFor_of_name pn_4) (fun m => by exact entry_eq rfl) ?_
  intro p e s m below meth cd_ s₁ S0 hx hby hml hret hlk hnm hown hZ X0 e0 k0
  have N0 := Fr.nil n0
  have k1 : To p.tables e below S0 (s₁.setTop (mkF m 12 #[.val (.ref b), .val (.int (0 : Int32)), .val (.int (0 : Int32)), .val (.int (3 : Int32))] [(.int (0 : Int32)), (.ref b)])) := fun tt hq => k0 tt (by
    show Steps _ _ _ (s₁.setTop (mkF m 0 #[.val (.ref b), .val (.int (0 : Int32)), .val (.int (0 : Int32)), .val (.int (3 : Int32))] [])) _
    refine XS.iloadN X0.here hx rfl (hb hby d_method_4_code_0) rfl ?_
    show Steps _ _ _ (s₁.setTop (mkF m 1 #[.val (.ref b), .val (.int (0 : Int32)), .val (.int (0 : Int32)), .val (.int (3 : Int32))] [(.int (0 : Int32))])) _
    refine XS.iloadN X0.here hx rfl (hb hby d_method_4_code_1) rfl ?_
    show Steps _ _ _ (s₁.setTop (mkF m 2 #[.val (.ref b), .val (.int (0 : Int32)), .val (.int (0 : Int32)), .val (.int (3 : Int32))] [(.int (0 : Int32)), (.int (0 : Int32))])) _
    refine XS.icmpNo X0.here hx rfl (hb hby d_method_4_code_2) rfl (flt (by decide)).1 ?_
    show Steps _ _ _ (s₁.setTop (mkF m 5 #[.val (.ref b), .val (.int (0 : Int32)), .val (.int (0 : Int32)), .val (.int (3 : Int32))] [])) _
    refine XS.iloadN X0.here hx rfl (hb hby d_method_4_code_5) rfl ?_
    show Steps _ _ _ (s₁.setTop (mkF m 6 #[.val (.ref b), .val (.int (0 : Int32)), .val (.int (0 : Int32)), .val (.int (3 : Int32))] [(.int (0 : Int32))])) _
    refine XS.iloadN X0.here hx rfl (hb hby d_method_4_code_6) rfl ?_
    show Steps _ _ _ (s₁.setTop (mkF m 7 #[.val (.ref b), .val (.int (0 : Int32)), .val (.int (0 : Int32)), .val (.int (3 : Int32))] [(.int (3 : Int32)), (.int (0 : Int32))])) _
    refine XS.icmpNo X0.here hx rfl (hb hby d_method_4_code_7) rfl (tlt (by decide)).2.1 ?_
    show Steps _ _ _ (s₁.setTop (mkF m 10 #[.val (.ref b), .val (.int (0 : Int32)), .val (.int (0 : Int32)), .val (.int (3 : Int32))] [])) _
    refine XS.aloadN X0.here hx rfl (hb hby d_method_4_code_10) rfl rfl ?_
    show Steps _ _ _ (s₁.setTop (mkF m 11 #[.val (.ref b), .val (.int (0 : Int32)), .val (.int (0 : Int32)), .val (.int (3 : Int32))] [(.ref b)])) _
    refine XS.iloadN X0.here hx rfl (hb hby d_method_4_code_11) rfl ?_
    show Steps _ _ _ (s₁.setTop (mkF m 12 #[.val (.ref b), .val (.int (0 : Int32)), .val (.int (0 : Int32)), .val (.int (3 : Int32))] [(.int (0 : Int32)), (.ref b)])) _
    exact hq)
  obtain ⟨cl2, Ar2, -, S2, -, G2, -⟩ := id P0
  have hi2 := inb_of (j := (0 : Int32)) S2 ⟨by decide, by decide⟩
  have st2 := fun tt => X0.caload hx (j := (0 : Int32)) (v := (.int d0)) (by rw [e0]; exact Ar2.1) (State.isArrayOf_alike hZ.alike Ar2.2.1) Ar2.2.2 hi2 (G2.at hi2 rfl) (g := (mkF m 12 #[.val (.ref b), .val (.int (0 : Int32)), .val (.int (0 : Int32)), .val (.int (3 : Int32))] [(.int (0 : Int32)), (.ref b)])) rfl rfl (hb hby d_method_4_code_12) tt
  have k2 : To p.tables e below S0 (s₁.setTop (mkF m 13 #[.val (.ref b), .val (.int (0 : Int32)), .val (.int (0 : Int32)), .val (.int (3 : Int32))] [(.int d0)])) := fun tt hq => k1 tt (st2 tt hq)
  have k3 : To p.tables e below S0 (s₁.setTop (mkF m 15 #[.val (.ref b), .val (.int (0 : Int32)), .val (.int (0 : Int32)), .val (.int (3 : Int32))] [(.int (48 : Int32)), (.int d0)])) := fun tt hq => k2 tt (by
    show Steps _ _ _ (s₁.setTop (mkF m 13 #[.val (.ref b), .val (.int (0 : Int32)), .val (.int (0 : Int32)), .val (.int (3 : Int32))] [(.int d0)])) _
    refine XS.bipush X0.here hx rfl (hb hby d_method_4_code_13) ?_
    show Steps _ _ _ (s₁.setTop (mkF m 15 #[.val (.ref b), .val (.int (0 : Int32)), .val (.int (0 : Int32)), .val (.int (3 : Int32))] [(.int (48 : Int32)), (.int d0)])) _
    exact hq)
  by_cases hc15_4 : d0 = (48 : Int32)
  · -- pc 15, holds
    have k5 : To p.tables e below S0 (s₁.setTop (mkF m 23 #[.val (.ref b), .val (.int (0 : Int32)), .val (.int (0 : Int32)), .val (.int (3 : Int32))] [(.int (0 : Int32))])) := fun tt hq => k3 tt (by
      show Steps _ _ _ (s₁.setTop (mkF m 15 #[.val (.ref b), .val (.int (0 : Int32)), .val (.int (0 : Int32)), .val (.int (3 : Int32))] [(.int (48 : Int32)), (.int d0)])) _
      refine XS.icmpYes X0.here hx rfl (pc0 := 15) (pc' := 22) rfl (hb hby d_method_4_code_15) rfl (teq hc15_4).1 (by decide) (by decide) ?_
      show Steps _ _ _ (s₁.setTop (mkF m 22 #[.val (.ref b), .val (.int (0 : Int32)), .val (.int (0 : Int32)), .val (.int (3 : Int32))] [])) _
      refine XS.iconst X0.here hx rfl (hb hby d_method_4_code_22) ?_
      show Steps _ _ _ (s₁.setTop (mkF m 23 #[.val (.ref b), .val (.int (0 : Int32)), .val (.int (0 : Int32)), .val (.int (3 : Int32))] [(.int (0 : Int32))])) _
      exact hq)
    have hE := e0
    refine retInt X0 hx hret hlk (by simp) rfl (hb hby d_method_4_code_23) k5 ?_ (by decide) (by decide)
    try rw [hE]
    exact ⟨by rw [← hr, if_pos hc15_4], N0, rfl⟩
  · -- pc 15, holds not
    have k6 : To p.tables e below S0 (s₁.setTop (mkF m 23 #[.val (.ref b), .val (.int (0 : Int32)), .val (.int (0 : Int32)), .val (.int (3 : Int32))] [(.int (1 : Int32))])) := fun tt hq => k3 tt (by
      show Steps _ _ _ (s₁.setTop (mkF m 15 #[.val (.ref b), .val (.int (0 : Int32)), .val (.int (0 : Int32)), .val (.int (3 : Int32))] [(.int (48 : Int32)), (.int d0)])) _
      refine XS.icmpNo X0.here hx rfl (hb hby d_method_4_code_15) rfl (feq hc15_4).1 ?_
      show Steps _ _ _ (s₁.setTop (mkF m 18 #[.val (.ref b), .val (.int (0 : Int32)), .val (.int (0 : Int32)), .val (.int (3 : Int32))] [])) _
      refine XS.iconst X0.here hx rfl (hb hby d_method_4_code_18) ?_
      show Steps _ _ _ (s₁.setTop (mkF m 19 #[.val (.ref b), .val (.int (0 : Int32)), .val (.int (0 : Int32)), .val (.int (3 : Int32))] [(.int (1 : Int32))])) _
      refine XS.goto X0.here hx rfl (pc0 := 19) (pc' := 23) rfl (hb hby d_method_4_code_19) (by decide) (by decide) ?_
      show Steps _ _ _ (s₁.setTop (mkF m 23 #[.val (.ref b), .val (.int (0 : Int32)), .val (.int (0 : Int32)), .val (.int (3 : Int32))] [(.int (1 : Int32))])) _
      exact hq)
    have hE := e0
    refine retInt X0 hx hret hlk (by simp) rfl (hb hby d_method_4_code_23) k6 ?_ (by decide) (by decide)
    try rw [hE]
    exact ⟨by rw [← hr, if_neg hc15_4], N0, rfl⟩
set_option maxRecDepth 65536 in
set_option maxHeartbeats 40000000 in
theorem rm_st1_0_3 (l : Launch) (Z : State) (a0 : Array Value) (hw : ∀ d ∈ tables_1, d.before a0 Z = true) (b : Addr) (kb : ClassId) (d0 : Int32) (d1 : Int32) (d2 : Int32) (d3 : Int32) (r : Int32) (h0 : Heap) (n0 : Nat) (hn0 : n0 ≤ h0.size) (P0 : Arv Z h0 b kb .char (4 : Int32) [(.int d0), (.int d1), (.int d2), (.int d3)] (.int (0 : Int32))) (hr : (if d1 = (48 : Int32) then (0 : Int32) else 1) = r) :
    Con l Z (⟨"com/example/apportion/apportion/input/DecimalsFirstWholeDigitPinLaw", "stops", "([CIII)Z"⟩ : MethodName) method_4_code 4 (some .boolean) [] ({ frames := 0, cells := 0, slots := 0, locals := 0 } : Room) #[(.ref b), (.int (1 : Int32)), (.int (0 : Int32)), (.int (3 : Int32))] h0 (fun v h L => v = some (.int r) ∧ Fr n0 L ∧ h = h0) := by
  refine enter (Ls := #[.val (.ref b), .val (.int (1 : Int32)), .val (.int (0 : Int32)), .val (.int (3 : Int32))]) (plainFor_of_name pn_4) (fun m => by exact entry_eq rfl) ?_
  intro p e s m below meth cd_ s₁ S0 hx hby hml hret hlk hnm hown hZ X0 e0 k0
  have N0 := Fr.nil n0
  have k1 : To p.tables e below S0 (s₁.setTop (mkF m 12 #[.val (.ref b), .val (.int (1 : Int32)), .val (.int (0 : Int32)), .val (.int (3 : Int32))] [(.int (1 : Int32)), (.ref b)])) := fun tt hq => k0 tt (by
    show Steps _ _ _ (s₁.setTop (mkF m 0 #[.val (.ref b), .val (.int (1 : Int32)), .val (.int (0 : Int32)), .val (.int (3 : Int32))] [])) _
    refine XS.iloadN X0.here hx rfl (hb hby d_method_4_code_0) rfl ?_
    show Steps _ _ _ (s₁.setTop (mkF m 1 #[.val (.ref b), .val (.int (1 : Int32)), .val (.int (0 : Int32)), .val (.int (3 : Int32))] [(.int (1 : Int32))])) _
    refine XS.iloadN X0.here hx rfl (hb hby d_method_4_code_1) rfl ?_
    show Steps _ _ _ (s₁.setTop (mkF m 2 #[.val (.ref b), .val (.int (1 : Int32)), .val (.int (0 : Int32)), .val (.int (3 : Int32))] [(.int (0 : Int32)), (.int (1 : Int32))])) _
    refine XS.icmpNo X0.here hx rfl (hb hby d_method_4_code_2) rfl (flt (by decide)).1 ?_
    show Steps _ _ _ (s₁.setTop (mkF m 5 #[.val (.ref b), .val (.int (1 : Int32)), .val (.int (0 : Int32)), .val (.int (3 : Int32))] [])) _
    refine XS.iloadN X0.here hx rfl (hb hby d_method_4_code_5) rfl ?_
    show Steps _ _ _ (s₁.setTop (mkF m 6 #[.val (.ref b), .val (.int (1 : Int32)), .val (.int (0 : Int32)), .val (.int (3 : Int32))] [(.int (1 : Int32))])) _
    refine XS.iloadN X0.here hx rfl (hb hby d_method_4_code_6) rfl ?_
    show Steps _ _ _ (s₁.setTop (mkF m 7 #[.val (.ref b), .val (.int (1 : Int32)), .val (.int (0 : Int32)), .val (.int (3 : Int32))] [(.int (3 : Int32)), (.int (1 : Int32))])) _
    refine XS.icmpNo X0.here hx rfl (hb hby d_method_4_code_7) rfl (tlt (by decide)).2.1 ?_
    show Steps _ _ _ (s₁.setTop (mkF m 10 #[.val (.ref b), .val (.int (1 : Int32)), .val (.int (0 : Int32)), .val (.int (3 : Int32))] [])) _
    refine XS.aloadN X0.here hx rfl (hb hby d_method_4_code_10) rfl rfl ?_
    show Steps _ _ _ (s₁.setTop (mkF m 11 #[.val (.ref b), .val (.int (1 : Int32)), .val (.int (0 : Int32)), .val (.int (3 : Int32))] [(.ref b)])) _
    refine XS.iloadN X0.here hx rfl (hb hby d_method_4_code_11) rfl ?_
    show Steps _ _ _ (s₁.setTop (mkF m 12 #[.val (.ref b), .val (.int (1 : Int32)), .val (.int (0 : Int32)), .val (.int (3 : Int32))] [(.int (1 : Int32)), (.ref b)])) _
    exact hq)
  obtain ⟨cl2, Ar2, -, S2, -, G2, -⟩ := id P0
  have hi2 := inb_of (j := (1 : Int32)) S2 ⟨by decide, by decide⟩
  have st2 := fun tt => X0.caload hx (j := (1 : Int32)) (v := (.int d1)) (by rw [e0]; exact Ar2.1) (State.isArrayOf_alike hZ.alike Ar2.2.1) Ar2.2.2 hi2 (G2.at hi2 rfl) (g := (mkF m 12 #[.val (.ref b), .val (.int (1 : Int32)), .val (.int (0 : Int32)), .val (.int (3 : Int32))] [(.int (1 : Int32)), (.ref b)])) rfl rfl (hb hby d_method_4_code_12) tt
  have k2 : To p.tables e below S0 (s₁.setTop (mkF m 13 #[.val (.ref b), .val (.int (1 : Int32)), .val (.int (0 : Int32)), .val (.int (3 : Int32))] [(.int d1)])) := fun tt hq => k1 tt (st2 tt hq)
  have k3 : To p.tables e below S0 (s₁.setTop (mkF m 15 #[.val (.ref b), .val (.int (1 : Int32)), .val (.int (0 : Int32)), .val (.int (3 : Int32))] [(.int (48 : Int32)), (.int d1)])) := fun tt hq => k2 tt (by
    show Steps _ _ _ (s₁.setTop (mkF m 13 #[.val (.ref b), .val (.int (1 : Int32)), .val (.int (0 : Int32)), .val (.int (3 : Int32))] [(.int d1)])) _
    refine XS.bipush X0.here hx rfl (hb hby d_method_4_code_13) ?_
    show Steps _ _ _ (s₁.setTop (mkF m 15 #[.val (.ref b), .val (.int (1 : Int32)), .val (.int (0 : Int32)), .val (.int (3 : Int32))] [(.int (48 : Int32)), (.int d1)])) _
    exact hq)
  by_cases hc15_4 : d1 = (48 : Int32)
  · -- pc 15, holds
    have k5 : To p.tables e below S0 (s₁.setTop (mkF m 23 #[.val (.ref b), .val (.int (1 : Int32)), .val (.int (0 : Int32)), .val (.int (3 : Int32))] [(.int (0 : Int32))])) := fun tt hq => k3 tt (by
      show Steps _ _ _ (s₁.setTop (mkF m 15 #[.val (.ref b), .val (.int (1 : Int32)), .val (.int (0 : Int32)), .val (.int (3 : Int32))] [(.int (48 : Int32)), (.int d1)])) _
      refine XS.icmpYes X0.here hx rfl (pc0 := 15) (pc' := 22) rfl (hb hby d_method_4_code_15) rfl (teq hc15_4).1 (by decide) (by decide) ?_
      show Steps _ _ _ (s₁.setTop (mkF m 22 #[.val (.ref b), .val (.int (1 : Int32)), .val (.int (0 : Int32)), .val (.int (3 : Int32))] [])) _
      refine XS.iconst X0.here hx rfl (hb hby d_method_4_code_22) ?_
      show Steps _ _ _ (s₁.setTop (mkF m 23 #[.val (.ref b), .val (.int (1 : Int32)), .val (.int (0 : Int32)), .val (.int (3 : Int32))] [(.int (0 : Int32))])) _
      exact hq)
    have hE := e0
    refine retInt X0 hx hret hlk (by simp) rfl (hb hby d_method_4_code_23) k5 ?_ (by decide) (by decide)
    try rw [hE]
    exact ⟨by rw [← hr, if_pos hc15_4], N0, rfl⟩
  · -- pc 15, holds not
    have k6 : To p.tables e below S0 (s₁.setTop (mkF m 23 #[.val (.ref b), .val (.int (1 : Int32)), .val (.int (0 : Int32)), .val (.int (3 : Int32))] [(.int (1 : Int32))])) := fun tt hq => k3 tt (by
      show Steps _ _ _ (s₁.setTop (mkF m 15 #[.val (.ref b), .val (.int (1 : Int32)), .val (.int (0 : Int32)), .val (.int (3 : Int32))] [(.int (48 : Int32)), (.int d1)])) _
      refine XS.icmpNo X0.here hx rfl (hb hby d_method_4_code_15) rfl (feq hc15_4).1 ?_
      show Steps _ _ _ (s₁.setTop (mkF m 18 #[.val (.ref b), .val (.int (1 : Int32)), .val (.int (0 : Int32)), .val (.int (3 : Int32))] [])) _
      refine XS.iconst X0.here hx rfl (hb hby d_method_4_code_18) ?_
      show Steps _ _ _ (s₁.setTop (mkF m 19 #[.val (.ref b), .val (.int (1 : Int32)), .val (.int (0 : Int32)), .val (.int (3 : Int32))] [(.int (1 : Int32))])) _
      refine XS.goto X0.here hx rfl (pc0 := 19) (pc' := 23) rfl (hb hby d_method_4_code_19) (by decide) (by decide) ?_
      show Steps _ _ _ (s₁.setTop (mkF m 23 #[.val (.ref b), .val (.int (1 : Int32)), .val (.int (0 : Int32)), .val (.int (3 : Int32))] [(.int (1 : Int32))])) _
      exact hq)
    have hE := e0
    refine retInt X0 hx hret hlk (by simp) rfl (hb hby d_method_4_code_23) k6 ?_ (by decide) (by decide)
    try rw [hE]
    exact ⟨by rw [← hr, if_neg hc15_4], N0, rfl⟩
set_option maxRecDepth 65536 in
set_option maxHeartbeats 40000000 in
theorem rm_st2_0_3 (l : Launch) (Z : State) (a0 : Array Value) (hw : ∀ d ∈ tables_1, d.before a0 Z = true) (b : Addr) (kb : ClassId) (d0 : Int32) (d1 : Int32) (d2 : Int32) (d3 : Int32) (r : Int32) (h0 : Heap) (n0 : Nat) (hn0 : n0 ≤ h0.size) (P0 : Arv Z h0 b kb .char (4 : Int32) [(.int d0), (.int d1), (.int d2), (.int d3)] (.int (0 : Int32))) (hr : (if d2 = (48 : Int32) then (0 : Int32) else 1) = r) :
    Con l Z (⟨"com/example/apportion/apportion/input/DecimalsFirstWholeDigitPinLaw", "stops", "([CIII)Z"⟩ : MethodName) method_4_code 4 (some .boolean) [] ({ frames := 0, cells := 0, slots := 0, locals := 0 } : Room) #[(.ref b), (.int (2 : Int32)), (.int (0 : Int32)), (.int (3 : Int32))] h0 (fun v h L => v = some (.int r) ∧ Fr n0 L ∧ h = h0) := by
  refine enter (Ls := #[.val (.ref b), .val (.int (2 : Int32)), .val (.int (0 : Int32)), .val (.int (3 : Int32))]) (plainFor_of_name pn_4) (fun m => by exact entry_eq rfl) ?_
  intro p e s m below meth cd_ s₁ S0 hx hby hml hret hlk hnm hown hZ X0 e0 k0
  have N0 := Fr.nil n0
  have k1 : To p.tables e below S0 (s₁.setTop (mkF m 12 #[.val (.ref b), .val (.int (2 : Int32)), .val (.int (0 : Int32)), .val (.int (3 : Int32))] [(.int (2 : Int32)), (.ref b)])) := fun tt hq => k0 tt (by
    show Steps _ _ _ (s₁.setTop (mkF m 0 #[.val (.ref b), .val (.int (2 : Int32)), .val (.int (0 : Int32)), .val (.int (3 : Int32))] [])) _
    refine XS.iloadN X0.here hx rfl (hb hby d_method_4_code_0) rfl ?_
    show Steps _ _ _ (s₁.setTop (mkF m 1 #[.val (.ref b), .val (.int (2 : Int32)), .val (.int (0 : Int32)), .val (.int (3 : Int32))] [(.int (2 : Int32))])) _
    refine XS.iloadN X0.here hx rfl (hb hby d_method_4_code_1) rfl ?_
    show Steps _ _ _ (s₁.setTop (mkF m 2 #[.val (.ref b), .val (.int (2 : Int32)), .val (.int (0 : Int32)), .val (.int (3 : Int32))] [(.int (0 : Int32)), (.int (2 : Int32))])) _
    refine XS.icmpNo X0.here hx rfl (hb hby d_method_4_code_2) rfl (flt (by decide)).1 ?_
    show Steps _ _ _ (s₁.setTop (mkF m 5 #[.val (.ref b), .val (.int (2 : Int32)), .val (.int (0 : Int32)), .val (.int (3 : Int32))] [])) _
    refine XS.iloadN X0.here hx rfl (hb hby d_method_4_code_5) rfl ?_
    show Steps _ _ _ (s₁.setTop (mkF m 6 #[.val (.ref b), .val (.int (2 : Int32)), .val (.int (0 : Int32)), .val (.int (3 : Int32))] [(.int (2 : Int32))])) _
    refine XS.iloadN X0.here hx rfl (hb hby d_method_4_code_6) rfl ?_
    show Steps _ _ _ (s₁.setTop (mkF m 7 #[.val (.ref b), .val (.int (2 : Int32)), .val (.int (0 : Int32)), .val (.int (3 : Int32))] [(.int (3 : Int32)), (.int (2 : Int32))])) _
    refine XS.icmpNo X0.here hx rfl (hb hby d_method_4_code_7) rfl (tlt (by decide)).2.1 ?_
    show Steps _ _ _ (s₁.setTop (mkF m 10 #[.val (.ref b), .val (.int (2 : Int32)), .val (.int (0 : Int32)), .val (.int (3 : Int32))] [])) _
    refine XS.aloadN X0.here hx rfl (hb hby d_method_4_code_10) rfl rfl ?_
    show Steps _ _ _ (s₁.setTop (mkF m 11 #[.val (.ref b), .val (.int (2 : Int32)), .val (.int (0 : Int32)), .val (.int (3 : Int32))] [(.ref b)])) _
    refine XS.iloadN X0.here hx rfl (hb hby d_method_4_code_11) rfl ?_
    show Steps _ _ _ (s₁.setTop (mkF m 12 #[.val (.ref b), .val (.int (2 : Int32)), .val (.int (0 : Int32)), .val (.int (3 : Int32))] [(.int (2 : Int32)), (.ref b)])) _
    exact hq)
  obtain ⟨cl2, Ar2, -, S2, -, G2, -⟩ := id P0
  have hi2 := inb_of (j := (2 : Int32)) S2 ⟨by decide, by decide⟩
  have st2 := fun tt => X0.caload hx (j := (2 : Int32)) (v := (.int d2)) (by rw [e0]; exact Ar2.1) (State.isArrayOf_alike hZ.alike Ar2.2.1) Ar2.2.2 hi2 (G2.at hi2 rfl) (g := (mkF m 12 #[.val (.ref b), .val (.int (2 : Int32)), .val (.int (0 : Int32)), .val (.int (3 : Int32))] [(.int (2 : Int32)), (.ref b)])) rfl rfl (hb hby d_method_4_code_12) tt
  have k2 : To p.tables e below S0 (s₁.setTop (mkF m 13 #[.val (.ref b), .val (.int (2 : Int32)), .val (.int (0 : Int32)), .val (.int (3 : Int32))] [(.int d2)])) := fun tt hq => k1 tt (st2 tt hq)
  have k3 : To p.tables e below S0 (s₁.setTop (mkF m 15 #[.val (.ref b), .val (.int (2 : Int32)), .val (.int (0 : Int32)), .val (.int (3 : Int32))] [(.int (48 : Int32)), (.int d2)])) := fun tt hq => k2 tt (by
    show Steps _ _ _ (s₁.setTop (mkF m 13 #[.val (.ref b), .val (.int (2 : Int32)), .val (.int (0 : Int32)), .val (.int (3 : Int32))] [(.int d2)])) _
    refine XS.bipush X0.here hx rfl (hb hby d_method_4_code_13) ?_
    show Steps _ _ _ (s₁.setTop (mkF m 15 #[.val (.ref b), .val (.int (2 : Int32)), .val (.int (0 : Int32)), .val (.int (3 : Int32))] [(.int (48 : Int32)), (.int d2)])) _
    exact hq)
  by_cases hc15_4 : d2 = (48 : Int32)
  · -- pc 15, holds
    have k5 : To p.tables e below S0 (s₁.setTop (mkF m 23 #[.val (.ref b), .val (.int (2 : Int32)), .val (.int (0 : Int32)), .val (.int (3 : Int32))] [(.int (0 : Int32))])) := fun tt hq => k3 tt (by
      show Steps _ _ _ (s₁.setTop (mkF m 15 #[.val (.ref b), .val (.int (2 : Int32)), .val (.int (0 : Int32)), .val (.int (3 : Int32))] [(.int (48 : Int32)), (.int d2)])) _
      refine XS.icmpYes X0.here hx rfl (pc0 := 15) (pc' := 22) rfl (hb hby d_method_4_code_15) rfl (teq hc15_4).1 (by decide) (by decide) ?_
      show Steps _ _ _ (s₁.setTop (mkF m 22 #[.val (.ref b), .val (.int (2 : Int32)), .val (.int (0 : Int32)), .val (.int (3 : Int32))] [])) _
      refine XS.iconst X0.here hx rfl (hb hby d_method_4_code_22) ?_
      show Steps _ _ _ (s₁.setTop (mkF m 23 #[.val (.ref b), .val (.int (2 : Int32)), .val (.int (0 : Int32)), .val (.int (3 : Int32))] [(.int (0 : Int32))])) _
      exact hq)
    have hE := e0
    refine retInt X0 hx hret hlk (by simp) rfl (hb hby d_method_4_code_23) k5 ?_ (by decide) (by decide)
    try rw [hE]
    exact ⟨by rw [← hr, if_pos hc15_4], N0, rfl⟩
  · -- pc 15, holds not
    have k6 : To p.tables e below S0 (s₁.setTop (mkF m 23 #[.val (.ref b), .val (.int (2 : Int32)), .val (.int (0 : Int32)), .val (.int (3 : Int32))] [(.int (1 : Int32))])) := fun tt hq => k3 tt (by
      show Steps _ _ _ (s₁.setTop (mkF m 15 #[.val (.ref b), .val (.int (2 : Int32)), .val (.int (0 : Int32)), .val (.int (3 : Int32))] [(.int (48 : Int32)), (.int d2)])) _
      refine XS.icmpNo X0.here hx rfl (hb hby d_method_4_code_15) rfl (feq hc15_4).1 ?_
      show Steps _ _ _ (s₁.setTop (mkF m 18 #[.val (.ref b), .val (.int (2 : Int32)), .val (.int (0 : Int32)), .val (.int (3 : Int32))] [])) _
      refine XS.iconst X0.here hx rfl (hb hby d_method_4_code_18) ?_
      show Steps _ _ _ (s₁.setTop (mkF m 19 #[.val (.ref b), .val (.int (2 : Int32)), .val (.int (0 : Int32)), .val (.int (3 : Int32))] [(.int (1 : Int32))])) _
      refine XS.goto X0.here hx rfl (pc0 := 19) (pc' := 23) rfl (hb hby d_method_4_code_19) (by decide) (by decide) ?_
      show Steps _ _ _ (s₁.setTop (mkF m 23 #[.val (.ref b), .val (.int (2 : Int32)), .val (.int (0 : Int32)), .val (.int (3 : Int32))] [(.int (1 : Int32))])) _
      exact hq)
    have hE := e0
    refine retInt X0 hx hret hlk (by simp) rfl (hb hby d_method_4_code_23) k6 ?_ (by decide) (by decide)
    try rw [hE]
    exact ⟨by rw [← hr, if_neg hc15_4], N0, rfl⟩
set_option maxRecDepth 65536 in
set_option maxHeartbeats 40000000 in
theorem rm_st3_0_3 (l : Launch) (Z : State) (a0 : Array Value) (hw : ∀ d ∈ tables_1, d.before a0 Z = true) (b : Addr) (kb : ClassId) (d0 : Int32) (d1 : Int32) (d2 : Int32) (d3 : Int32) (r : Int32) (h0 : Heap) (n0 : Nat) (hn0 : n0 ≤ h0.size) (P0 : Arv Z h0 b kb .char (4 : Int32) [(.int d0), (.int d1), (.int d2), (.int d3)] (.int (0 : Int32))) (hr : (0 : Int32) = r) :
    Con l Z (⟨"com/example/apportion/apportion/input/DecimalsFirstWholeDigitPinLaw", "stops", "([CIII)Z"⟩ : MethodName) method_4_code 4 (some .boolean) [] ({ frames := 0, cells := 0, slots := 0, locals := 0 } : Room) #[(.ref b), (.int (3 : Int32)), (.int (0 : Int32)), (.int (3 : Int32))] h0 (fun v h L => v = some (.int r) ∧ Fr n0 L ∧ h = h0) := by
  refine enter (Ls := #[.val (.ref b), .val (.int (3 : Int32)), .val (.int (0 : Int32)), .val (.int (3 : Int32))]) (plainFor_of_name pn_4) (fun m => by exact entry_eq rfl) ?_
  intro p e s m below meth cd_ s₁ S0 hx hby hml hret hlk hnm hown hZ X0 e0 k0
  have N0 := Fr.nil n0
  have k1 : To p.tables e below S0 (s₁.setTop (mkF m 23 #[.val (.ref b), .val (.int (3 : Int32)), .val (.int (0 : Int32)), .val (.int (3 : Int32))] [(.int (0 : Int32))])) := fun tt hq => k0 tt (by
    show Steps _ _ _ (s₁.setTop (mkF m 0 #[.val (.ref b), .val (.int (3 : Int32)), .val (.int (0 : Int32)), .val (.int (3 : Int32))] [])) _
    refine XS.iloadN X0.here hx rfl (hb hby d_method_4_code_0) rfl ?_
    show Steps _ _ _ (s₁.setTop (mkF m 1 #[.val (.ref b), .val (.int (3 : Int32)), .val (.int (0 : Int32)), .val (.int (3 : Int32))] [(.int (3 : Int32))])) _
    refine XS.iloadN X0.here hx rfl (hb hby d_method_4_code_1) rfl ?_
    show Steps _ _ _ (s₁.setTop (mkF m 2 #[.val (.ref b), .val (.int (3 : Int32)), .val (.int (0 : Int32)), .val (.int (3 : Int32))] [(.int (0 : Int32)), (.int (3 : Int32))])) _
    refine XS.icmpNo X0.here hx rfl (hb hby d_method_4_code_2) rfl (flt (by decide)).1 ?_
    show Steps _ _ _ (s₁.setTop (mkF m 5 #[.val (.ref b), .val (.int (3 : Int32)), .val (.int (0 : Int32)), .val (.int (3 : Int32))] [])) _
    refine XS.iloadN X0.here hx rfl (hb hby d_method_4_code_5) rfl ?_
    show Steps _ _ _ (s₁.setTop (mkF m 6 #[.val (.ref b), .val (.int (3 : Int32)), .val (.int (0 : Int32)), .val (.int (3 : Int32))] [(.int (3 : Int32))])) _
    refine XS.iloadN X0.here hx rfl (hb hby d_method_4_code_6) rfl ?_
    show Steps _ _ _ (s₁.setTop (mkF m 7 #[.val (.ref b), .val (.int (3 : Int32)), .val (.int (0 : Int32)), .val (.int (3 : Int32))] [(.int (3 : Int32)), (.int (3 : Int32))])) _
    refine XS.icmpYes X0.here hx rfl (pc0 := 7) (pc' := 22) rfl (hb hby d_method_4_code_7) rfl (flt (by decide)).2.1 (by decide) (by decide) ?_
    show Steps _ _ _ (s₁.setTop (mkF m 22 #[.val (.ref b), .val (.int (3 : Int32)), .val (.int (0 : Int32)), .val (.int (3 : Int32))] [])) _
    refine XS.iconst X0.here hx rfl (hb hby d_method_4_code_22) ?_
    show Steps _ _ _ (s₁.setTop (mkF m 23 #[.val (.ref b), .val (.int (3 : Int32)), .val (.int (0 : Int32)), .val (.int (3 : Int32))] [(.int (0 : Int32))])) _
    exact hq)
  have hE := e0
  refine retInt X0 hx hret hlk (by simp) rfl (hb hby d_method_4_code_23) k1 ?_ (by decide) (by decide)
  try rw [hE]
  exact ⟨by rw [← hr], N0, rfl⟩
set_option maxRecDepth 65536 in
set_option maxHeartbeats 40000000 in
theorem rm_st0_0_4 (l : Launch) (Z : State) (a0 : Array Value) (hw : ∀ d ∈ tables_1, d.before a0 Z = true) (b : Addr) (kb : ClassId) (d0 : Int32) (d1 : Int32) (d2 : Int32) (d3 : Int32) (r : Int32) (h0 : Heap) (n0 : Nat) (hn0 : n0 ≤ h0.size) (P0 : Arv Z h0 b kb .char (4 : Int32) [(.int d0), (.int d1), (.int d2), (.int d3)] (.int (0 : Int32))) (hr : (if d0 = (48 : Int32) then (0 : Int32) else 1) = r) :
    Con l Z (⟨"com/example/apportion/apportion/input/DecimalsFirstWholeDigitPinLaw", "stops", "([CIII)Z"⟩ : MethodName) method_4_code 4 (some .boolean) [] ({ frames := 0, cells := 0, slots := 0, locals := 0 } : Room) #[(.ref b), (.int (0 : Int32)), (.int (0 : Int32)), (.int (4 : Int32))] h0 (fun v h L => v = some (.int r) ∧ Fr n0 L ∧ h = h0) := by
  refine enter (Ls := #[.val (.ref b), .val (.int (0 : Int32)), .val (.int (0 : Int32)), .val (.int (4 : Int32))]) (plainFor_of_name pn_4) (fun m => by exact entry_eq rfl) ?_
  intro p e s m below meth cd_ s₁ S0 hx hby hml hret hlk hnm hown hZ X0 e0 k0
  have N0 := Fr.nil n0
  have k1 : To p.tables e below S0 (s₁.setTop (mkF m 12 #[.val (.ref b), .val (.int (0 : Int32)), .val (.int (0 : Int32)), .val (.int (4 : Int32))] [(.int (0 : Int32)), (.ref b)])) := fun tt hq => k0 tt (by
    show Steps _ _ _ (s₁.setTop (mkF m 0 #[.val (.ref b), .val (.int (0 : Int32)), .val (.int (0 : Int32)), .val (.int (4 : Int32))] [])) _
    refine XS.iloadN X0.here hx rfl (hb hby d_method_4_code_0) rfl ?_
    show Steps _ _ _ (s₁.setTop (mkF m 1 #[.val (.ref b), .val (.int (0 : Int32)), .val (.int (0 : Int32)), .val (.int (4 : Int32))] [(.int (0 : Int32))])) _
    refine XS.iloadN X0.here hx rfl (hb hby d_method_4_code_1) rfl ?_
    show Steps _ _ _ (s₁.setTop (mkF m 2 #[.val (.ref b), .val (.int (0 : Int32)), .val (.int (0 : Int32)), .val (.int (4 : Int32))] [(.int (0 : Int32)), (.int (0 : Int32))])) _
    refine XS.icmpNo X0.here hx rfl (hb hby d_method_4_code_2) rfl (flt (by decide)).1 ?_
    show Steps _ _ _ (s₁.setTop (mkF m 5 #[.val (.ref b), .val (.int (0 : Int32)), .val (.int (0 : Int32)), .val (.int (4 : Int32))] [])) _
    refine XS.iloadN X0.here hx rfl (hb hby d_method_4_code_5) rfl ?_
    show Steps _ _ _ (s₁.setTop (mkF m 6 #[.val (.ref b), .val (.int (0 : Int32)), .val (.int (0 : Int32)), .val (.int (4 : Int32))] [(.int (0 : Int32))])) _
    refine XS.iloadN X0.here hx rfl (hb hby d_method_4_code_6) rfl ?_
    show Steps _ _ _ (s₁.setTop (mkF m 7 #[.val (.ref b), .val (.int (0 : Int32)), .val (.int (0 : Int32)), .val (.int (4 : Int32))] [(.int (4 : Int32)), (.int (0 : Int32))])) _
    refine XS.icmpNo X0.here hx rfl (hb hby d_method_4_code_7) rfl (tlt (by decide)).2.1 ?_
    show Steps _ _ _ (s₁.setTop (mkF m 10 #[.val (.ref b), .val (.int (0 : Int32)), .val (.int (0 : Int32)), .val (.int (4 : Int32))] [])) _
    refine XS.aloadN X0.here hx rfl (hb hby d_method_4_code_10) rfl rfl ?_
    show Steps _ _ _ (s₁.setTop (mkF m 11 #[.val (.ref b), .val (.int (0 : Int32)), .val (.int (0 : Int32)), .val (.int (4 : Int32))] [(.ref b)])) _
    refine XS.iloadN X0.here hx rfl (hb hby d_method_4_code_11) rfl ?_
    show Steps _ _ _ (s₁.setTop (mkF m 12 #[.val (.ref b), .val (.int (0 : Int32)), .val (.int (0 : Int32)), .val (.int (4 : Int32))] [(.int (0 : Int32)), (.ref b)])) _
    exact hq)
  obtain ⟨cl2, Ar2, -, S2, -, G2, -⟩ := id P0
  have hi2 := inb_of (j := (0 : Int32)) S2 ⟨by decide, by decide⟩
  have st2 := fun tt => X0.caload hx (j := (0 : Int32)) (v := (.int d0)) (by rw [e0]; exact Ar2.1) (State.isArrayOf_alike hZ.alike Ar2.2.1) Ar2.2.2 hi2 (G2.at hi2 rfl) (g := (mkF m 12 #[.val (.ref b), .val (.int (0 : Int32)), .val (.int (0 : Int32)), .val (.int (4 : Int32))] [(.int (0 : Int32)), (.ref b)])) rfl rfl (hb hby d_method_4_code_12) tt
  have k2 : To p.tables e below S0 (s₁.setTop (mkF m 13 #[.val (.ref b), .val (.int (0 : Int32)), .val (.int (0 : Int32)), .val (.int (4 : Int32))] [(.int d0)])) := fun tt hq => k1 tt (st2 tt hq)
  have k3 : To p.tables e below S0 (s₁.setTop (mkF m 15 #[.val (.ref b), .val (.int (0 : Int32)), .val (.int (0 : Int32)), .val (.int (4 : Int32))] [(.int (48 : Int32)), (.int d0)])) := fun tt hq => k2 tt (by
    show Steps _ _ _ (s₁.setTop (mkF m 13 #[.val (.ref b), .val (.int (0 : Int32)), .val (.int (0 : Int32)), .val (.int (4 : Int32))] [(.int d0)])) _
    refine XS.bipush X0.here hx rfl (hb hby d_method_4_code_13) ?_
    show Steps _ _ _ (s₁.setTop (mkF m 15 #[.val (.ref b), .val (.int (0 : Int32)), .val (.int (0 : Int32)), .val (.int (4 : Int32))] [(.int (48 : Int32)), (.int d0)])) _
    exact hq)
  by_cases hc15_4 : d0 = (48 : Int32)
  · -- pc 15, holds
    have k5 : To p.tables e below S0 (s₁.setTop (mkF m 23 #[.val (.ref b), .val (.int (0 : Int32)), .val (.int (0 : Int32)), .val (.int (4 : Int32))] [(.int (0 : Int32))])) := fun tt hq => k3 tt (by
      show Steps _ _ _ (s₁.setTop (mkF m 15 #[.val (.ref b), .val (.int (0 : Int32)), .val (.int (0 : Int32)), .val (.int (4 : Int32))] [(.int (48 : Int32)), (.int d0)])) _
      refine XS.icmpYes X0.here hx rfl (pc0 := 15) (pc' := 22) rfl (hb hby d_method_4_code_15) rfl (teq hc15_4).1 (by decide) (by decide) ?_
      show Steps _ _ _ (s₁.setTop (mkF m 22 #[.val (.ref b), .val (.int (0 : Int32)), .val (.int (0 : Int32)), .val (.int (4 : Int32))] [])) _
      refine XS.iconst X0.here hx rfl (hb hby d_method_4_code_22) ?_
      show Steps _ _ _ (s₁.setTop (mkF m 23 #[.val (.ref b), .val (.int (0 : Int32)), .val (.int (0 : Int32)), .val (.int (4 : Int32))] [(.int (0 : Int32))])) _
      exact hq)
    have hE := e0
    refine retInt X0 hx hret hlk (by simp) rfl (hb hby d_method_4_code_23) k5 ?_ (by decide) (by decide)
    try rw [hE]
    exact ⟨by rw [← hr, if_pos hc15_4], N0, rfl⟩
  · -- pc 15, holds not
    have k6 : To p.tables e below S0 (s₁.setTop (mkF m 23 #[.val (.ref b), .val (.int (0 : Int32)), .val (.int (0 : Int32)), .val (.int (4 : Int32))] [(.int (1 : Int32))])) := fun tt hq => k3 tt (by
      show Steps _ _ _ (s₁.setTop (mkF m 15 #[.val (.ref b), .val (.int (0 : Int32)), .val (.int (0 : Int32)), .val (.int (4 : Int32))] [(.int (48 : Int32)), (.int d0)])) _
      refine XS.icmpNo X0.here hx rfl (hb hby d_method_4_code_15) rfl (feq hc15_4).1 ?_
      show Steps _ _ _ (s₁.setTop (mkF m 18 #[.val (.ref b), .val (.int (0 : Int32)), .val (.int (0 : Int32)), .val (.int (4 : Int32))] [])) _
      refine XS.iconst X0.here hx rfl (hb hby d_method_4_code_18) ?_
      show Steps _ _ _ (s₁.setTop (mkF m 19 #[.val (.ref b), .val (.int (0 : Int32)), .val (.int (0 : Int32)), .val (.int (4 : Int32))] [(.int (1 : Int32))])) _
      refine XS.goto X0.here hx rfl (pc0 := 19) (pc' := 23) rfl (hb hby d_method_4_code_19) (by decide) (by decide) ?_
      show Steps _ _ _ (s₁.setTop (mkF m 23 #[.val (.ref b), .val (.int (0 : Int32)), .val (.int (0 : Int32)), .val (.int (4 : Int32))] [(.int (1 : Int32))])) _
      exact hq)
    have hE := e0
    refine retInt X0 hx hret hlk (by simp) rfl (hb hby d_method_4_code_23) k6 ?_ (by decide) (by decide)
    try rw [hE]
    exact ⟨by rw [← hr, if_neg hc15_4], N0, rfl⟩
set_option maxRecDepth 65536 in
set_option maxHeartbeats 40000000 in
theorem rm_st1_0_4 (l : Launch) (Z : State) (a0 : Array Value) (hw : ∀ d ∈ tables_1, d.before a0 Z = true) (b : Addr) (kb : ClassId) (d0 : Int32) (d1 : Int32) (d2 : Int32) (d3 : Int32) (r : Int32) (h0 : Heap) (n0 : Nat) (hn0 : n0 ≤ h0.size) (P0 : Arv Z h0 b kb .char (4 : Int32) [(.int d0), (.int d1), (.int d2), (.int d3)] (.int (0 : Int32))) (hr : (if d1 = (48 : Int32) then (0 : Int32) else 1) = r) :
    Con l Z (⟨"com/example/apportion/apportion/input/DecimalsFirstWholeDigitPinLaw", "stops", "([CIII)Z"⟩ : MethodName) method_4_code 4 (some .boolean) [] ({ frames := 0, cells := 0, slots := 0, locals := 0 } : Room) #[(.ref b), (.int (1 : Int32)), (.int (0 : Int32)), (.int (4 : Int32))] h0 (fun v h L => v = some (.int r) ∧ Fr n0 L ∧ h = h0) := by
  refine enter (Ls := #[.val (.ref b), .val (.int (1 : Int32)), .val (.int (0 : Int32)), .val (.int (4 : Int32))]) (plainFor_of_name pn_4) (fun m => by exact entry_eq rfl) ?_
  intro p e s m below meth cd_ s₁ S0 hx hby hml hret hlk hnm hown hZ X0 e0 k0
  have N0 := Fr.nil n0
  have k1 : To p.tables e below S0 (s₁.setTop (mkF m 12 #[.val (.ref b), .val (.int (1 : Int32)), .val (.int (0 : Int32)), .val (.int (4 : Int32))] [(.int (1 : Int32)), (.ref b)])) := fun tt hq => k0 tt (by
    show Steps _ _ _ (s₁.setTop (mkF m 0 #[.val (.ref b), .val (.int (1 : Int32)), .val (.int (0 : Int32)), .val (.int (4 : Int32))] [])) _
    refine XS.iloadN X0.here hx rfl (hb hby d_method_4_code_0) rfl ?_
    show Steps _ _ _ (s₁.setTop (mkF m 1 #[.val (.ref b), .val (.int (1 : Int32)), .val (.int (0 : Int32)), .val (.int (4 : Int32))] [(.int (1 : Int32))])) _
    refine XS.iloadN X0.here hx rfl (hb hby d_method_4_code_1) rfl ?_
    show Steps _ _ _ (s₁.setTop (mkF m 2 #[.val (.ref b), .val (.int (1 : Int32)), .val (.int (0 : Int32)), .val (.int (4 : Int32))] [(.int (0 : Int32)), (.int (1 : Int32))])) _
    refine XS.icmpNo X0.here hx rfl (hb hby d_method_4_code_2) rfl (flt (by decide)).1 ?_
    show Steps _ _ _ (s₁.setTop (mkF m 5 #[.val (.ref b), .val (.int (1 : Int32)), .val (.int (0 : Int32)), .val (.int (4 : Int32))] [])) _
    refine XS.iloadN X0.here hx rfl (hb hby d_method_4_code_5) rfl ?_
    show Steps _ _ _ (s₁.setTop (mkF m 6 #[.val (.ref b), .val (.int (1 : Int32)), .val (.int (0 : Int32)), .val (.int (4 : Int32))] [(.int (1 : Int32))])) _
    refine XS.iloadN X0.here hx rfl (hb hby d_method_4_code_6) rfl ?_
    show Steps _ _ _ (s₁.setTop (mkF m 7 #[.val (.ref b), .val (.int (1 : Int32)), .val (.int (0 : Int32)), .val (.int (4 : Int32))] [(.int (4 : Int32)), (.int (1 : Int32))])) _
    refine XS.icmpNo X0.here hx rfl (hb hby d_method_4_code_7) rfl (tlt (by decide)).2.1 ?_
    show Steps _ _ _ (s₁.setTop (mkF m 10 #[.val (.ref b), .val (.int (1 : Int32)), .val (.int (0 : Int32)), .val (.int (4 : Int32))] [])) _
    refine XS.aloadN X0.here hx rfl (hb hby d_method_4_code_10) rfl rfl ?_
    show Steps _ _ _ (s₁.setTop (mkF m 11 #[.val (.ref b), .val (.int (1 : Int32)), .val (.int (0 : Int32)), .val (.int (4 : Int32))] [(.ref b)])) _
    refine XS.iloadN X0.here hx rfl (hb hby d_method_4_code_11) rfl ?_
    show Steps _ _ _ (s₁.setTop (mkF m 12 #[.val (.ref b), .val (.int (1 : Int32)), .val (.int (0 : Int32)), .val (.int (4 : Int32))] [(.int (1 : Int32)), (.ref b)])) _
    exact hq)
  obtain ⟨cl2, Ar2, -, S2, -, G2, -⟩ := id P0
  have hi2 := inb_of (j := (1 : Int32)) S2 ⟨by decide, by decide⟩
  have st2 := fun tt => X0.caload hx (j := (1 : Int32)) (v := (.int d1)) (by rw [e0]; exact Ar2.1) (State.isArrayOf_alike hZ.alike Ar2.2.1) Ar2.2.2 hi2 (G2.at hi2 rfl) (g := (mkF m 12 #[.val (.ref b), .val (.int (1 : Int32)), .val (.int (0 : Int32)), .val (.int (4 : Int32))] [(.int (1 : Int32)), (.ref b)])) rfl rfl (hb hby d_method_4_code_12) tt
  have k2 : To p.tables e below S0 (s₁.setTop (mkF m 13 #[.val (.ref b), .val (.int (1 : Int32)), .val (.int (0 : Int32)), .val (.int (4 : Int32))] [(.int d1)])) := fun tt hq => k1 tt (st2 tt hq)
  have k3 : To p.tables e below S0 (s₁.setTop (mkF m 15 #[.val (.ref b), .val (.int (1 : Int32)), .val (.int (0 : Int32)), .val (.int (4 : Int32))] [(.int (48 : Int32)), (.int d1)])) := fun tt hq => k2 tt (by
    show Steps _ _ _ (s₁.setTop (mkF m 13 #[.val (.ref b), .val (.int (1 : Int32)), .val (.int (0 : Int32)), .val (.int (4 : Int32))] [(.int d1)])) _
    refine XS.bipush X0.here hx rfl (hb hby d_method_4_code_13) ?_
    show Steps _ _ _ (s₁.setTop (mkF m 15 #[.val (.ref b), .val (.int (1 : Int32)), .val (.int (0 : Int32)), .val (.int (4 : Int32))] [(.int (48 : Int32)), (.int d1)])) _
    exact hq)
  by_cases hc15_4 : d1 = (48 : Int32)
  · -- pc 15, holds
    have k5 : To p.tables e below S0 (s₁.setTop (mkF m 23 #[.val (.ref b), .val (.int (1 : Int32)), .val (.int (0 : Int32)), .val (.int (4 : Int32))] [(.int (0 : Int32))])) := fun tt hq => k3 tt (by
      show Steps _ _ _ (s₁.setTop (mkF m 15 #[.val (.ref b), .val (.int (1 : Int32)), .val (.int (0 : Int32)), .val (.int (4 : Int32))] [(.int (48 : Int32)), (.int d1)])) _
      refine XS.icmpYes X0.here hx rfl (pc0 := 15) (pc' := 22) rfl (hb hby d_method_4_code_15) rfl (teq hc15_4).1 (by decide) (by decide) ?_
      show Steps _ _ _ (s₁.setTop (mkF m 22 #[.val (.ref b), .val (.int (1 : Int32)), .val (.int (0 : Int32)), .val (.int (4 : Int32))] [])) _
      refine XS.iconst X0.here hx rfl (hb hby d_method_4_code_22) ?_
      show Steps _ _ _ (s₁.setTop (mkF m 23 #[.val (.ref b), .val (.int (1 : Int32)), .val (.int (0 : Int32)), .val (.int (4 : Int32))] [(.int (0 : Int32))])) _
      exact hq)
    have hE := e0
    refine retInt X0 hx hret hlk (by simp) rfl (hb hby d_method_4_code_23) k5 ?_ (by decide) (by decide)
    try rw [hE]
    exact ⟨by rw [← hr, if_pos hc15_4], N0, rfl⟩
  · -- pc 15, holds not
    have k6 : To p.tables e below S0 (s₁.setTop (mkF m 23 #[.val (.ref b), .val (.int (1 : Int32)), .val (.int (0 : Int32)), .val (.int (4 : Int32))] [(.int (1 : Int32))])) := fun tt hq => k3 tt (by
      show Steps _ _ _ (s₁.setTop (mkF m 15 #[.val (.ref b), .val (.int (1 : Int32)), .val (.int (0 : Int32)), .val (.int (4 : Int32))] [(.int (48 : Int32)), (.int d1)])) _
      refine XS.icmpNo X0.here hx rfl (hb hby d_method_4_code_15) rfl (feq hc15_4).1 ?_
      show Steps _ _ _ (s₁.setTop (mkF m 18 #[.val (.ref b), .val (.int (1 : Int32)), .val (.int (0 : Int32)), .val (.int (4 : Int32))] [])) _
      refine XS.iconst X0.here hx rfl (hb hby d_method_4_code_18) ?_
      show Steps _ _ _ (s₁.setTop (mkF m 19 #[.val (.ref b), .val (.int (1 : Int32)), .val (.int (0 : Int32)), .val (.int (4 : Int32))] [(.int (1 : Int32))])) _
      refine XS.goto X0.here hx rfl (pc0 := 19) (pc' := 23) rfl (hb hby d_method_4_code_19) (by decide) (by decide) ?_
      show Steps _ _ _ (s₁.setTop (mkF m 23 #[.val (.ref b), .val (.int (1 : Int32)), .val (.int (0 : Int32)), .val (.int (4 : Int32))] [(.int (1 : Int32))])) _
      exact hq)
    have hE := e0
    refine retInt X0 hx hret hlk (by simp) rfl (hb hby d_method_4_code_23) k6 ?_ (by decide) (by decide)
    try rw [hE]
    exact ⟨by rw [← hr, if_neg hc15_4], N0, rfl⟩
set_option maxRecDepth 65536 in
set_option maxHeartbeats 40000000 in
theorem rm_st2_0_4 (l : Launch) (Z : State) (a0 : Array Value) (hw : ∀ d ∈ tables_1, d.before a0 Z = true) (b : Addr) (kb : ClassId) (d0 : Int32) (d1 : Int32) (d2 : Int32) (d3 : Int32) (r : Int32) (h0 : Heap) (n0 : Nat) (hn0 : n0 ≤ h0.size) (P0 : Arv Z h0 b kb .char (4 : Int32) [(.int d0), (.int d1), (.int d2), (.int d3)] (.int (0 : Int32))) (hr : (if d2 = (48 : Int32) then (0 : Int32) else 1) = r) :
    Con l Z (⟨"com/example/apportion/apportion/input/DecimalsFirstWholeDigitPinLaw", "stops", "([CIII)Z"⟩ : MethodName) method_4_code 4 (some .boolean) [] ({ frames := 0, cells := 0, slots := 0, locals := 0 } : Room) #[(.ref b), (.int (2 : Int32)), (.int (0 : Int32)), (.int (4 : Int32))] h0 (fun v h L => v = some (.int r) ∧ Fr n0 L ∧ h = h0) := by
  refine enter (Ls := #[.val (.ref b), .val (.int (2 : Int32)), .val (.int (0 : Int32)), .val (.int (4 : Int32))]) (plainFor_of_name pn_4) (fun m => by exact entry_eq rfl) ?_
  intro p e s m below meth cd_ s₁ S0 hx hby hml hret hlk hnm hown hZ X0 e0 k0
  have N0 := Fr.nil n0
  have k1 : To p.tables e below S0 (s₁.setTop (mkF m 12 #[.val (.ref b), .val (.int (2 : Int32)), .val (.int (0 : Int32)), .val (.int (4 : Int32))] [(.int (2 : Int32)), (.ref b)])) := fun tt hq => k0 tt (by
    show Steps _ _ _ (s₁.setTop (mkF m 0 #[.val (.ref b), .val (.int (2 : Int32)), .val (.int (0 : Int32)), .val (.int (4 : Int32))] [])) _
    refine XS.iloadN X0.here hx rfl (hb hby d_method_4_code_0) rfl ?_
    show Steps _ _ _ (s₁.setTop (mkF m 1 #[.val (.ref b), .val (.int (2 : Int32)), .val (.int (0 : Int32)), .val (.int (4 : Int32))] [(.int (2 : Int32))])) _
    refine XS.iloadN X0.here hx rfl (hb hby d_method_4_code_1) rfl ?_
    show Steps _ _ _ (s₁.setTop (mkF m 2 #[.val (.ref b), .val (.int (2 : Int32)), .val (.int (0 : Int32)), .val (.int (4 : Int32))] [(.int (0 : Int32)), (.int (2 : Int32))])) _
    refine XS.icmpNo X0.here hx rfl (hb hby d_method_4_code_2) rfl (flt (by decide)).1 ?_
    show Steps _ _ _ (s₁.setTop (mkF m 5 #[.val (.ref b), .val (.int (2 : Int32)), .val (.int (0 : Int32)), .val (.int (4 : Int32))] [])) _
    refine XS.iloadN X0.here hx rfl (hb hby d_method_4_code_5) rfl ?_
    show Steps _ _ _ (s₁.setTop (mkF m 6 #[.val (.ref b), .val (.int (2 : Int32)), .val (.int (0 : Int32)), .val (.int (4 : Int32))] [(.int (2 : Int32))])) _
    refine XS.iloadN X0.here hx rfl (hb hby d_method_4_code_6) rfl ?_
    show Steps _ _ _ (s₁.setTop (mkF m 7 #[.val (.ref b), .val (.int (2 : Int32)), .val (.int (0 : Int32)), .val (.int (4 : Int32))] [(.int (4 : Int32)), (.int (2 : Int32))])) _
    refine XS.icmpNo X0.here hx rfl (hb hby d_method_4_code_7) rfl (tlt (by decide)).2.1 ?_
    show Steps _ _ _ (s₁.setTop (mkF m 10 #[.val (.ref b), .val (.int (2 : Int32)), .val (.int (0 : Int32)), .val (.int (4 : Int32))] [])) _
    refine XS.aloadN X0.here hx rfl (hb hby d_method_4_code_10) rfl rfl ?_
    show Steps _ _ _ (s₁.setTop (mkF m 11 #[.val (.ref b), .val (.int (2 : Int32)), .val (.int (0 : Int32)), .val (.int (4 : Int32))] [(.ref b)])) _
    refine XS.iloadN X0.here hx rfl (hb hby d_method_4_code_11) rfl ?_
    show Steps _ _ _ (s₁.setTop (mkF m 12 #[.val (.ref b), .val (.int (2 : Int32)), .val (.int (0 : Int32)), .val (.int (4 : Int32))] [(.int (2 : Int32)), (.ref b)])) _
    exact hq)
  obtain ⟨cl2, Ar2, -, S2, -, G2, -⟩ := id P0
  have hi2 := inb_of (j := (2 : Int32)) S2 ⟨by decide, by decide⟩
  have st2 := fun tt => X0.caload hx (j := (2 : Int32)) (v := (.int d2)) (by rw [e0]; exact Ar2.1) (State.isArrayOf_alike hZ.alike Ar2.2.1) Ar2.2.2 hi2 (G2.at hi2 rfl) (g := (mkF m 12 #[.val (.ref b), .val (.int (2 : Int32)), .val (.int (0 : Int32)), .val (.int (4 : Int32))] [(.int (2 : Int32)), (.ref b)])) rfl rfl (hb hby d_method_4_code_12) tt
  have k2 : To p.tables e below S0 (s₁.setTop (mkF m 13 #[.val (.ref b), .val (.int (2 : Int32)), .val (.int (0 : Int32)), .val (.int (4 : Int32))] [(.int d2)])) := fun tt hq => k1 tt (st2 tt hq)
  have k3 : To p.tables e below S0 (s₁.setTop (mkF m 15 #[.val (.ref b), .val (.int (2 : Int32)), .val (.int (0 : Int32)), .val (.int (4 : Int32))] [(.int (48 : Int32)), (.int d2)])) := fun tt hq => k2 tt (by
    show Steps _ _ _ (s₁.setTop (mkF m 13 #[.val (.ref b), .val (.int (2 : Int32)), .val (.int (0 : Int32)), .val (.int (4 : Int32))] [(.int d2)])) _
    refine XS.bipush X0.here hx rfl (hb hby d_method_4_code_13) ?_
    show Steps _ _ _ (s₁.setTop (mkF m 15 #[.val (.ref b), .val (.int (2 : Int32)), .val (.int (0 : Int32)), .val (.int (4 : Int32))] [(.int (48 : Int32)), (.int d2)])) _
    exact hq)
  by_cases hc15_4 : d2 = (48 : Int32)
  · -- pc 15, holds
    have k5 : To p.tables e below S0 (s₁.setTop (mkF m 23 #[.val (.ref b), .val (.int (2 : Int32)), .val (.int (0 : Int32)), .val (.int (4 : Int32))] [(.int (0 : Int32))])) := fun tt hq => k3 tt (by
      show Steps _ _ _ (s₁.setTop (mkF m 15 #[.val (.ref b), .val (.int (2 : Int32)), .val (.int (0 : Int32)), .val (.int (4 : Int32))] [(.int (48 : Int32)), (.int d2)])) _
      refine XS.icmpYes X0.here hx rfl (pc0 := 15) (pc' := 22) rfl (hb hby d_method_4_code_15) rfl (teq hc15_4).1 (by decide) (by decide) ?_
      show Steps _ _ _ (s₁.setTop (mkF m 22 #[.val (.ref b), .val (.int (2 : Int32)), .val (.int (0 : Int32)), .val (.int (4 : Int32))] [])) _
      refine XS.iconst X0.here hx rfl (hb hby d_method_4_code_22) ?_
      show Steps _ _ _ (s₁.setTop (mkF m 23 #[.val (.ref b), .val (.int (2 : Int32)), .val (.int (0 : Int32)), .val (.int (4 : Int32))] [(.int (0 : Int32))])) _
      exact hq)
    have hE := e0
    refine retInt X0 hx hret hlk (by simp) rfl (hb hby d_method_4_code_23) k5 ?_ (by decide) (by decide)
    try rw [hE]
    exact ⟨by rw [← hr, if_pos hc15_4], N0, rfl⟩
  · -- pc 15, holds not
    have k6 : To p.tables e below S0 (s₁.setTop (mkF m 23 #[.val (.ref b), .val (.int (2 : Int32)), .val (.int (0 : Int32)), .val (.int (4 : Int32))] [(.int (1 : Int32))])) := fun tt hq => k3 tt (by
      show Steps _ _ _ (s₁.setTop (mkF m 15 #[.val (.ref b), .val (.int (2 : Int32)), .val (.int (0 : Int32)), .val (.int (4 : Int32))] [(.int (48 : Int32)), (.int d2)])) _
      refine XS.icmpNo X0.here hx rfl (hb hby d_method_4_code_15) rfl (feq hc15_4).1 ?_
      show Steps _ _ _ (s₁.setTop (mkF m 18 #[.val (.ref b), .val (.int (2 : Int32)), .val (.int (0 : Int32)), .val (.int (4 : Int32))] [])) _
      refine XS.iconst X0.here hx rfl (hb hby d_method_4_code_18) ?_
      show Steps _ _ _ (s₁.setTop (mkF m 19 #[.val (.ref b), .val (.int (2 : Int32)), .val (.int (0 : Int32)), .val (.int (4 : Int32))] [(.int (1 : Int32))])) _
      refine XS.goto X0.here hx rfl (pc0 := 19) (pc' := 23) rfl (hb hby d_method_4_code_19) (by decide) (by decide) ?_
      show Steps _ _ _ (s₁.setTop (mkF m 23 #[.val (.ref b), .val (.int (2 : Int32)), .val (.int (0 : Int32)), .val (.int (4 : Int32))] [(.int (1 : Int32))])) _
      exact hq)
    have hE := e0
    refine retInt X0 hx hret hlk (by simp) rfl (hb hby d_method_4_code_23) k6 ?_ (by decide) (by decide)
    try rw [hE]
    exact ⟨by rw [← hr, if_neg hc15_4], N0, rfl⟩
set_option maxRecDepth 65536 in
set_option maxHeartbeats 40000000 in
theorem rm_st3_0_4 (l : Launch) (Z : State) (a0 : Array Value) (hw : ∀ d ∈ tables_1, d.before a0 Z = true) (b : Addr) (kb : ClassId) (d0 : Int32) (d1 : Int32) (d2 : Int32) (d3 : Int32) (r : Int32) (h0 : Heap) (n0 : Nat) (hn0 : n0 ≤ h0.size) (P0 : Arv Z h0 b kb .char (4 : Int32) [(.int d0), (.int d1), (.int d2), (.int d3)] (.int (0 : Int32))) (hr : (if d3 = (48 : Int32) then (0 : Int32) else 1) = r) :
    Con l Z (⟨"com/example/apportion/apportion/input/DecimalsFirstWholeDigitPinLaw", "stops", "([CIII)Z"⟩ : MethodName) method_4_code 4 (some .boolean) [] ({ frames := 0, cells := 0, slots := 0, locals := 0 } : Room) #[(.ref b), (.int (3 : Int32)), (.int (0 : Int32)), (.int (4 : Int32))] h0 (fun v h L => v = some (.int r) ∧ Fr n0 L ∧ h = h0) := by
  refine enter (Ls := #[.val (.ref b), .val (.int (3 : Int32)), .val (.int (0 : Int32)), .val (.int (4 : Int32))]) (plainFor_of_name pn_4) (fun m => by exact entry_eq rfl) ?_
  intro p e s m below meth cd_ s₁ S0 hx hby hml hret hlk hnm hown hZ X0 e0 k0
  have N0 := Fr.nil n0
  have k1 : To p.tables e below S0 (s₁.setTop (mkF m 12 #[.val (.ref b), .val (.int (3 : Int32)), .val (.int (0 : Int32)), .val (.int (4 : Int32))] [(.int (3 : Int32)), (.ref b)])) := fun tt hq => k0 tt (by
    show Steps _ _ _ (s₁.setTop (mkF m 0 #[.val (.ref b), .val (.int (3 : Int32)), .val (.int (0 : Int32)), .val (.int (4 : Int32))] [])) _
    refine XS.iloadN X0.here hx rfl (hb hby d_method_4_code_0) rfl ?_
    show Steps _ _ _ (s₁.setTop (mkF m 1 #[.val (.ref b), .val (.int (3 : Int32)), .val (.int (0 : Int32)), .val (.int (4 : Int32))] [(.int (3 : Int32))])) _
    refine XS.iloadN X0.here hx rfl (hb hby d_method_4_code_1) rfl ?_
    show Steps _ _ _ (s₁.setTop (mkF m 2 #[.val (.ref b), .val (.int (3 : Int32)), .val (.int (0 : Int32)), .val (.int (4 : Int32))] [(.int (0 : Int32)), (.int (3 : Int32))])) _
    refine XS.icmpNo X0.here hx rfl (hb hby d_method_4_code_2) rfl (flt (by decide)).1 ?_
    show Steps _ _ _ (s₁.setTop (mkF m 5 #[.val (.ref b), .val (.int (3 : Int32)), .val (.int (0 : Int32)), .val (.int (4 : Int32))] [])) _
    refine XS.iloadN X0.here hx rfl (hb hby d_method_4_code_5) rfl ?_
    show Steps _ _ _ (s₁.setTop (mkF m 6 #[.val (.ref b), .val (.int (3 : Int32)), .val (.int (0 : Int32)), .val (.int (4 : Int32))] [(.int (3 : Int32))])) _
    refine XS.iloadN X0.here hx rfl (hb hby d_method_4_code_6) rfl ?_
    show Steps _ _ _ (s₁.setTop (mkF m 7 #[.val (.ref b), .val (.int (3 : Int32)), .val (.int (0 : Int32)), .val (.int (4 : Int32))] [(.int (4 : Int32)), (.int (3 : Int32))])) _
    refine XS.icmpNo X0.here hx rfl (hb hby d_method_4_code_7) rfl (tlt (by decide)).2.1 ?_
    show Steps _ _ _ (s₁.setTop (mkF m 10 #[.val (.ref b), .val (.int (3 : Int32)), .val (.int (0 : Int32)), .val (.int (4 : Int32))] [])) _
    refine XS.aloadN X0.here hx rfl (hb hby d_method_4_code_10) rfl rfl ?_
    show Steps _ _ _ (s₁.setTop (mkF m 11 #[.val (.ref b), .val (.int (3 : Int32)), .val (.int (0 : Int32)), .val (.int (4 : Int32))] [(.ref b)])) _
    refine XS.iloadN X0.here hx rfl (hb hby d_method_4_code_11) rfl ?_
    show Steps _ _ _ (s₁.setTop (mkF m 12 #[.val (.ref b), .val (.int (3 : Int32)), .val (.int (0 : Int32)), .val (.int (4 : Int32))] [(.int (3 : Int32)), (.ref b)])) _
    exact hq)
  obtain ⟨cl2, Ar2, -, S2, -, G2, -⟩ := id P0
  have hi2 := inb_of (j := (3 : Int32)) S2 ⟨by decide, by decide⟩
  have st2 := fun tt => X0.caload hx (j := (3 : Int32)) (v := (.int d3)) (by rw [e0]; exact Ar2.1) (State.isArrayOf_alike hZ.alike Ar2.2.1) Ar2.2.2 hi2 (G2.at hi2 rfl) (g := (mkF m 12 #[.val (.ref b), .val (.int (3 : Int32)), .val (.int (0 : Int32)), .val (.int (4 : Int32))] [(.int (3 : Int32)), (.ref b)])) rfl rfl (hb hby d_method_4_code_12) tt
  have k2 : To p.tables e below S0 (s₁.setTop (mkF m 13 #[.val (.ref b), .val (.int (3 : Int32)), .val (.int (0 : Int32)), .val (.int (4 : Int32))] [(.int d3)])) := fun tt hq => k1 tt (st2 tt hq)
  have k3 : To p.tables e below S0 (s₁.setTop (mkF m 15 #[.val (.ref b), .val (.int (3 : Int32)), .val (.int (0 : Int32)), .val (.int (4 : Int32))] [(.int (48 : Int32)), (.int d3)])) := fun tt hq => k2 tt (by
    show Steps _ _ _ (s₁.setTop (mkF m 13 #[.val (.ref b), .val (.int (3 : Int32)), .val (.int (0 : Int32)), .val (.int (4 : Int32))] [(.int d3)])) _
    refine XS.bipush X0.here hx rfl (hb hby d_method_4_code_13) ?_
    show Steps _ _ _ (s₁.setTop (mkF m 15 #[.val (.ref b), .val (.int (3 : Int32)), .val (.int (0 : Int32)), .val (.int (4 : Int32))] [(.int (48 : Int32)), (.int d3)])) _
    exact hq)
  by_cases hc15_4 : d3 = (48 : Int32)
  · -- pc 15, holds
    have k5 : To p.tables e below S0 (s₁.setTop (mkF m 23 #[.val (.ref b), .val (.int (3 : Int32)), .val (.int (0 : Int32)), .val (.int (4 : Int32))] [(.int (0 : Int32))])) := fun tt hq => k3 tt (by
      show Steps _ _ _ (s₁.setTop (mkF m 15 #[.val (.ref b), .val (.int (3 : Int32)), .val (.int (0 : Int32)), .val (.int (4 : Int32))] [(.int (48 : Int32)), (.int d3)])) _
      refine XS.icmpYes X0.here hx rfl (pc0 := 15) (pc' := 22) rfl (hb hby d_method_4_code_15) rfl (teq hc15_4).1 (by decide) (by decide) ?_
      show Steps _ _ _ (s₁.setTop (mkF m 22 #[.val (.ref b), .val (.int (3 : Int32)), .val (.int (0 : Int32)), .val (.int (4 : Int32))] [])) _
      refine XS.iconst X0.here hx rfl (hb hby d_method_4_code_22) ?_
      show Steps _ _ _ (s₁.setTop (mkF m 23 #[.val (.ref b), .val (.int (3 : Int32)), .val (.int (0 : Int32)), .val (.int (4 : Int32))] [(.int (0 : Int32))])) _
      exact hq)
    have hE := e0
    refine retInt X0 hx hret hlk (by simp) rfl (hb hby d_method_4_code_23) k5 ?_ (by decide) (by decide)
    try rw [hE]
    exact ⟨by rw [← hr, if_pos hc15_4], N0, rfl⟩
  · -- pc 15, holds not
    have k6 : To p.tables e below S0 (s₁.setTop (mkF m 23 #[.val (.ref b), .val (.int (3 : Int32)), .val (.int (0 : Int32)), .val (.int (4 : Int32))] [(.int (1 : Int32))])) := fun tt hq => k3 tt (by
      show Steps _ _ _ (s₁.setTop (mkF m 15 #[.val (.ref b), .val (.int (3 : Int32)), .val (.int (0 : Int32)), .val (.int (4 : Int32))] [(.int (48 : Int32)), (.int d3)])) _
      refine XS.icmpNo X0.here hx rfl (hb hby d_method_4_code_15) rfl (feq hc15_4).1 ?_
      show Steps _ _ _ (s₁.setTop (mkF m 18 #[.val (.ref b), .val (.int (3 : Int32)), .val (.int (0 : Int32)), .val (.int (4 : Int32))] [])) _
      refine XS.iconst X0.here hx rfl (hb hby d_method_4_code_18) ?_
      show Steps _ _ _ (s₁.setTop (mkF m 19 #[.val (.ref b), .val (.int (3 : Int32)), .val (.int (0 : Int32)), .val (.int (4 : Int32))] [(.int (1 : Int32))])) _
      refine XS.goto X0.here hx rfl (pc0 := 19) (pc' := 23) rfl (hb hby d_method_4_code_19) (by decide) (by decide) ?_
      show Steps _ _ _ (s₁.setTop (mkF m 23 #[.val (.ref b), .val (.int (3 : Int32)), .val (.int (0 : Int32)), .val (.int (4 : Int32))] [(.int (1 : Int32))])) _
      exact hq)
    have hE := e0
    refine retInt X0 hx hret hlk (by simp) rfl (hb hby d_method_4_code_23) k6 ?_ (by decide) (by decide)
    try rw [hE]
    exact ⟨by rw [← hr, if_neg hc15_4], N0, rfl⟩
set_option maxRecDepth 65536 in
set_option maxHeartbeats 40000000 in
theorem rm_st0_1_1 (l : Launch) (Z : State) (a0 : Array Value) (hw : ∀ d ∈ tables_1, d.before a0 Z = true) (b : Addr) (kb : ClassId) (d0 : Int32) (d1 : Int32) (d2 : Int32) (d3 : Int32) (r : Int32) (h0 : Heap) (n0 : Nat) (hn0 : n0 ≤ h0.size) (P0 : Arv Z h0 b kb .char (4 : Int32) [(.int d0), (.int d1), (.int d2), (.int d3)] (.int (0 : Int32))) (hr : (0 : Int32) = r) :
    Con l Z (⟨"com/example/apportion/apportion/input/DecimalsFirstWholeDigitPinLaw", "stops", "([CIII)Z"⟩ : MethodName) method_4_code 4 (some .boolean) [] ({ frames := 0, cells := 0, slots := 0, locals := 0 } : Room) #[(.ref b), (.int (0 : Int32)), (.int (1 : Int32)), (.int (1 : Int32))] h0 (fun v h L => v = some (.int r) ∧ Fr n0 L ∧ h = h0) := by
  refine enter (Ls := #[.val (.ref b), .val (.int (0 : Int32)), .val (.int (1 : Int32)), .val (.int (1 : Int32))]) (plainFor_of_name pn_4) (fun m => by exact entry_eq rfl) ?_
  intro p e s m below meth cd_ s₁ S0 hx hby hml hret hlk hnm hown hZ X0 e0 k0
  have N0 := Fr.nil n0
  have k1 : To p.tables e below S0 (s₁.setTop (mkF m 23 #[.val (.ref b), .val (.int (0 : Int32)), .val (.int (1 : Int32)), .val (.int (1 : Int32))] [(.int (0 : Int32))])) := fun tt hq => k0 tt (by
    show Steps _ _ _ (s₁.setTop (mkF m 0 #[.val (.ref b), .val (.int (0 : Int32)), .val (.int (1 : Int32)), .val (.int (1 : Int32))] [])) _
    refine XS.iloadN X0.here hx rfl (hb hby d_method_4_code_0) rfl ?_
    show Steps _ _ _ (s₁.setTop (mkF m 1 #[.val (.ref b), .val (.int (0 : Int32)), .val (.int (1 : Int32)), .val (.int (1 : Int32))] [(.int (0 : Int32))])) _
    refine XS.iloadN X0.here hx rfl (hb hby d_method_4_code_1) rfl ?_
    show Steps _ _ _ (s₁.setTop (mkF m 2 #[.val (.ref b), .val (.int (0 : Int32)), .val (.int (1 : Int32)), .val (.int (1 : Int32))] [(.int (1 : Int32)), (.int (0 : Int32))])) _
    refine XS.icmpYes X0.here hx rfl (pc0 := 2) (pc' := 22) rfl (hb hby d_method_4_code_2) rfl (tlt (by decide)).1 (by decide) (by decide) ?_
    show Steps _ _ _ (s₁.setTop (mkF m 22 #[.val (.ref b), .val (.int (0 : Int32)), .val (.int (1 : Int32)), .val (.int (1 : Int32))] [])) _
    refine XS.iconst X0.here hx rfl (hb hby d_method_4_code_22) ?_
    show Steps _ _ _ (s₁.setTop (mkF m 23 #[.val (.ref b), .val (.int (0 : Int32)), .val (.int (1 : Int32)), .val (.int (1 : Int32))] [(.int (0 : Int32))])) _
    exact hq)
  have hE := e0
  refine retInt X0 hx hret hlk (by simp) rfl (hb hby d_method_4_code_23) k1 ?_ (by decide) (by decide)
  try rw [hE]
  exact ⟨by rw [← hr], N0, rfl⟩
set_option maxRecDepth 65536 in
set_option maxHeartbeats 40000000 in
theorem rm_st1_1_1 (l : Launch) (Z : State) (a0 : Array Value) (hw : ∀ d ∈ tables_1, d.before a0 Z = true) (b : Addr) (kb : ClassId) (d0 : Int32) (d1 : Int32) (d2 : Int32) (d3 : Int32) (r : Int32) (h0 : Heap) (n0 : Nat) (hn0 : n0 ≤ h0.size) (P0 : Arv Z h0 b kb .char (4 : Int32) [(.int d0), (.int d1), (.int d2), (.int d3)] (.int (0 : Int32))) (hr : (0 : Int32) = r) :
    Con l Z (⟨"com/example/apportion/apportion/input/DecimalsFirstWholeDigitPinLaw", "stops", "([CIII)Z"⟩ : MethodName) method_4_code 4 (some .boolean) [] ({ frames := 0, cells := 0, slots := 0, locals := 0 } : Room) #[(.ref b), (.int (1 : Int32)), (.int (1 : Int32)), (.int (1 : Int32))] h0 (fun v h L => v = some (.int r) ∧ Fr n0 L ∧ h = h0) := by
  refine enter (Ls := #[.val (.ref b), .val (.int (1 : Int32)), .val (.int (1 : Int32)), .val (.int (1 : Int32))]) (plainFor_of_name pn_4) (fun m => by exact entry_eq rfl) ?_
  intro p e s m below meth cd_ s₁ S0 hx hby hml hret hlk hnm hown hZ X0 e0 k0
  have N0 := Fr.nil n0
  have k1 : To p.tables e below S0 (s₁.setTop (mkF m 23 #[.val (.ref b), .val (.int (1 : Int32)), .val (.int (1 : Int32)), .val (.int (1 : Int32))] [(.int (0 : Int32))])) := fun tt hq => k0 tt (by
    show Steps _ _ _ (s₁.setTop (mkF m 0 #[.val (.ref b), .val (.int (1 : Int32)), .val (.int (1 : Int32)), .val (.int (1 : Int32))] [])) _
    refine XS.iloadN X0.here hx rfl (hb hby d_method_4_code_0) rfl ?_
    show Steps _ _ _ (s₁.setTop (mkF m 1 #[.val (.ref b), .val (.int (1 : Int32)), .val (.int (1 : Int32)), .val (.int (1 : Int32))] [(.int (1 : Int32))])) _
    refine XS.iloadN X0.here hx rfl (hb hby d_method_4_code_1) rfl ?_
    show Steps _ _ _ (s₁.setTop (mkF m 2 #[.val (.ref b), .val (.int (1 : Int32)), .val (.int (1 : Int32)), .val (.int (1 : Int32))] [(.int (1 : Int32)), (.int (1 : Int32))])) _
    refine XS.icmpNo X0.here hx rfl (hb hby d_method_4_code_2) rfl (flt (by decide)).1 ?_
    show Steps _ _ _ (s₁.setTop (mkF m 5 #[.val (.ref b), .val (.int (1 : Int32)), .val (.int (1 : Int32)), .val (.int (1 : Int32))] [])) _
    refine XS.iloadN X0.here hx rfl (hb hby d_method_4_code_5) rfl ?_
    show Steps _ _ _ (s₁.setTop (mkF m 6 #[.val (.ref b), .val (.int (1 : Int32)), .val (.int (1 : Int32)), .val (.int (1 : Int32))] [(.int (1 : Int32))])) _
    refine XS.iloadN X0.here hx rfl (hb hby d_method_4_code_6) rfl ?_
    show Steps _ _ _ (s₁.setTop (mkF m 7 #[.val (.ref b), .val (.int (1 : Int32)), .val (.int (1 : Int32)), .val (.int (1 : Int32))] [(.int (1 : Int32)), (.int (1 : Int32))])) _
    refine XS.icmpYes X0.here hx rfl (pc0 := 7) (pc' := 22) rfl (hb hby d_method_4_code_7) rfl (flt (by decide)).2.1 (by decide) (by decide) ?_
    show Steps _ _ _ (s₁.setTop (mkF m 22 #[.val (.ref b), .val (.int (1 : Int32)), .val (.int (1 : Int32)), .val (.int (1 : Int32))] [])) _
    refine XS.iconst X0.here hx rfl (hb hby d_method_4_code_22) ?_
    show Steps _ _ _ (s₁.setTop (mkF m 23 #[.val (.ref b), .val (.int (1 : Int32)), .val (.int (1 : Int32)), .val (.int (1 : Int32))] [(.int (0 : Int32))])) _
    exact hq)
  have hE := e0
  refine retInt X0 hx hret hlk (by simp) rfl (hb hby d_method_4_code_23) k1 ?_ (by decide) (by decide)
  try rw [hE]
  exact ⟨by rw [← hr], N0, rfl⟩
set_option maxRecDepth 65536 in
set_option maxHeartbeats 40000000 in
theorem rm_st2_1_1 (l : Launch) (Z : State) (a0 : Array Value) (hw : ∀ d ∈ tables_1, d.before a0 Z = true) (b : Addr) (kb : ClassId) (d0 : Int32) (d1 : Int32) (d2 : Int32) (d3 : Int32) (r : Int32) (h0 : Heap) (n0 : Nat) (hn0 : n0 ≤ h0.size) (P0 : Arv Z h0 b kb .char (4 : Int32) [(.int d0), (.int d1), (.int d2), (.int d3)] (.int (0 : Int32))) (hr : (0 : Int32) = r) :
    Con l Z (⟨"com/example/apportion/apportion/input/DecimalsFirstWholeDigitPinLaw", "stops", "([CIII)Z"⟩ : MethodName) method_4_code 4 (some .boolean) [] ({ frames := 0, cells := 0, slots := 0, locals := 0 } : Room) #[(.ref b), (.int (2 : Int32)), (.int (1 : Int32)), (.int (1 : Int32))] h0 (fun v h L => v = some (.int r) ∧ Fr n0 L ∧ h = h0) := by
  refine enter (Ls := #[.val (.ref b), .val (.int (2 : Int32)), .val (.int (1 : Int32)), .val (.int (1 : Int32))]) (plainFor_of_name pn_4) (fun m => by exact entry_eq rfl) ?_
  intro p e s m below meth cd_ s₁ S0 hx hby hml hret hlk hnm hown hZ X0 e0 k0
  have N0 := Fr.nil n0
  have k1 : To p.tables e below S0 (s₁.setTop (mkF m 23 #[.val (.ref b), .val (.int (2 : Int32)), .val (.int (1 : Int32)), .val (.int (1 : Int32))] [(.int (0 : Int32))])) := fun tt hq => k0 tt (by
    show Steps _ _ _ (s₁.setTop (mkF m 0 #[.val (.ref b), .val (.int (2 : Int32)), .val (.int (1 : Int32)), .val (.int (1 : Int32))] [])) _
    refine XS.iloadN X0.here hx rfl (hb hby d_method_4_code_0) rfl ?_
    show Steps _ _ _ (s₁.setTop (mkF m 1 #[.val (.ref b), .val (.int (2 : Int32)), .val (.int (1 : Int32)), .val (.int (1 : Int32))] [(.int (2 : Int32))])) _
    refine XS.iloadN X0.here hx rfl (hb hby d_method_4_code_1) rfl ?_
    show Steps _ _ _ (s₁.setTop (mkF m 2 #[.val (.ref b), .val (.int (2 : Int32)), .val (.int (1 : Int32)), .val (.int (1 : Int32))] [(.int (1 : Int32)), (.int (2 : Int32))])) _
    refine XS.icmpNo X0.here hx rfl (hb hby d_method_4_code_2) rfl (flt (by decide)).1 ?_
    show Steps _ _ _ (s₁.setTop (mkF m 5 #[.val (.ref b), .val (.int (2 : Int32)), .val (.int (1 : Int32)), .val (.int (1 : Int32))] [])) _
    refine XS.iloadN X0.here hx rfl (hb hby d_method_4_code_5) rfl ?_
    show Steps _ _ _ (s₁.setTop (mkF m 6 #[.val (.ref b), .val (.int (2 : Int32)), .val (.int (1 : Int32)), .val (.int (1 : Int32))] [(.int (2 : Int32))])) _
    refine XS.iloadN X0.here hx rfl (hb hby d_method_4_code_6) rfl ?_
    show Steps _ _ _ (s₁.setTop (mkF m 7 #[.val (.ref b), .val (.int (2 : Int32)), .val (.int (1 : Int32)), .val (.int (1 : Int32))] [(.int (1 : Int32)), (.int (2 : Int32))])) _
    refine XS.icmpYes X0.here hx rfl (pc0 := 7) (pc' := 22) rfl (hb hby d_method_4_code_7) rfl (flt (by decide)).2.1 (by decide) (by decide) ?_
    show Steps _ _ _ (s₁.setTop (mkF m 22 #[.val (.ref b), .val (.int (2 : Int32)), .val (.int (1 : Int32)), .val (.int (1 : Int32))] [])) _
    refine XS.iconst X0.here hx rfl (hb hby d_method_4_code_22) ?_
    show Steps _ _ _ (s₁.setTop (mkF m 23 #[.val (.ref b), .val (.int (2 : Int32)), .val (.int (1 : Int32)), .val (.int (1 : Int32))] [(.int (0 : Int32))])) _
    exact hq)
  have hE := e0
  refine retInt X0 hx hret hlk (by simp) rfl (hb hby d_method_4_code_23) k1 ?_ (by decide) (by decide)
  try rw [hE]
  exact ⟨by rw [← hr], N0, rfl⟩
set_option maxRecDepth 65536 in
set_option maxHeartbeats 40000000 in
theorem rm_st3_1_1 (l : Launch) (Z : State) (a0 : Array Value) (hw : ∀ d ∈ tables_1, d.before a0 Z = true) (b : Addr) (kb : ClassId) (d0 : Int32) (d1 : Int32) (d2 : Int32) (d3 : Int32) (r : Int32) (h0 : Heap) (n0 : Nat) (hn0 : n0 ≤ h0.size) (P0 : Arv Z h0 b kb .char (4 : Int32) [(.int d0), (.int d1), (.int d2), (.int d3)] (.int (0 : Int32))) (hr : (0 : Int32) = r) :
    Con l Z (⟨"com/example/apportion/apportion/input/DecimalsFirstWholeDigitPinLaw", "stops", "([CIII)Z"⟩ : MethodName) method_4_code 4 (some .boolean) [] ({ frames := 0, cells := 0, slots := 0, locals := 0 } : Room) #[(.ref b), (.int (3 : Int32)), (.int (1 : Int32)), (.int (1 : Int32))] h0 (fun v h L => v = some (.int r) ∧ Fr n0 L ∧ h = h0) := by
  refine enter (Ls := #[.val (.ref b), .val (.int (3 : Int32)), .val (.int (1 : Int32)), .val (.int (1 : Int32))]) (plainFor_of_name pn_4) (fun m => by exact entry_eq rfl) ?_
  intro p e s m below meth cd_ s₁ S0 hx hby hml hret hlk hnm hown hZ X0 e0 k0
  have N0 := Fr.nil n0
  have k1 : To p.tables e below S0 (s₁.setTop (mkF m 23 #[.val (.ref b), .val (.int (3 : Int32)), .val (.int (1 : Int32)), .val (.int (1 : Int32))] [(.int (0 : Int32))])) := fun tt hq => k0 tt (by
    show Steps _ _ _ (s₁.setTop (mkF m 0 #[.val (.ref b), .val (.int (3 : Int32)), .val (.int (1 : Int32)), .val (.int (1 : Int32))] [])) _
    refine XS.iloadN X0.here hx rfl (hb hby d_method_4_code_0) rfl ?_
    show Steps _ _ _ (s₁.setTop (mkF m 1 #[.val (.ref b), .val (.int (3 : Int32)), .val (.int (1 : Int32)), .val (.int (1 : Int32))] [(.int (3 : Int32))])) _
    refine XS.iloadN X0.here hx rfl (hb hby d_method_4_code_1) rfl ?_
    show Steps _ _ _ (s₁.setTop (mkF m 2 #[.val (.ref b), .val (.int (3 : Int32)), .val (.int (1 : Int32)), .val (.int (1 : Int32))] [(.int (1 : Int32)), (.int (3 : Int32))])) _
    refine XS.icmpNo X0.here hx rfl (hb hby d_method_4_code_2) rfl (flt (by decide)).1 ?_
    show Steps _ _ _ (s₁.setTop (mkF m 5 #[.val (.ref b), .val (.int (3 : Int32)), .val (.int (1 : Int32)), .val (.int (1 : Int32))] [])) _
    refine XS.iloadN X0.here hx rfl (hb hby d_method_4_code_5) rfl ?_
    show Steps _ _ _ (s₁.setTop (mkF m 6 #[.val (.ref b), .val (.int (3 : Int32)), .val (.int (1 : Int32)), .val (.int (1 : Int32))] [(.int (3 : Int32))])) _
    refine XS.iloadN X0.here hx rfl (hb hby d_method_4_code_6) rfl ?_
    show Steps _ _ _ (s₁.setTop (mkF m 7 #[.val (.ref b), .val (.int (3 : Int32)), .val (.int (1 : Int32)), .val (.int (1 : Int32))] [(.int (1 : Int32)), (.int (3 : Int32))])) _
    refine XS.icmpYes X0.here hx rfl (pc0 := 7) (pc' := 22) rfl (hb hby d_method_4_code_7) rfl (flt (by decide)).2.1 (by decide) (by decide) ?_
    show Steps _ _ _ (s₁.setTop (mkF m 22 #[.val (.ref b), .val (.int (3 : Int32)), .val (.int (1 : Int32)), .val (.int (1 : Int32))] [])) _
    refine XS.iconst X0.here hx rfl (hb hby d_method_4_code_22) ?_
    show Steps _ _ _ (s₁.setTop (mkF m 23 #[.val (.ref b), .val (.int (3 : Int32)), .val (.int (1 : Int32)), .val (.int (1 : Int32))] [(.int (0 : Int32))])) _
    exact hq)
  have hE := e0
  refine retInt X0 hx hret hlk (by simp) rfl (hb hby d_method_4_code_23) k1 ?_ (by decide) (by decide)
  try rw [hE]
  exact ⟨by rw [← hr], N0, rfl⟩
set_option maxRecDepth 65536 in
set_option maxHeartbeats 40000000 in
theorem rm_st0_1_2 (l : Launch) (Z : State) (a0 : Array Value) (hw : ∀ d ∈ tables_1, d.before a0 Z = true) (b : Addr) (kb : ClassId) (d0 : Int32) (d1 : Int32) (d2 : Int32) (d3 : Int32) (r : Int32) (h0 : Heap) (n0 : Nat) (hn0 : n0 ≤ h0.size) (P0 : Arv Z h0 b kb .char (4 : Int32) [(.int d0), (.int d1), (.int d2), (.int d3)] (.int (0 : Int32))) (hr : (0 : Int32) = r) :
    Con l Z (⟨"com/example/apportion/apportion/input/DecimalsFirstWholeDigitPinLaw", "stops", "([CIII)Z"⟩ : MethodName) method_4_code 4 (some .boolean) [] ({ frames := 0, cells := 0, slots := 0, locals := 0 } : Room) #[(.ref b), (.int (0 : Int32)), (.int (1 : Int32)), (.int (2 : Int32))] h0 (fun v h L => v = some (.int r) ∧ Fr n0 L ∧ h = h0) := by
  refine enter (Ls := #[.val (.ref b), .val (.int (0 : Int32)), .val (.int (1 : Int32)), .val (.int (2 : Int32))]) (plainFor_of_name pn_4) (fun m => by exact entry_eq rfl) ?_
  intro p e s m below meth cd_ s₁ S0 hx hby hml hret hlk hnm hown hZ X0 e0 k0
  have N0 := Fr.nil n0
  have k1 : To p.tables e below S0 (s₁.setTop (mkF m 23 #[.val (.ref b), .val (.int (0 : Int32)), .val (.int (1 : Int32)), .val (.int (2 : Int32))] [(.int (0 : Int32))])) := fun tt hq => k0 tt (by
    show Steps _ _ _ (s₁.setTop (mkF m 0 #[.val (.ref b), .val (.int (0 : Int32)), .val (.int (1 : Int32)), .val (.int (2 : Int32))] [])) _
    refine XS.iloadN X0.here hx rfl (hb hby d_method_4_code_0) rfl ?_
    show Steps _ _ _ (s₁.setTop (mkF m 1 #[.val (.ref b), .val (.int (0 : Int32)), .val (.int (1 : Int32)), .val (.int (2 : Int32))] [(.int (0 : Int32))])) _
    refine XS.iloadN X0.here hx rfl (hb hby d_method_4_code_1) rfl ?_
    show Steps _ _ _ (s₁.setTop (mkF m 2 #[.val (.ref b), .val (.int (0 : Int32)), .val (.int (1 : Int32)), .val (.int (2 : Int32))] [(.int (1 : Int32)), (.int (0 : Int32))])) _
    refine XS.icmpYes X0.here hx rfl (pc0 := 2) (pc' := 22) rfl (hb hby d_method_4_code_2) rfl (tlt (by decide)).1 (by decide) (by decide) ?_
    show Steps _ _ _ (s₁.setTop (mkF m 22 #[.val (.ref b), .val (.int (0 : Int32)), .val (.int (1 : Int32)), .val (.int (2 : Int32))] [])) _
    refine XS.iconst X0.here hx rfl (hb hby d_method_4_code_22) ?_
    show Steps _ _ _ (s₁.setTop (mkF m 23 #[.val (.ref b), .val (.int (0 : Int32)), .val (.int (1 : Int32)), .val (.int (2 : Int32))] [(.int (0 : Int32))])) _
    exact hq)
  have hE := e0
  refine retInt X0 hx hret hlk (by simp) rfl (hb hby d_method_4_code_23) k1 ?_ (by decide) (by decide)
  try rw [hE]
  exact ⟨by rw [← hr], N0, rfl⟩
set_option maxRecDepth 65536 in
set_option maxHeartbeats 40000000 in
theorem rm_st1_1_2 (l : Launch) (Z : State) (a0 : Array Value) (hw : ∀ d ∈ tables_1, d.before a0 Z = true) (b : Addr) (kb : ClassId) (d0 : Int32) (d1 : Int32) (d2 : Int32) (d3 : Int32) (r : Int32) (h0 : Heap) (n0 : Nat) (hn0 : n0 ≤ h0.size) (P0 : Arv Z h0 b kb .char (4 : Int32) [(.int d0), (.int d1), (.int d2), (.int d3)] (.int (0 : Int32))) (hr : (if d1 = (48 : Int32) then (0 : Int32) else 1) = r) :
    Con l Z (⟨"com/example/apportion/apportion/input/DecimalsFirstWholeDigitPinLaw", "stops", "([CIII)Z"⟩ : MethodName) method_4_code 4 (some .boolean) [] ({ frames := 0, cells := 0, slots := 0, locals := 0 } : Room) #[(.ref b), (.int (1 : Int32)), (.int (1 : Int32)), (.int (2 : Int32))] h0 (fun v h L => v = some (.int r) ∧ Fr n0 L ∧ h = h0) := by
  refine enter (Ls := #[.val (.ref b), .val (.int (1 : Int32)), .val (.int (1 : Int32)), .val (.int (2 : Int32))]) (plainFor_of_name pn_4) (fun m => by exact entry_eq rfl) ?_
  intro p e s m below meth cd_ s₁ S0 hx hby hml hret hlk hnm hown hZ X0 e0 k0
  have N0 := Fr.nil n0
  have k1 : To p.tables e below S0 (s₁.setTop (mkF m 12 #[.val (.ref b), .val (.int (1 : Int32)), .val (.int (1 : Int32)), .val (.int (2 : Int32))] [(.int (1 : Int32)), (.ref b)])) := fun tt hq => k0 tt (by
    show Steps _ _ _ (s₁.setTop (mkF m 0 #[.val (.ref b), .val (.int (1 : Int32)), .val (.int (1 : Int32)), .val (.int (2 : Int32))] [])) _
    refine XS.iloadN X0.here hx rfl (hb hby d_method_4_code_0) rfl ?_
    show Steps _ _ _ (s₁.setTop (mkF m 1 #[.val (.ref b), .val (.int (1 : Int32)), .val (.int (1 : Int32)), .val (.int (2 : Int32))] [(.int (1 : Int32))])) _
    refine XS.iloadN X0.here hx rfl (hb hby d_method_4_code_1) rfl ?_
    show Steps _ _ _ (s₁.setTop (mkF m 2 #[.val (.ref b), .val (.int (1 : Int32)), .val (.int (1 : Int32)), .val (.int (2 : Int32))] [(.int (1 : Int32)), (.int (1 : Int32))])) _
    refine XS.icmpNo X0.here hx rfl (hb hby d_method_4_code_2) rfl (flt (by decide)).1 ?_
    show Steps _ _ _ (s₁.setTop (mkF m 5 #[.val (.ref b), .val (.int (1 : Int32)), .val (.int (1 : Int32)), .val (.int (2 : Int32))] [])) _
    refine XS.iloadN X0.here hx rfl (hb hby d_method_4_code_5) rfl ?_
    show Steps _ _ _ (s₁.setTop (mkF m 6 #[.val (.ref b), .val (.int (1 : Int32)), .val (.int (1 : Int32)), .val (.int (2 : Int32))] [(.int (1 : Int32))])) _
    refine XS.iloadN X0.here hx rfl (hb hby d_method_4_code_6) rfl ?_
    show Steps _ _ _ (s₁.setTop (mkF m 7 #[.val (.ref b), .val (.int (1 : Int32)), .val (.int (1 : Int32)), .val (.int (2 : Int32))] [(.int (2 : Int32)), (.int (1 : Int32))])) _
    refine XS.icmpNo X0.here hx rfl (hb hby d_method_4_code_7) rfl (tlt (by decide)).2.1 ?_
    show Steps _ _ _ (s₁.setTop (mkF m 10 #[.val (.ref b), .val (.int (1 : Int32)), .val (.int (1 : Int32)), .val (.int (2 : Int32))] [])) _
    refine XS.aloadN X0.here hx rfl (hb hby d_method_4_code_10) rfl rfl ?_
    show Steps _ _ _ (s₁.setTop (mkF m 11 #[.val (.ref b), .val (.int (1 : Int32)), .val (.int (1 : Int32)), .val (.int (2 : Int32))] [(.ref b)])) _
    refine XS.iloadN X0.here hx rfl (hb hby d_method_4_code_11) rfl ?_
    show Steps _ _ _ (s₁.setTop (mkF m 12 #[.val (.ref b), .val (.int (1 : Int32)), .val (.int (1 : Int32)), .val (.int (2 : Int32))] [(.int (1 : Int32)), (.ref b)])) _
    exact hq)
  obtain ⟨cl2, Ar2, -, S2, -, G2, -⟩ := id P0
  have hi2 := inb_of (j := (1 : Int32)) S2 ⟨by decide, by decide⟩
  have st2 := fun tt => X0.caload hx (j := (1 : Int32)) (v := (.int d1)) (by rw [e0]; exact Ar2.1) (State.isArrayOf_alike hZ.alike Ar2.2.1) Ar2.2.2 hi2 (G2.at hi2 rfl) (g := (mkF m 12 #[.val (.ref b), .val (.int (1 : Int32)), .val (.int (1 : Int32)), .val (.int (2 : Int32))] [(.int (1 : Int32)), (.ref b)])) rfl rfl (hb hby d_method_4_code_12) tt
  have k2 : To p.tables e below S0 (s₁.setTop (mkF m 13 #[.val (.ref b), .val (.int (1 : Int32)), .val (.int (1 : Int32)), .val (.int (2 : Int32))] [(.int d1)])) := fun tt hq => k1 tt (st2 tt hq)
  have k3 : To p.tables e below S0 (s₁.setTop (mkF m 15 #[.val (.ref b), .val (.int (1 : Int32)), .val (.int (1 : Int32)), .val (.int (2 : Int32))] [(.int (48 : Int32)), (.int d1)])) := fun tt hq => k2 tt (by
    show Steps _ _ _ (s₁.setTop (mkF m 13 #[.val (.ref b), .val (.int (1 : Int32)), .val (.int (1 : Int32)), .val (.int (2 : Int32))] [(.int d1)])) _
    refine XS.bipush X0.here hx rfl (hb hby d_method_4_code_13) ?_
    show Steps _ _ _ (s₁.setTop (mkF m 15 #[.val (.ref b), .val (.int (1 : Int32)), .val (.int (1 : Int32)), .val (.int (2 : Int32))] [(.int (48 : Int32)), (.int d1)])) _
    exact hq)
  by_cases hc15_4 : d1 = (48 : Int32)
  · -- pc 15, holds
    have k5 : To p.tables e below S0 (s₁.setTop (mkF m 23 #[.val (.ref b), .val (.int (1 : Int32)), .val (.int (1 : Int32)), .val (.int (2 : Int32))] [(.int (0 : Int32))])) := fun tt hq => k3 tt (by
      show Steps _ _ _ (s₁.setTop (mkF m 15 #[.val (.ref b), .val (.int (1 : Int32)), .val (.int (1 : Int32)), .val (.int (2 : Int32))] [(.int (48 : Int32)), (.int d1)])) _
      refine XS.icmpYes X0.here hx rfl (pc0 := 15) (pc' := 22) rfl (hb hby d_method_4_code_15) rfl (teq hc15_4).1 (by decide) (by decide) ?_
      show Steps _ _ _ (s₁.setTop (mkF m 22 #[.val (.ref b), .val (.int (1 : Int32)), .val (.int (1 : Int32)), .val (.int (2 : Int32))] [])) _
      refine XS.iconst X0.here hx rfl (hb hby d_method_4_code_22) ?_
      show Steps _ _ _ (s₁.setTop (mkF m 23 #[.val (.ref b), .val (.int (1 : Int32)), .val (.int (1 : Int32)), .val (.int (2 : Int32))] [(.int (0 : Int32))])) _
      exact hq)
    have hE := e0
    refine retInt X0 hx hret hlk (by simp) rfl (hb hby d_method_4_code_23) k5 ?_ (by decide) (by decide)
    try rw [hE]
    exact ⟨by rw [← hr, if_pos hc15_4], N0, rfl⟩
  · -- pc 15, holds not
    have k6 : To p.tables e below S0 (s₁.setTop (mkF m 23 #[.val (.ref b), .val (.int (1 : Int32)), .val (.int (1 : Int32)), .val (.int (2 : Int32))] [(.int (1 : Int32))])) := fun tt hq => k3 tt (by
      show Steps _ _ _ (s₁.setTop (mkF m 15 #[.val (.ref b), .val (.int (1 : Int32)), .val (.int (1 : Int32)), .val (.int (2 : Int32))] [(.int (48 : Int32)), (.int d1)])) _
      refine XS.icmpNo X0.here hx rfl (hb hby d_method_4_code_15) rfl (feq hc15_4).1 ?_
      show Steps _ _ _ (s₁.setTop (mkF m 18 #[.val (.ref b), .val (.int (1 : Int32)), .val (.int (1 : Int32)), .val (.int (2 : Int32))] [])) _
      refine XS.iconst X0.here hx rfl (hb hby d_method_4_code_18) ?_
      show Steps _ _ _ (s₁.setTop (mkF m 19 #[.val (.ref b), .val (.int (1 : Int32)), .val (.int (1 : Int32)), .val (.int (2 : Int32))] [(.int (1 : Int32))])) _
      refine XS.goto X0.here hx rfl (pc0 := 19) (pc' := 23) rfl (hb hby d_method_4_code_19) (by decide) (by decide) ?_
      show Steps _ _ _ (s₁.setTop (mkF m 23 #[.val (.ref b), .val (.int (1 : Int32)), .val (.int (1 : Int32)), .val (.int (2 : Int32))] [(.int (1 : Int32))])) _
      exact hq)
    have hE := e0
    refine retInt X0 hx hret hlk (by simp) rfl (hb hby d_method_4_code_23) k6 ?_ (by decide) (by decide)
    try rw [hE]
    exact ⟨by rw [← hr, if_neg hc15_4], N0, rfl⟩
set_option maxRecDepth 65536 in
set_option maxHeartbeats 40000000 in
theorem rm_st2_1_2 (l : Launch) (Z : State) (a0 : Array Value) (hw : ∀ d ∈ tables_1, d.before a0 Z = true) (b : Addr) (kb : ClassId) (d0 : Int32) (d1 : Int32) (d2 : Int32) (d3 : Int32) (r : Int32) (h0 : Heap) (n0 : Nat) (hn0 : n0 ≤ h0.size) (P0 : Arv Z h0 b kb .char (4 : Int32) [(.int d0), (.int d1), (.int d2), (.int d3)] (.int (0 : Int32))) (hr : (0 : Int32) = r) :
    Con l Z (⟨"com/example/apportion/apportion/input/DecimalsFirstWholeDigitPinLaw", "stops", "([CIII)Z"⟩ : MethodName) method_4_code 4 (some .boolean) [] ({ frames := 0, cells := 0, slots := 0, locals := 0 } : Room) #[(.ref b), (.int (2 : Int32)), (.int (1 : Int32)), (.int (2 : Int32))] h0 (fun v h L => v = some (.int r) ∧ Fr n0 L ∧ h = h0) := by
  refine enter (Ls := #[.val (.ref b), .val (.int (2 : Int32)), .val (.int (1 : Int32)), .val (.int (2 : Int32))]) (plainFor_of_name pn_4) (fun m => by exact entry_eq rfl) ?_
  intro p e s m below meth cd_ s₁ S0 hx hby hml hret hlk hnm hown hZ X0 e0 k0
  have N0 := Fr.nil n0
  have k1 : To p.tables e below S0 (s₁.setTop (mkF m 23 #[.val (.ref b), .val (.int (2 : Int32)), .val (.int (1 : Int32)), .val (.int (2 : Int32))] [(.int (0 : Int32))])) := fun tt hq => k0 tt (by
    show Steps _ _ _ (s₁.setTop (mkF m 0 #[.val (.ref b), .val (.int (2 : Int32)), .val (.int (1 : Int32)), .val (.int (2 : Int32))] [])) _
    refine XS.iloadN X0.here hx rfl (hb hby d_method_4_code_0) rfl ?_
    show Steps _ _ _ (s₁.setTop (mkF m 1 #[.val (.ref b), .val (.int (2 : Int32)), .val (.int (1 : Int32)), .val (.int (2 : Int32))] [(.int (2 : Int32))])) _
    refine XS.iloadN X0.here hx rfl (hb hby d_method_4_code_1) rfl ?_
    show Steps _ _ _ (s₁.setTop (mkF m 2 #[.val (.ref b), .val (.int (2 : Int32)), .val (.int (1 : Int32)), .val (.int (2 : Int32))] [(.int (1 : Int32)), (.int (2 : Int32))])) _
    refine XS.icmpNo X0.here hx rfl (hb hby d_method_4_code_2) rfl (flt (by decide)).1 ?_
    show Steps _ _ _ (s₁.setTop (mkF m 5 #[.val (.ref b), .val (.int (2 : Int32)), .val (.int (1 : Int32)), .val (.int (2 : Int32))] [])) _
    refine XS.iloadN X0.here hx rfl (hb hby d_method_4_code_5) rfl ?_
    show Steps _ _ _ (s₁.setTop (mkF m 6 #[.val (.ref b), .val (.int (2 : Int32)), .val (.int (1 : Int32)), .val (.int (2 : Int32))] [(.int (2 : Int32))])) _
    refine XS.iloadN X0.here hx rfl (hb hby d_method_4_code_6) rfl ?_
    show Steps _ _ _ (s₁.setTop (mkF m 7 #[.val (.ref b), .val (.int (2 : Int32)), .val (.int (1 : Int32)), .val (.int (2 : Int32))] [(.int (2 : Int32)), (.int (2 : Int32))])) _
    refine XS.icmpYes X0.here hx rfl (pc0 := 7) (pc' := 22) rfl (hb hby d_method_4_code_7) rfl (flt (by decide)).2.1 (by decide) (by decide) ?_
    show Steps _ _ _ (s₁.setTop (mkF m 22 #[.val (.ref b), .val (.int (2 : Int32)), .val (.int (1 : Int32)), .val (.int (2 : Int32))] [])) _
    refine XS.iconst X0.here hx rfl (hb hby d_method_4_code_22) ?_
    show Steps _ _ _ (s₁.setTop (mkF m 23 #[.val (.ref b), .val (.int (2 : Int32)), .val (.int (1 : Int32)), .val (.int (2 : Int32))] [(.int (0 : Int32))])) _
    exact hq)
  have hE := e0
  refine retInt X0 hx hret hlk (by simp) rfl (hb hby d_method_4_code_23) k1 ?_ (by decide) (by decide)
  try rw [hE]
  exact ⟨by rw [← hr], N0, rfl⟩
set_option maxRecDepth 65536 in
set_option maxHeartbeats 40000000 in
theorem rm_st3_1_2 (l : Launch) (Z : State) (a0 : Array Value) (hw : ∀ d ∈ tables_1, d.before a0 Z = true) (b : Addr) (kb : ClassId) (d0 : Int32) (d1 : Int32) (d2 : Int32) (d3 : Int32) (r : Int32) (h0 : Heap) (n0 : Nat) (hn0 : n0 ≤ h0.size) (P0 : Arv Z h0 b kb .char (4 : Int32) [(.int d0), (.int d1), (.int d2), (.int d3)] (.int (0 : Int32))) (hr : (0 : Int32) = r) :
    Con l Z (⟨"com/example/apportion/apportion/input/DecimalsFirstWholeDigitPinLaw", "stops", "([CIII)Z"⟩ : MethodName) method_4_code 4 (some .boolean) [] ({ frames := 0, cells := 0, slots := 0, locals := 0 } : Room) #[(.ref b), (.int (3 : Int32)), (.int (1 : Int32)), (.int (2 : Int32))] h0 (fun v h L => v = some (.int r) ∧ Fr n0 L ∧ h = h0) := by
  refine enter (Ls := #[.val (.ref b), .val (.int (3 : Int32)), .val (.int (1 : Int32)), .val (.int (2 : Int32))]) (plainFor_of_name pn_4) (fun m => by exact entry_eq rfl) ?_
  intro p e s m below meth cd_ s₁ S0 hx hby hml hret hlk hnm hown hZ X0 e0 k0
  have N0 := Fr.nil n0
  have k1 : To p.tables e below S0 (s₁.setTop (mkF m 23 #[.val (.ref b), .val (.int (3 : Int32)), .val (.int (1 : Int32)), .val (.int (2 : Int32))] [(.int (0 : Int32))])) := fun tt hq => k0 tt (by
    show Steps _ _ _ (s₁.setTop (mkF m 0 #[.val (.ref b), .val (.int (3 : Int32)), .val (.int (1 : Int32)), .val (.int (2 : Int32))] [])) _
    refine XS.iloadN X0.here hx rfl (hb hby d_method_4_code_0) rfl ?_
    show Steps _ _ _ (s₁.setTop (mkF m 1 #[.val (.ref b), .val (.int (3 : Int32)), .val (.int (1 : Int32)), .val (.int (2 : Int32))] [(.int (3 : Int32))])) _
    refine XS.iloadN X0.here hx rfl (hb hby d_method_4_code_1) rfl ?_
    show Steps _ _ _ (s₁.setTop (mkF m 2 #[.val (.ref b), .val (.int (3 : Int32)), .val (.int (1 : Int32)), .val (.int (2 : Int32))] [(.int (1 : Int32)), (.int (3 : Int32))])) _
    refine XS.icmpNo X0.here hx rfl (hb hby d_method_4_code_2) rfl (flt (by decide)).1 ?_
    show Steps _ _ _ (s₁.setTop (mkF m 5 #[.val (.ref b), .val (.int (3 : Int32)), .val (.int (1 : Int32)), .val (.int (2 : Int32))] [])) _
    refine XS.iloadN X0.here hx rfl (hb hby d_method_4_code_5) rfl ?_
    show Steps _ _ _ (s₁.setTop (mkF m 6 #[.val (.ref b), .val (.int (3 : Int32)), .val (.int (1 : Int32)), .val (.int (2 : Int32))] [(.int (3 : Int32))])) _
    refine XS.iloadN X0.here hx rfl (hb hby d_method_4_code_6) rfl ?_
    show Steps _ _ _ (s₁.setTop (mkF m 7 #[.val (.ref b), .val (.int (3 : Int32)), .val (.int (1 : Int32)), .val (.int (2 : Int32))] [(.int (2 : Int32)), (.int (3 : Int32))])) _
    refine XS.icmpYes X0.here hx rfl (pc0 := 7) (pc' := 22) rfl (hb hby d_method_4_code_7) rfl (flt (by decide)).2.1 (by decide) (by decide) ?_
    show Steps _ _ _ (s₁.setTop (mkF m 22 #[.val (.ref b), .val (.int (3 : Int32)), .val (.int (1 : Int32)), .val (.int (2 : Int32))] [])) _
    refine XS.iconst X0.here hx rfl (hb hby d_method_4_code_22) ?_
    show Steps _ _ _ (s₁.setTop (mkF m 23 #[.val (.ref b), .val (.int (3 : Int32)), .val (.int (1 : Int32)), .val (.int (2 : Int32))] [(.int (0 : Int32))])) _
    exact hq)
  have hE := e0
  refine retInt X0 hx hret hlk (by simp) rfl (hb hby d_method_4_code_23) k1 ?_ (by decide) (by decide)
  try rw [hE]
  exact ⟨by rw [← hr], N0, rfl⟩
set_option maxRecDepth 65536 in
set_option maxHeartbeats 40000000 in
theorem rm_st0_1_3 (l : Launch) (Z : State) (a0 : Array Value) (hw : ∀ d ∈ tables_1, d.before a0 Z = true) (b : Addr) (kb : ClassId) (d0 : Int32) (d1 : Int32) (d2 : Int32) (d3 : Int32) (r : Int32) (h0 : Heap) (n0 : Nat) (hn0 : n0 ≤ h0.size) (P0 : Arv Z h0 b kb .char (4 : Int32) [(.int d0), (.int d1), (.int d2), (.int d3)] (.int (0 : Int32))) (hr : (0 : Int32) = r) :
    Con l Z (⟨"com/example/apportion/apportion/input/DecimalsFirstWholeDigitPinLaw", "stops", "([CIII)Z"⟩ : MethodName) method_4_code 4 (some .boolean) [] ({ frames := 0, cells := 0, slots := 0, locals := 0 } : Room) #[(.ref b), (.int (0 : Int32)), (.int (1 : Int32)), (.int (3 : Int32))] h0 (fun v h L => v = some (.int r) ∧ Fr n0 L ∧ h = h0) := by
  refine enter (Ls := #[.val (.ref b), .val (.int (0 : Int32)), .val (.int (1 : Int32)), .val (.int (3 : Int32))]) (plainFor_of_name pn_4) (fun m => by exact entry_eq rfl) ?_
  intro p e s m below meth cd_ s₁ S0 hx hby hml hret hlk hnm hown hZ X0 e0 k0
  have N0 := Fr.nil n0
  have k1 : To p.tables e below S0 (s₁.setTop (mkF m 23 #[.val (.ref b), .val (.int (0 : Int32)), .val (.int (1 : Int32)), .val (.int (3 : Int32))] [(.int (0 : Int32))])) := fun tt hq => k0 tt (by
    show Steps _ _ _ (s₁.setTop (mkF m 0 #[.val (.ref b), .val (.int (0 : Int32)), .val (.int (1 : Int32)), .val (.int (3 : Int32))] [])) _
    refine XS.iloadN X0.here hx rfl (hb hby d_method_4_code_0) rfl ?_
    show Steps _ _ _ (s₁.setTop (mkF m 1 #[.val (.ref b), .val (.int (0 : Int32)), .val (.int (1 : Int32)), .val (.int (3 : Int32))] [(.int (0 : Int32))])) _
    refine XS.iloadN X0.here hx rfl (hb hby d_method_4_code_1) rfl ?_
    show Steps _ _ _ (s₁.setTop (mkF m 2 #[.val (.ref b), .val (.int (0 : Int32)), .val (.int (1 : Int32)), .val (.int (3 : Int32))] [(.int (1 : Int32)), (.int (0 : Int32))])) _
    refine XS.icmpYes X0.here hx rfl (pc0 := 2) (pc' := 22) rfl (hb hby d_method_4_code_2) rfl (tlt (by decide)).1 (by decide) (by decide) ?_
    show Steps _ _ _ (s₁.setTop (mkF m 22 #[.val (.ref b), .val (.int (0 : Int32)), .val (.int (1 : Int32)), .val (.int (3 : Int32))] [])) _
    refine XS.iconst X0.here hx rfl (hb hby d_method_4_code_22) ?_
    show Steps _ _ _ (s₁.setTop (mkF m 23 #[.val (.ref b), .val (.int (0 : Int32)), .val (.int (1 : Int32)), .val (.int (3 : Int32))] [(.int (0 : Int32))])) _
    exact hq)
  have hE := e0
  refine retInt X0 hx hret hlk (by simp) rfl (hb hby d_method_4_code_23) k1 ?_ (by decide) (by decide)
  try rw [hE]
  exact ⟨by rw [← hr], N0, rfl⟩
set_option maxRecDepth 65536 in
set_option maxHeartbeats 40000000 in
theorem rm_st1_1_3 (l : Launch) (Z : State) (a0 : Array Value) (hw : ∀ d ∈ tables_1, d.before a0 Z = true) (b : Addr) (kb : ClassId) (d0 : Int32) (d1 : Int32) (d2 : Int32) (d3 : Int32) (r : Int32) (h0 : Heap) (n0 : Nat) (hn0 : n0 ≤ h0.size) (P0 : Arv Z h0 b kb .char (4 : Int32) [(.int d0), (.int d1), (.int d2), (.int d3)] (.int (0 : Int32))) (hr : (if d1 = (48 : Int32) then (0 : Int32) else 1) = r) :
    Con l Z (⟨"com/example/apportion/apportion/input/DecimalsFirstWholeDigitPinLaw", "stops", "([CIII)Z"⟩ : MethodName) method_4_code 4 (some .boolean) [] ({ frames := 0, cells := 0, slots := 0, locals := 0 } : Room) #[(.ref b), (.int (1 : Int32)), (.int (1 : Int32)), (.int (3 : Int32))] h0 (fun v h L => v = some (.int r) ∧ Fr n0 L ∧ h = h0) := by
  refine enter (Ls := #[.val (.ref b), .val (.int (1 : Int32)), .val (.int (1 : Int32)), .val (.int (3 : Int32))]) (plainFor_of_name pn_4) (fun m => by exact entry_eq rfl) ?_
  intro p e s m below meth cd_ s₁ S0 hx hby hml hret hlk hnm hown hZ X0 e0 k0
  have N0 := Fr.nil n0
  have k1 : To p.tables e below S0 (s₁.setTop (mkF m 12 #[.val (.ref b), .val (.int (1 : Int32)), .val (.int (1 : Int32)), .val (.int (3 : Int32))] [(.int (1 : Int32)), (.ref b)])) := fun tt hq => k0 tt (by
    show Steps _ _ _ (s₁.setTop (mkF m 0 #[.val (.ref b), .val (.int (1 : Int32)), .val (.int (1 : Int32)), .val (.int (3 : Int32))] [])) _
    refine XS.iloadN X0.here hx rfl (hb hby d_method_4_code_0) rfl ?_
    show Steps _ _ _ (s₁.setTop (mkF m 1 #[.val (.ref b), .val (.int (1 : Int32)), .val (.int (1 : Int32)), .val (.int (3 : Int32))] [(.int (1 : Int32))])) _
    refine XS.iloadN X0.here hx rfl (hb hby d_method_4_code_1) rfl ?_
    show Steps _ _ _ (s₁.setTop (mkF m 2 #[.val (.ref b), .val (.int (1 : Int32)), .val (.int (1 : Int32)), .val (.int (3 : Int32))] [(.int (1 : Int32)), (.int (1 : Int32))])) _
    refine XS.icmpNo X0.here hx rfl (hb hby d_method_4_code_2) rfl (flt (by decide)).1 ?_
    show Steps _ _ _ (s₁.setTop (mkF m 5 #[.val (.ref b), .val (.int (1 : Int32)), .val (.int (1 : Int32)), .val (.int (3 : Int32))] [])) _
    refine XS.iloadN X0.here hx rfl (hb hby d_method_4_code_5) rfl ?_
    show Steps _ _ _ (s₁.setTop (mkF m 6 #[.val (.ref b), .val (.int (1 : Int32)), .val (.int (1 : Int32)), .val (.int (3 : Int32))] [(.int (1 : Int32))])) _
    refine XS.iloadN X0.here hx rfl (hb hby d_method_4_code_6) rfl ?_
    show Steps _ _ _ (s₁.setTop (mkF m 7 #[.val (.ref b), .val (.int (1 : Int32)), .val (.int (1 : Int32)), .val (.int (3 : Int32))] [(.int (3 : Int32)), (.int (1 : Int32))])) _
    refine XS.icmpNo X0.here hx rfl (hb hby d_method_4_code_7) rfl (tlt (by decide)).2.1 ?_
    show Steps _ _ _ (s₁.setTop (mkF m 10 #[.val (.ref b), .val (.int (1 : Int32)), .val (.int (1 : Int32)), .val (.int (3 : Int32))] [])) _
    refine XS.aloadN X0.here hx rfl (hb hby d_method_4_code_10) rfl rfl ?_
    show Steps _ _ _ (s₁.setTop (mkF m 11 #[.val (.ref b), .val (.int (1 : Int32)), .val (.int (1 : Int32)), .val (.int (3 : Int32))] [(.ref b)])) _
    refine XS.iloadN X0.here hx rfl (hb hby d_method_4_code_11) rfl ?_
    show Steps _ _ _ (s₁.setTop (mkF m 12 #[.val (.ref b), .val (.int (1 : Int32)), .val (.int (1 : Int32)), .val (.int (3 : Int32))] [(.int (1 : Int32)), (.ref b)])) _
    exact hq)
  obtain ⟨cl2, Ar2, -, S2, -, G2, -⟩ := id P0
  have hi2 := inb_of (j := (1 : Int32)) S2 ⟨by decide, by decide⟩
  have st2 := fun tt => X0.caload hx (j := (1 : Int32)) (v := (.int d1)) (by rw [e0]; exact Ar2.1) (State.isArrayOf_alike hZ.alike Ar2.2.1) Ar2.2.2 hi2 (G2.at hi2 rfl) (g := (mkF m 12 #[.val (.ref b), .val (.int (1 : Int32)), .val (.int (1 : Int32)), .val (.int (3 : Int32))] [(.int (1 : Int32)), (.ref b)])) rfl rfl (hb hby d_method_4_code_12) tt
  have k2 : To p.tables e below S0 (s₁.setTop (mkF m 13 #[.val (.ref b), .val (.int (1 : Int32)), .val (.int (1 : Int32)), .val (.int (3 : Int32))] [(.int d1)])) := fun tt hq => k1 tt (st2 tt hq)
  have k3 : To p.tables e below S0 (s₁.setTop (mkF m 15 #[.val (.ref b), .val (.int (1 : Int32)), .val (.int (1 : Int32)), .val (.int (3 : Int32))] [(.int (48 : Int32)), (.int d1)])) := fun tt hq => k2 tt (by
    show Steps _ _ _ (s₁.setTop (mkF m 13 #[.val (.ref b), .val (.int (1 : Int32)), .val (.int (1 : Int32)), .val (.int (3 : Int32))] [(.int d1)])) _
    refine XS.bipush X0.here hx rfl (hb hby d_method_4_code_13) ?_
    show Steps _ _ _ (s₁.setTop (mkF m 15 #[.val (.ref b), .val (.int (1 : Int32)), .val (.int (1 : Int32)), .val (.int (3 : Int32))] [(.int (48 : Int32)), (.int d1)])) _
    exact hq)
  by_cases hc15_4 : d1 = (48 : Int32)
  · -- pc 15, holds
    have k5 : To p.tables e below S0 (s₁.setTop (mkF m 23 #[.val (.ref b), .val (.int (1 : Int32)), .val (.int (1 : Int32)), .val (.int (3 : Int32))] [(.int (0 : Int32))])) := fun tt hq => k3 tt (by
      show Steps _ _ _ (s₁.setTop (mkF m 15 #[.val (.ref b), .val (.int (1 : Int32)), .val (.int (1 : Int32)), .val (.int (3 : Int32))] [(.int (48 : Int32)), (.int d1)])) _
      refine XS.icmpYes X0.here hx rfl (pc0 := 15) (pc' := 22) rfl (hb hby d_method_4_code_15) rfl (teq hc15_4).1 (by decide) (by decide) ?_
      show Steps _ _ _ (s₁.setTop (mkF m 22 #[.val (.ref b), .val (.int (1 : Int32)), .val (.int (1 : Int32)), .val (.int (3 : Int32))] [])) _
      refine XS.iconst X0.here hx rfl (hb hby d_method_4_code_22) ?_
      show Steps _ _ _ (s₁.setTop (mkF m 23 #[.val (.ref b), .val (.int (1 : Int32)), .val (.int (1 : Int32)), .val (.int (3 : Int32))] [(.int (0 : Int32))])) _
      exact hq)
    have hE := e0
    refine retInt X0 hx hret hlk (by simp) rfl (hb hby d_method_4_code_23) k5 ?_ (by decide) (by decide)
    try rw [hE]
    exact ⟨by rw [← hr, if_pos hc15_4], N0, rfl⟩
  · -- pc 15, holds not
    have k6 : To p.tables e below S0 (s₁.setTop (mkF m 23 #[.val (.ref b), .val (.int (1 : Int32)), .val (.int (1 : Int32)), .val (.int (3 : Int32))] [(.int (1 : Int32))])) := fun tt hq => k3 tt (by
      show Steps _ _ _ (s₁.setTop (mkF m 15 #[.val (.ref b), .val (.int (1 : Int32)), .val (.int (1 : Int32)), .val (.int (3 : Int32))] [(.int (48 : Int32)), (.int d1)])) _
      refine XS.icmpNo X0.here hx rfl (hb hby d_method_4_code_15) rfl (feq hc15_4).1 ?_
      show Steps _ _ _ (s₁.setTop (mkF m 18 #[.val (.ref b), .val (.int (1 : Int32)), .val (.int (1 : Int32)), .val (.int (3 : Int32))] [])) _
      refine XS.iconst X0.here hx rfl (hb hby d_method_4_code_18) ?_
      show Steps _ _ _ (s₁.setTop (mkF m 19 #[.val (.ref b), .val (.int (1 : Int32)), .val (.int (1 : Int32)), .val (.int (3 : Int32))] [(.int (1 : Int32))])) _
      refine XS.goto X0.here hx rfl (pc0 := 19) (pc' := 23) rfl (hb hby d_method_4_code_19) (by decide) (by decide) ?_
      show Steps _ _ _ (s₁.setTop (mkF m 23 #[.val (.ref b), .val (.int (1 : Int32)), .val (.int (1 : Int32)), .val (.int (3 : Int32))] [(.int (1 : Int32))])) _
      exact hq)
    have hE := e0
    refine retInt X0 hx hret hlk (by simp) rfl (hb hby d_method_4_code_23) k6 ?_ (by decide) (by decide)
    try rw [hE]
    exact ⟨by rw [← hr, if_neg hc15_4], N0, rfl⟩
set_option maxRecDepth 65536 in
set_option maxHeartbeats 40000000 in
theorem rm_st2_1_3 (l : Launch) (Z : State) (a0 : Array Value) (hw : ∀ d ∈ tables_1, d.before a0 Z = true) (b : Addr) (kb : ClassId) (d0 : Int32) (d1 : Int32) (d2 : Int32) (d3 : Int32) (r : Int32) (h0 : Heap) (n0 : Nat) (hn0 : n0 ≤ h0.size) (P0 : Arv Z h0 b kb .char (4 : Int32) [(.int d0), (.int d1), (.int d2), (.int d3)] (.int (0 : Int32))) (hr : (if d2 = (48 : Int32) then (0 : Int32) else 1) = r) :
    Con l Z (⟨"com/example/apportion/apportion/input/DecimalsFirstWholeDigitPinLaw", "stops", "([CIII)Z"⟩ : MethodName) method_4_code 4 (some .boolean) [] ({ frames := 0, cells := 0, slots := 0, locals := 0 } : Room) #[(.ref b), (.int (2 : Int32)), (.int (1 : Int32)), (.int (3 : Int32))] h0 (fun v h L => v = some (.int r) ∧ Fr n0 L ∧ h = h0) := by
  refine enter (Ls := #[.val (.ref b), .val (.int (2 : Int32)), .val (.int (1 : Int32)), .val (.int (3 : Int32))]) (plainFor_of_name pn_4) (fun m => by exact entry_eq rfl) ?_
  intro p e s m below meth cd_ s₁ S0 hx hby hml hret hlk hnm hown hZ X0 e0 k0
  have N0 := Fr.nil n0
  have k1 : To p.tables e below S0 (s₁.setTop (mkF m 12 #[.val (.ref b), .val (.int (2 : Int32)), .val (.int (1 : Int32)), .val (.int (3 : Int32))] [(.int (2 : Int32)), (.ref b)])) := fun tt hq => k0 tt (by
    show Steps _ _ _ (s₁.setTop (mkF m 0 #[.val (.ref b), .val (.int (2 : Int32)), .val (.int (1 : Int32)), .val (.int (3 : Int32))] [])) _
    refine XS.iloadN X0.here hx rfl (hb hby d_method_4_code_0) rfl ?_
    show Steps _ _ _ (s₁.setTop (mkF m 1 #[.val (.ref b), .val (.int (2 : Int32)), .val (.int (1 : Int32)), .val (.int (3 : Int32))] [(.int (2 : Int32))])) _
    refine XS.iloadN X0.here hx rfl (hb hby d_method_4_code_1) rfl ?_
    show Steps _ _ _ (s₁.setTop (mkF m 2 #[.val (.ref b), .val (.int (2 : Int32)), .val (.int (1 : Int32)), .val (.int (3 : Int32))] [(.int (1 : Int32)), (.int (2 : Int32))])) _
    refine XS.icmpNo X0.here hx rfl (hb hby d_method_4_code_2) rfl (flt (by decide)).1 ?_
    show Steps _ _ _ (s₁.setTop (mkF m 5 #[.val (.ref b), .val (.int (2 : Int32)), .val (.int (1 : Int32)), .val (.int (3 : Int32))] [])) _
    refine XS.iloadN X0.here hx rfl (hb hby d_method_4_code_5) rfl ?_
    show Steps _ _ _ (s₁.setTop (mkF m 6 #[.val (.ref b), .val (.int (2 : Int32)), .val (.int (1 : Int32)), .val (.int (3 : Int32))] [(.int (2 : Int32))])) _
    refine XS.iloadN X0.here hx rfl (hb hby d_method_4_code_6) rfl ?_
    show Steps _ _ _ (s₁.setTop (mkF m 7 #[.val (.ref b), .val (.int (2 : Int32)), .val (.int (1 : Int32)), .val (.int (3 : Int32))] [(.int (3 : Int32)), (.int (2 : Int32))])) _
    refine XS.icmpNo X0.here hx rfl (hb hby d_method_4_code_7) rfl (tlt (by decide)).2.1 ?_
    show Steps _ _ _ (s₁.setTop (mkF m 10 #[.val (.ref b), .val (.int (2 : Int32)), .val (.int (1 : Int32)), .val (.int (3 : Int32))] [])) _
    refine XS.aloadN X0.here hx rfl (hb hby d_method_4_code_10) rfl rfl ?_
    show Steps _ _ _ (s₁.setTop (mkF m 11 #[.val (.ref b), .val (.int (2 : Int32)), .val (.int (1 : Int32)), .val (.int (3 : Int32))] [(.ref b)])) _
    refine XS.iloadN X0.here hx rfl (hb hby d_method_4_code_11) rfl ?_
    show Steps _ _ _ (s₁.setTop (mkF m 12 #[.val (.ref b), .val (.int (2 : Int32)), .val (.int (1 : Int32)), .val (.int (3 : Int32))] [(.int (2 : Int32)), (.ref b)])) _
    exact hq)
  obtain ⟨cl2, Ar2, -, S2, -, G2, -⟩ := id P0
  have hi2 := inb_of (j := (2 : Int32)) S2 ⟨by decide, by decide⟩
  have st2 := fun tt => X0.caload hx (j := (2 : Int32)) (v := (.int d2)) (by rw [e0]; exact Ar2.1) (State.isArrayOf_alike hZ.alike Ar2.2.1) Ar2.2.2 hi2 (G2.at hi2 rfl) (g := (mkF m 12 #[.val (.ref b), .val (.int (2 : Int32)), .val (.int (1 : Int32)), .val (.int (3 : Int32))] [(.int (2 : Int32)), (.ref b)])) rfl rfl (hb hby d_method_4_code_12) tt
  have k2 : To p.tables e below S0 (s₁.setTop (mkF m 13 #[.val (.ref b), .val (.int (2 : Int32)), .val (.int (1 : Int32)), .val (.int (3 : Int32))] [(.int d2)])) := fun tt hq => k1 tt (st2 tt hq)
  have k3 : To p.tables e below S0 (s₁.setTop (mkF m 15 #[.val (.ref b), .val (.int (2 : Int32)), .val (.int (1 : Int32)), .val (.int (3 : Int32))] [(.int (48 : Int32)), (.int d2)])) := fun tt hq => k2 tt (by
    show Steps _ _ _ (s₁.setTop (mkF m 13 #[.val (.ref b), .val (.int (2 : Int32)), .val (.int (1 : Int32)), .val (.int (3 : Int32))] [(.int d2)])) _
    refine XS.bipush X0.here hx rfl (hb hby d_method_4_code_13) ?_
    show Steps _ _ _ (s₁.setTop (mkF m 15 #[.val (.ref b), .val (.int (2 : Int32)), .val (.int (1 : Int32)), .val (.int (3 : Int32))] [(.int (48 : Int32)), (.int d2)])) _
    exact hq)
  by_cases hc15_4 : d2 = (48 : Int32)
  · -- pc 15, holds
    have k5 : To p.tables e below S0 (s₁.setTop (mkF m 23 #[.val (.ref b), .val (.int (2 : Int32)), .val (.int (1 : Int32)), .val (.int (3 : Int32))] [(.int (0 : Int32))])) := fun tt hq => k3 tt (by
      show Steps _ _ _ (s₁.setTop (mkF m 15 #[.val (.ref b), .val (.int (2 : Int32)), .val (.int (1 : Int32)), .val (.int (3 : Int32))] [(.int (48 : Int32)), (.int d2)])) _
      refine XS.icmpYes X0.here hx rfl (pc0 := 15) (pc' := 22) rfl (hb hby d_method_4_code_15) rfl (teq hc15_4).1 (by decide) (by decide) ?_
      show Steps _ _ _ (s₁.setTop (mkF m 22 #[.val (.ref b), .val (.int (2 : Int32)), .val (.int (1 : Int32)), .val (.int (3 : Int32))] [])) _
      refine XS.iconst X0.here hx rfl (hb hby d_method_4_code_22) ?_
      show Steps _ _ _ (s₁.setTop (mkF m 23 #[.val (.ref b), .val (.int (2 : Int32)), .val (.int (1 : Int32)), .val (.int (3 : Int32))] [(.int (0 : Int32))])) _
      exact hq)
    have hE := e0
    refine retInt X0 hx hret hlk (by simp) rfl (hb hby d_method_4_code_23) k5 ?_ (by decide) (by decide)
    try rw [hE]
    exact ⟨by rw [← hr, if_pos hc15_4], N0, rfl⟩
  · -- pc 15, holds not
    have k6 : To p.tables e below S0 (s₁.setTop (mkF m 23 #[.val (.ref b), .val (.int (2 : Int32)), .val (.int (1 : Int32)), .val (.int (3 : Int32))] [(.int (1 : Int32))])) := fun tt hq => k3 tt (by
      show Steps _ _ _ (s₁.setTop (mkF m 15 #[.val (.ref b), .val (.int (2 : Int32)), .val (.int (1 : Int32)), .val (.int (3 : Int32))] [(.int (48 : Int32)), (.int d2)])) _
      refine XS.icmpNo X0.here hx rfl (hb hby d_method_4_code_15) rfl (feq hc15_4).1 ?_
      show Steps _ _ _ (s₁.setTop (mkF m 18 #[.val (.ref b), .val (.int (2 : Int32)), .val (.int (1 : Int32)), .val (.int (3 : Int32))] [])) _
      refine XS.iconst X0.here hx rfl (hb hby d_method_4_code_18) ?_
      show Steps _ _ _ (s₁.setTop (mkF m 19 #[.val (.ref b), .val (.int (2 : Int32)), .val (.int (1 : Int32)), .val (.int (3 : Int32))] [(.int (1 : Int32))])) _
      refine XS.goto X0.here hx rfl (pc0 := 19) (pc' := 23) rfl (hb hby d_method_4_code_19) (by decide) (by decide) ?_
      show Steps _ _ _ (s₁.setTop (mkF m 23 #[.val (.ref b), .val (.int (2 : Int32)), .val (.int (1 : Int32)), .val (.int (3 : Int32))] [(.int (1 : Int32))])) _
      exact hq)
    have hE := e0
    refine retInt X0 hx hret hlk (by simp) rfl (hb hby d_method_4_code_23) k6 ?_ (by decide) (by decide)
    try rw [hE]
    exact ⟨by rw [← hr, if_neg hc15_4], N0, rfl⟩
set_option maxRecDepth 65536 in
set_option maxHeartbeats 40000000 in
theorem rm_st3_1_3 (l : Launch) (Z : State) (a0 : Array Value) (hw : ∀ d ∈ tables_1, d.before a0 Z = true) (b : Addr) (kb : ClassId) (d0 : Int32) (d1 : Int32) (d2 : Int32) (d3 : Int32) (r : Int32) (h0 : Heap) (n0 : Nat) (hn0 : n0 ≤ h0.size) (P0 : Arv Z h0 b kb .char (4 : Int32) [(.int d0), (.int d1), (.int d2), (.int d3)] (.int (0 : Int32))) (hr : (0 : Int32) = r) :
    Con l Z (⟨"com/example/apportion/apportion/input/DecimalsFirstWholeDigitPinLaw", "stops", "([CIII)Z"⟩ : MethodName) method_4_code 4 (some .boolean) [] ({ frames := 0, cells := 0, slots := 0, locals := 0 } : Room) #[(.ref b), (.int (3 : Int32)), (.int (1 : Int32)), (.int (3 : Int32))] h0 (fun v h L => v = some (.int r) ∧ Fr n0 L ∧ h = h0) := by
  refine enter (Ls := #[.val (.ref b), .val (.int (3 : Int32)), .val (.int (1 : Int32)), .val (.int (3 : Int32))]) (plainFor_of_name pn_4) (fun m => by exact entry_eq rfl) ?_
  intro p e s m below meth cd_ s₁ S0 hx hby hml hret hlk hnm hown hZ X0 e0 k0
  have N0 := Fr.nil n0
  have k1 : To p.tables e below S0 (s₁.setTop (mkF m 23 #[.val (.ref b), .val (.int (3 : Int32)), .val (.int (1 : Int32)), .val (.int (3 : Int32))] [(.int (0 : Int32))])) := fun tt hq => k0 tt (by
    show Steps _ _ _ (s₁.setTop (mkF m 0 #[.val (.ref b), .val (.int (3 : Int32)), .val (.int (1 : Int32)), .val (.int (3 : Int32))] [])) _
    refine XS.iloadN X0.here hx rfl (hb hby d_method_4_code_0) rfl ?_
    show Steps _ _ _ (s₁.setTop (mkF m 1 #[.val (.ref b), .val (.int (3 : Int32)), .val (.int (1 : Int32)), .val (.int (3 : Int32))] [(.int (3 : Int32))])) _
    refine XS.iloadN X0.here hx rfl (hb hby d_method_4_code_1) rfl ?_
    show Steps _ _ _ (s₁.setTop (mkF m 2 #[.val (.ref b), .val (.int (3 : Int32)), .val (.int (1 : Int32)), .val (.int (3 : Int32))] [(.int (1 : Int32)), (.int (3 : Int32))])) _
    refine XS.icmpNo X0.here hx rfl (hb hby d_method_4_code_2) rfl (flt (by decide)).1 ?_
    show Steps _ _ _ (s₁.setTop (mkF m 5 #[.val (.ref b), .val (.int (3 : Int32)), .val (.int (1 : Int32)), .val (.int (3 : Int32))] [])) _
    refine XS.iloadN X0.here hx rfl (hb hby d_method_4_code_5) rfl ?_
    show Steps _ _ _ (s₁.setTop (mkF m 6 #[.val (.ref b), .val (.int (3 : Int32)), .val (.int (1 : Int32)), .val (.int (3 : Int32))] [(.int (3 : Int32))])) _
    refine XS.iloadN X0.here hx rfl (hb hby d_method_4_code_6) rfl ?_
    show Steps _ _ _ (s₁.setTop (mkF m 7 #[.val (.ref b), .val (.int (3 : Int32)), .val (.int (1 : Int32)), .val (.int (3 : Int32))] [(.int (3 : Int32)), (.int (3 : Int32))])) _
    refine XS.icmpYes X0.here hx rfl (pc0 := 7) (pc' := 22) rfl (hb hby d_method_4_code_7) rfl (flt (by decide)).2.1 (by decide) (by decide) ?_
    show Steps _ _ _ (s₁.setTop (mkF m 22 #[.val (.ref b), .val (.int (3 : Int32)), .val (.int (1 : Int32)), .val (.int (3 : Int32))] [])) _
    refine XS.iconst X0.here hx rfl (hb hby d_method_4_code_22) ?_
    show Steps _ _ _ (s₁.setTop (mkF m 23 #[.val (.ref b), .val (.int (3 : Int32)), .val (.int (1 : Int32)), .val (.int (3 : Int32))] [(.int (0 : Int32))])) _
    exact hq)
  have hE := e0
  refine retInt X0 hx hret hlk (by simp) rfl (hb hby d_method_4_code_23) k1 ?_ (by decide) (by decide)
  try rw [hE]
  exact ⟨by rw [← hr], N0, rfl⟩
set_option maxRecDepth 65536 in
set_option maxHeartbeats 40000000 in
theorem rm_st0_1_4 (l : Launch) (Z : State) (a0 : Array Value) (hw : ∀ d ∈ tables_1, d.before a0 Z = true) (b : Addr) (kb : ClassId) (d0 : Int32) (d1 : Int32) (d2 : Int32) (d3 : Int32) (r : Int32) (h0 : Heap) (n0 : Nat) (hn0 : n0 ≤ h0.size) (P0 : Arv Z h0 b kb .char (4 : Int32) [(.int d0), (.int d1), (.int d2), (.int d3)] (.int (0 : Int32))) (hr : (0 : Int32) = r) :
    Con l Z (⟨"com/example/apportion/apportion/input/DecimalsFirstWholeDigitPinLaw", "stops", "([CIII)Z"⟩ : MethodName) method_4_code 4 (some .boolean) [] ({ frames := 0, cells := 0, slots := 0, locals := 0 } : Room) #[(.ref b), (.int (0 : Int32)), (.int (1 : Int32)), (.int (4 : Int32))] h0 (fun v h L => v = some (.int r) ∧ Fr n0 L ∧ h = h0) := by
  refine enter (Ls := #[.val (.ref b), .val (.int (0 : Int32)), .val (.int (1 : Int32)), .val (.int (4 : Int32))]) (plainFor_of_name pn_4) (fun m => by exact entry_eq rfl) ?_
  intro p e s m below meth cd_ s₁ S0 hx hby hml hret hlk hnm hown hZ X0 e0 k0
  have N0 := Fr.nil n0
  have k1 : To p.tables e below S0 (s₁.setTop (mkF m 23 #[.val (.ref b), .val (.int (0 : Int32)), .val (.int (1 : Int32)), .val (.int (4 : Int32))] [(.int (0 : Int32))])) := fun tt hq => k0 tt (by
    show Steps _ _ _ (s₁.setTop (mkF m 0 #[.val (.ref b), .val (.int (0 : Int32)), .val (.int (1 : Int32)), .val (.int (4 : Int32))] [])) _
    refine XS.iloadN X0.here hx rfl (hb hby d_method_4_code_0) rfl ?_
    show Steps _ _ _ (s₁.setTop (mkF m 1 #[.val (.ref b), .val (.int (0 : Int32)), .val (.int (1 : Int32)), .val (.int (4 : Int32))] [(.int (0 : Int32))])) _
    refine XS.iloadN X0.here hx rfl (hb hby d_method_4_code_1) rfl ?_
    show Steps _ _ _ (s₁.setTop (mkF m 2 #[.val (.ref b), .val (.int (0 : Int32)), .val (.int (1 : Int32)), .val (.int (4 : Int32))] [(.int (1 : Int32)), (.int (0 : Int32))])) _
    refine XS.icmpYes X0.here hx rfl (pc0 := 2) (pc' := 22) rfl (hb hby d_method_4_code_2) rfl (tlt (by decide)).1 (by decide) (by decide) ?_
    show Steps _ _ _ (s₁.setTop (mkF m 22 #[.val (.ref b), .val (.int (0 : Int32)), .val (.int (1 : Int32)), .val (.int (4 : Int32))] [])) _
    refine XS.iconst X0.here hx rfl (hb hby d_method_4_code_22) ?_
    show Steps _ _ _ (s₁.setTop (mkF m 23 #[.val (.ref b), .val (.int (0 : Int32)), .val (.int (1 : Int32)), .val (.int (4 : Int32))] [(.int (0 : Int32))])) _
    exact hq)
  have hE := e0
  refine retInt X0 hx hret hlk (by simp) rfl (hb hby d_method_4_code_23) k1 ?_ (by decide) (by decide)
  try rw [hE]
  exact ⟨by rw [← hr], N0, rfl⟩
set_option maxRecDepth 65536 in
set_option maxHeartbeats 40000000 in
theorem rm_st1_1_4 (l : Launch) (Z : State) (a0 : Array Value) (hw : ∀ d ∈ tables_1, d.before a0 Z = true) (b : Addr) (kb : ClassId) (d0 : Int32) (d1 : Int32) (d2 : Int32) (d3 : Int32) (r : Int32) (h0 : Heap) (n0 : Nat) (hn0 : n0 ≤ h0.size) (P0 : Arv Z h0 b kb .char (4 : Int32) [(.int d0), (.int d1), (.int d2), (.int d3)] (.int (0 : Int32))) (hr : (if d1 = (48 : Int32) then (0 : Int32) else 1) = r) :
    Con l Z (⟨"com/example/apportion/apportion/input/DecimalsFirstWholeDigitPinLaw", "stops", "([CIII)Z"⟩ : MethodName) method_4_code 4 (some .boolean) [] ({ frames := 0, cells := 0, slots := 0, locals := 0 } : Room) #[(.ref b), (.int (1 : Int32)), (.int (1 : Int32)), (.int (4 : Int32))] h0 (fun v h L => v = some (.int r) ∧ Fr n0 L ∧ h = h0) := by
  refine enter (Ls := #[.val (.ref b), .val (.int (1 : Int32)), .val (.int (1 : Int32)), .val (.int (4 : Int32))]) (plainFor_of_name pn_4) (fun m => by exact entry_eq rfl) ?_
  intro p e s m below meth cd_ s₁ S0 hx hby hml hret hlk hnm hown hZ X0 e0 k0
  have N0 := Fr.nil n0
  have k1 : To p.tables e below S0 (s₁.setTop (mkF m 12 #[.val (.ref b), .val (.int (1 : Int32)), .val (.int (1 : Int32)), .val (.int (4 : Int32))] [(.int (1 : Int32)), (.ref b)])) := fun tt hq => k0 tt (by
    show Steps _ _ _ (s₁.setTop (mkF m 0 #[.val (.ref b), .val (.int (1 : Int32)), .val (.int (1 : Int32)), .val (.int (4 : Int32))] [])) _
    refine XS.iloadN X0.here hx rfl (hb hby d_method_4_code_0) rfl ?_
    show Steps _ _ _ (s₁.setTop (mkF m 1 #[.val (.ref b), .val (.int (1 : Int32)), .val (.int (1 : Int32)), .val (.int (4 : Int32))] [(.int (1 : Int32))])) _
    refine XS.iloadN X0.here hx rfl (hb hby d_method_4_code_1) rfl ?_
    show Steps _ _ _ (s₁.setTop (mkF m 2 #[.val (.ref b), .val (.int (1 : Int32)), .val (.int (1 : Int32)), .val (.int (4 : Int32))] [(.int (1 : Int32)), (.int (1 : Int32))])) _
    refine XS.icmpNo X0.here hx rfl (hb hby d_method_4_code_2) rfl (flt (by decide)).1 ?_
    show Steps _ _ _ (s₁.setTop (mkF m 5 #[.val (.ref b), .val (.int (1 : Int32)), .val (.int (1 : Int32)), .val (.int (4 : Int32))] [])) _
    refine XS.iloadN X0.here hx rfl (hb hby d_method_4_code_5) rfl ?_
    show Steps _ _ _ (s₁.setTop (mkF m 6 #[.val (.ref b), .val (.int (1 : Int32)), .val (.int (1 : Int32)), .val (.int (4 : Int32))] [(.int (1 : Int32))])) _
    refine XS.iloadN X0.here hx rfl (hb hby d_method_4_code_6) rfl ?_
    show Steps _ _ _ (s₁.setTop (mkF m 7 #[.val (.ref b), .val (.int (1 : Int32)), .val (.int (1 : Int32)), .val (.int (4 : Int32))] [(.int (4 : Int32)), (.int (1 : Int32))])) _
    refine XS.icmpNo X0.here hx rfl (hb hby d_method_4_code_7) rfl (tlt (by decide)).2.1 ?_
    show Steps _ _ _ (s₁.setTop (mkF m 10 #[.val (.ref b), .val (.int (1 : Int32)), .val (.int (1 : Int32)), .val (.int (4 : Int32))] [])) _
    refine XS.aloadN X0.here hx rfl (hb hby d_method_4_code_10) rfl rfl ?_
    show Steps _ _ _ (s₁.setTop (mkF m 11 #[.val (.ref b), .val (.int (1 : Int32)), .val (.int (1 : Int32)), .val (.int (4 : Int32))] [(.ref b)])) _
    refine XS.iloadN X0.here hx rfl (hb hby d_method_4_code_11) rfl ?_
    show Steps _ _ _ (s₁.setTop (mkF m 12 #[.val (.ref b), .val (.int (1 : Int32)), .val (.int (1 : Int32)), .val (.int (4 : Int32))] [(.int (1 : Int32)), (.ref b)])) _
    exact hq)
  obtain ⟨cl2, Ar2, -, S2, -, G2, -⟩ := id P0
  have hi2 := inb_of (j := (1 : Int32)) S2 ⟨by decide, by decide⟩
  have st2 := fun tt => X0.caload hx (j := (1 : Int32)) (v := (.int d1)) (by rw [e0]; exact Ar2.1) (State.isArrayOf_alike hZ.alike Ar2.2.1) Ar2.2.2 hi2 (G2.at hi2 rfl) (g := (mkF m 12 #[.val (.ref b), .val (.int (1 : Int32)), .val (.int (1 : Int32)), .val (.int (4 : Int32))] [(.int (1 : Int32)), (.ref b)])) rfl rfl (hb hby d_method_4_code_12) tt
  have k2 : To p.tables e below S0 (s₁.setTop (mkF m 13 #[.val (.ref b), .val (.int (1 : Int32)), .val (.int (1 : Int32)), .val (.int (4 : Int32))] [(.int d1)])) := fun tt hq => k1 tt (st2 tt hq)
  have k3 : To p.tables e below S0 (s₁.setTop (mkF m 15 #[.val (.ref b), .val (.int (1 : Int32)), .val (.int (1 : Int32)), .val (.int (4 : Int32))] [(.int (48 : Int32)), (.int d1)])) := fun tt hq => k2 tt (by
    show Steps _ _ _ (s₁.setTop (mkF m 13 #[.val (.ref b), .val (.int (1 : Int32)), .val (.int (1 : Int32)), .val (.int (4 : Int32))] [(.int d1)])) _
    refine XS.bipush X0.here hx rfl (hb hby d_method_4_code_13) ?_
    show Steps _ _ _ (s₁.setTop (mkF m 15 #[.val (.ref b), .val (.int (1 : Int32)), .val (.int (1 : Int32)), .val (.int (4 : Int32))] [(.int (48 : Int32)), (.int d1)])) _
    exact hq)
  by_cases hc15_4 : d1 = (48 : Int32)
  · -- pc 15, holds
    have k5 : To p.tables e below S0 (s₁.setTop (mkF m 23 #[.val (.ref b), .val (.int (1 : Int32)), .val (.int (1 : Int32)), .val (.int (4 : Int32))] [(.int (0 : Int32))])) := fun tt hq => k3 tt (by
      show Steps _ _ _ (s₁.setTop (mkF m 15 #[.val (.ref b), .val (.int (1 : Int32)), .val (.int (1 : Int32)), .val (.int (4 : Int32))] [(.int (48 : Int32)), (.int d1)])) _
      refine XS.icmpYes X0.here hx rfl (pc0 := 15) (pc' := 22) rfl (hb hby d_method_4_code_15) rfl (teq hc15_4).1 (by decide) (by decide) ?_
      show Steps _ _ _ (s₁.setTop (mkF m 22 #[.val (.ref b), .val (.int (1 : Int32)), .val (.int (1 : Int32)), .val (.int (4 : Int32))] [])) _
      refine XS.iconst X0.here hx rfl (hb hby d_method_4_code_22) ?_
      show Steps _ _ _ (s₁.setTop (mkF m 23 #[.val (.ref b), .val (.int (1 : Int32)), .val (.int (1 : Int32)), .val (.int (4 : Int32))] [(.int (0 : Int32))])) _
      exact hq)
    have hE := e0
    refine retInt X0 hx hret hlk (by simp) rfl (hb hby d_method_4_code_23) k5 ?_ (by decide) (by decide)
    try rw [hE]
    exact ⟨by rw [← hr, if_pos hc15_4], N0, rfl⟩
  · -- pc 15, holds not
    have k6 : To p.tables e below S0 (s₁.setTop (mkF m 23 #[.val (.ref b), .val (.int (1 : Int32)), .val (.int (1 : Int32)), .val (.int (4 : Int32))] [(.int (1 : Int32))])) := fun tt hq => k3 tt (by
      show Steps _ _ _ (s₁.setTop (mkF m 15 #[.val (.ref b), .val (.int (1 : Int32)), .val (.int (1 : Int32)), .val (.int (4 : Int32))] [(.int (48 : Int32)), (.int d1)])) _
      refine XS.icmpNo X0.here hx rfl (hb hby d_method_4_code_15) rfl (feq hc15_4).1 ?_
      show Steps _ _ _ (s₁.setTop (mkF m 18 #[.val (.ref b), .val (.int (1 : Int32)), .val (.int (1 : Int32)), .val (.int (4 : Int32))] [])) _
      refine XS.iconst X0.here hx rfl (hb hby d_method_4_code_18) ?_
      show Steps _ _ _ (s₁.setTop (mkF m 19 #[.val (.ref b), .val (.int (1 : Int32)), .val (.int (1 : Int32)), .val (.int (4 : Int32))] [(.int (1 : Int32))])) _
      refine XS.goto X0.here hx rfl (pc0 := 19) (pc' := 23) rfl (hb hby d_method_4_code_19) (by decide) (by decide) ?_
      show Steps _ _ _ (s₁.setTop (mkF m 23 #[.val (.ref b), .val (.int (1 : Int32)), .val (.int (1 : Int32)), .val (.int (4 : Int32))] [(.int (1 : Int32))])) _
      exact hq)
    have hE := e0
    refine retInt X0 hx hret hlk (by simp) rfl (hb hby d_method_4_code_23) k6 ?_ (by decide) (by decide)
    try rw [hE]
    exact ⟨by rw [← hr, if_neg hc15_4], N0, rfl⟩
set_option maxRecDepth 65536 in
set_option maxHeartbeats 40000000 in
theorem rm_st2_1_4 (l : Launch) (Z : State) (a0 : Array Value) (hw : ∀ d ∈ tables_1, d.before a0 Z = true) (b : Addr) (kb : ClassId) (d0 : Int32) (d1 : Int32) (d2 : Int32) (d3 : Int32) (r : Int32) (h0 : Heap) (n0 : Nat) (hn0 : n0 ≤ h0.size) (P0 : Arv Z h0 b kb .char (4 : Int32) [(.int d0), (.int d1), (.int d2), (.int d3)] (.int (0 : Int32))) (hr : (if d2 = (48 : Int32) then (0 : Int32) else 1) = r) :
    Con l Z (⟨"com/example/apportion/apportion/input/DecimalsFirstWholeDigitPinLaw", "stops", "([CIII)Z"⟩ : MethodName) method_4_code 4 (some .boolean) [] ({ frames := 0, cells := 0, slots := 0, locals := 0 } : Room) #[(.ref b), (.int (2 : Int32)), (.int (1 : Int32)), (.int (4 : Int32))] h0 (fun v h L => v = some (.int r) ∧ Fr n0 L ∧ h = h0) := by
  refine enter (Ls := #[.val (.ref b), .val (.int (2 : Int32)), .val (.int (1 : Int32)), .val (.int (4 : Int32))]) (plainFor_of_name pn_4) (fun m => by exact entry_eq rfl) ?_
  intro p e s m below meth cd_ s₁ S0 hx hby hml hret hlk hnm hown hZ X0 e0 k0
  have N0 := Fr.nil n0
  have k1 : To p.tables e below S0 (s₁.setTop (mkF m 12 #[.val (.ref b), .val (.int (2 : Int32)), .val (.int (1 : Int32)), .val (.int (4 : Int32))] [(.int (2 : Int32)), (.ref b)])) := fun tt hq => k0 tt (by
    show Steps _ _ _ (s₁.setTop (mkF m 0 #[.val (.ref b), .val (.int (2 : Int32)), .val (.int (1 : Int32)), .val (.int (4 : Int32))] [])) _
    refine XS.iloadN X0.here hx rfl (hb hby d_method_4_code_0) rfl ?_
    show Steps _ _ _ (s₁.setTop (mkF m 1 #[.val (.ref b), .val (.int (2 : Int32)), .val (.int (1 : Int32)), .val (.int (4 : Int32))] [(.int (2 : Int32))])) _
    refine XS.iloadN X0.here hx rfl (hb hby d_method_4_code_1) rfl ?_
    show Steps _ _ _ (s₁.setTop (mkF m 2 #[.val (.ref b), .val (.int (2 : Int32)), .val (.int (1 : Int32)), .val (.int (4 : Int32))] [(.int (1 : Int32)), (.int (2 : Int32))])) _
    refine XS.icmpNo X0.here hx rfl (hb hby d_method_4_code_2) rfl (flt (by decide)).1 ?_
    show Steps _ _ _ (s₁.setTop (mkF m 5 #[.val (.ref b), .val (.int (2 : Int32)), .val (.int (1 : Int32)), .val (.int (4 : Int32))] [])) _
    refine XS.iloadN X0.here hx rfl (hb hby d_method_4_code_5) rfl ?_
    show Steps _ _ _ (s₁.setTop (mkF m 6 #[.val (.ref b), .val (.int (2 : Int32)), .val (.int (1 : Int32)), .val (.int (4 : Int32))] [(.int (2 : Int32))])) _
    refine XS.iloadN X0.here hx rfl (hb hby d_method_4_code_6) rfl ?_
    show Steps _ _ _ (s₁.setTop (mkF m 7 #[.val (.ref b), .val (.int (2 : Int32)), .val (.int (1 : Int32)), .val (.int (4 : Int32))] [(.int (4 : Int32)), (.int (2 : Int32))])) _
    refine XS.icmpNo X0.here hx rfl (hb hby d_method_4_code_7) rfl (tlt (by decide)).2.1 ?_
    show Steps _ _ _ (s₁.setTop (mkF m 10 #[.val (.ref b), .val (.int (2 : Int32)), .val (.int (1 : Int32)), .val (.int (4 : Int32))] [])) _
    refine XS.aloadN X0.here hx rfl (hb hby d_method_4_code_10) rfl rfl ?_
    show Steps _ _ _ (s₁.setTop (mkF m 11 #[.val (.ref b), .val (.int (2 : Int32)), .val (.int (1 : Int32)), .val (.int (4 : Int32))] [(.ref b)])) _
    refine XS.iloadN X0.here hx rfl (hb hby d_method_4_code_11) rfl ?_
    show Steps _ _ _ (s₁.setTop (mkF m 12 #[.val (.ref b), .val (.int (2 : Int32)), .val (.int (1 : Int32)), .val (.int (4 : Int32))] [(.int (2 : Int32)), (.ref b)])) _
    exact hq)
  obtain ⟨cl2, Ar2, -, S2, -, G2, -⟩ := id P0
  have hi2 := inb_of (j := (2 : Int32)) S2 ⟨by decide, by decide⟩
  have st2 := fun tt => X0.caload hx (j := (2 : Int32)) (v := (.int d2)) (by rw [e0]; exact Ar2.1) (State.isArrayOf_alike hZ.alike Ar2.2.1) Ar2.2.2 hi2 (G2.at hi2 rfl) (g := (mkF m 12 #[.val (.ref b), .val (.int (2 : Int32)), .val (.int (1 : Int32)), .val (.int (4 : Int32))] [(.int (2 : Int32)), (.ref b)])) rfl rfl (hb hby d_method_4_code_12) tt
  have k2 : To p.tables e below S0 (s₁.setTop (mkF m 13 #[.val (.ref b), .val (.int (2 : Int32)), .val (.int (1 : Int32)), .val (.int (4 : Int32))] [(.int d2)])) := fun tt hq => k1 tt (st2 tt hq)
  have k3 : To p.tables e below S0 (s₁.setTop (mkF m 15 #[.val (.ref b), .val (.int (2 : Int32)), .val (.int (1 : Int32)), .val (.int (4 : Int32))] [(.int (48 : Int32)), (.int d2)])) := fun tt hq => k2 tt (by
    show Steps _ _ _ (s₁.setTop (mkF m 13 #[.val (.ref b), .val (.int (2 : Int32)), .val (.int (1 : Int32)), .val (.int (4 : Int32))] [(.int d2)])) _
    refine XS.bipush X0.here hx rfl (hb hby d_method_4_code_13) ?_
    show Steps _ _ _ (s₁.setTop (mkF m 15 #[.val (.ref b), .val (.int (2 : Int32)), .val (.int (1 : Int32)), .val (.int (4 : Int32))] [(.int (48 : Int32)), (.int d2)])) _
    exact hq)
  by_cases hc15_4 : d2 = (48 : Int32)
  · -- pc 15, holds
    have k5 : To p.tables e below S0 (s₁.setTop (mkF m 23 #[.val (.ref b), .val (.int (2 : Int32)), .val (.int (1 : Int32)), .val (.int (4 : Int32))] [(.int (0 : Int32))])) := fun tt hq => k3 tt (by
      show Steps _ _ _ (s₁.setTop (mkF m 15 #[.val (.ref b), .val (.int (2 : Int32)), .val (.int (1 : Int32)), .val (.int (4 : Int32))] [(.int (48 : Int32)), (.int d2)])) _
      refine XS.icmpYes X0.here hx rfl (pc0 := 15) (pc' := 22) rfl (hb hby d_method_4_code_15) rfl (teq hc15_4).1 (by decide) (by decide) ?_
      show Steps _ _ _ (s₁.setTop (mkF m 22 #[.val (.ref b), .val (.int (2 : Int32)), .val (.int (1 : Int32)), .val (.int (4 : Int32))] [])) _
      refine XS.iconst X0.here hx rfl (hb hby d_method_4_code_22) ?_
      show Steps _ _ _ (s₁.setTop (mkF m 23 #[.val (.ref b), .val (.int (2 : Int32)), .val (.int (1 : Int32)), .val (.int (4 : Int32))] [(.int (0 : Int32))])) _
      exact hq)
    have hE := e0
    refine retInt X0 hx hret hlk (by simp) rfl (hb hby d_method_4_code_23) k5 ?_ (by decide) (by decide)
    try rw [hE]
    exact ⟨by rw [← hr, if_pos hc15_4], N0, rfl⟩
  · -- pc 15, holds not
    have k6 : To p.tables e below S0 (s₁.setTop (mkF m 23 #[.val (.ref b), .val (.int (2 : Int32)), .val (.int (1 : Int32)), .val (.int (4 : Int32))] [(.int (1 : Int32))])) := fun tt hq => k3 tt (by
      show Steps _ _ _ (s₁.setTop (mkF m 15 #[.val (.ref b), .val (.int (2 : Int32)), .val (.int (1 : Int32)), .val (.int (4 : Int32))] [(.int (48 : Int32)), (.int d2)])) _
      refine XS.icmpNo X0.here hx rfl (hb hby d_method_4_code_15) rfl (feq hc15_4).1 ?_
      show Steps _ _ _ (s₁.setTop (mkF m 18 #[.val (.ref b), .val (.int (2 : Int32)), .val (.int (1 : Int32)), .val (.int (4 : Int32))] [])) _
      refine XS.iconst X0.here hx rfl (hb hby d_method_4_code_18) ?_
      show Steps _ _ _ (s₁.setTop (mkF m 19 #[.val (.ref b), .val (.int (2 : Int32)), .val (.int (1 : Int32)), .val (.int (4 : Int32))] [(.int (1 : Int32))])) _
      refine XS.goto X0.here hx rfl (pc0 := 19) (pc' := 23) rfl (hb hby d_method_4_code_19) (by decide) (by decide) ?_
      show Steps _ _ _ (s₁.setTop (mkF m 23 #[.val (.ref b), .val (.int (2 : Int32)), .val (.int (1 : Int32)), .val (.int (4 : Int32))] [(.int (1 : Int32))])) _
      exact hq)
    have hE := e0
    refine retInt X0 hx hret hlk (by simp) rfl (hb hby d_method_4_code_23) k6 ?_ (by decide) (by decide)
    try rw [hE]
    exact ⟨by rw [← hr, if_neg hc15_4], N0, rfl⟩
set_option maxRecDepth 65536 in
set_option maxHeartbeats 40000000 in
theorem rm_st3_1_4 (l : Launch) (Z : State) (a0 : Array Value) (hw : ∀ d ∈ tables_1, d.before a0 Z = true) (b : Addr) (kb : ClassId) (d0 : Int32) (d1 : Int32) (d2 : Int32) (d3 : Int32) (r : Int32) (h0 : Heap) (n0 : Nat) (hn0 : n0 ≤ h0.size) (P0 : Arv Z h0 b kb .char (4 : Int32) [(.int d0), (.int d1), (.int d2), (.int d3)] (.int (0 : Int32))) (hr : (if d3 = (48 : Int32) then (0 : Int32) else 1) = r) :
    Con l Z (⟨"com/example/apportion/apportion/input/DecimalsFirstWholeDigitPinLaw", "stops", "([CIII)Z"⟩ : MethodName) method_4_code 4 (some .boolean) [] ({ frames := 0, cells := 0, slots := 0, locals := 0 } : Room) #[(.ref b), (.int (3 : Int32)), (.int (1 : Int32)), (.int (4 : Int32))] h0 (fun v h L => v = some (.int r) ∧ Fr n0 L ∧ h = h0) := by
  refine enter (Ls := #[.val (.ref b), .val (.int (3 : Int32)), .val (.int (1 : Int32)), .val (.int (4 : Int32))]) (plainFor_of_name pn_4) (fun m => by exact entry_eq rfl) ?_
  intro p e s m below meth cd_ s₁ S0 hx hby hml hret hlk hnm hown hZ X0 e0 k0
  have N0 := Fr.nil n0
  have k1 : To p.tables e below S0 (s₁.setTop (mkF m 12 #[.val (.ref b), .val (.int (3 : Int32)), .val (.int (1 : Int32)), .val (.int (4 : Int32))] [(.int (3 : Int32)), (.ref b)])) := fun tt hq => k0 tt (by
    show Steps _ _ _ (s₁.setTop (mkF m 0 #[.val (.ref b), .val (.int (3 : Int32)), .val (.int (1 : Int32)), .val (.int (4 : Int32))] [])) _
    refine XS.iloadN X0.here hx rfl (hb hby d_method_4_code_0) rfl ?_
    show Steps _ _ _ (s₁.setTop (mkF m 1 #[.val (.ref b), .val (.int (3 : Int32)), .val (.int (1 : Int32)), .val (.int (4 : Int32))] [(.int (3 : Int32))])) _
    refine XS.iloadN X0.here hx rfl (hb hby d_method_4_code_1) rfl ?_
    show Steps _ _ _ (s₁.setTop (mkF m 2 #[.val (.ref b), .val (.int (3 : Int32)), .val (.int (1 : Int32)), .val (.int (4 : Int32))] [(.int (1 : Int32)), (.int (3 : Int32))])) _
    refine XS.icmpNo X0.here hx rfl (hb hby d_method_4_code_2) rfl (flt (by decide)).1 ?_
    show Steps _ _ _ (s₁.setTop (mkF m 5 #[.val (.ref b), .val (.int (3 : Int32)), .val (.int (1 : Int32)), .val (.int (4 : Int32))] [])) _
    refine XS.iloadN X0.here hx rfl (hb hby d_method_4_code_5) rfl ?_
    show Steps _ _ _ (s₁.setTop (mkF m 6 #[.val (.ref b), .val (.int (3 : Int32)), .val (.int (1 : Int32)), .val (.int (4 : Int32))] [(.int (3 : Int32))])) _
    refine XS.iloadN X0.here hx rfl (hb hby d_method_4_code_6) rfl ?_
    show Steps _ _ _ (s₁.setTop (mkF m 7 #[.val (.ref b), .val (.int (3 : Int32)), .val (.int (1 : Int32)), .val (.int (4 : Int32))] [(.int (4 : Int32)), (.int (3 : Int32))])) _
    refine XS.icmpNo X0.here hx rfl (hb hby d_method_4_code_7) rfl (tlt (by decide)).2.1 ?_
    show Steps _ _ _ (s₁.setTop (mkF m 10 #[.val (.ref b), .val (.int (3 : Int32)), .val (.int (1 : Int32)), .val (.int (4 : Int32))] [])) _
    refine XS.aloadN X0.here hx rfl (hb hby d_method_4_code_10) rfl rfl ?_
    show Steps _ _ _ (s₁.setTop (mkF m 11 #[.val (.ref b), .val (.int (3 : Int32)), .val (.int (1 : Int32)), .val (.int (4 : Int32))] [(.ref b)])) _
    refine XS.iloadN X0.here hx rfl (hb hby d_method_4_code_11) rfl ?_
    show Steps _ _ _ (s₁.setTop (mkF m 12 #[.val (.ref b), .val (.int (3 : Int32)), .val (.int (1 : Int32)), .val (.int (4 : Int32))] [(.int (3 : Int32)), (.ref b)])) _
    exact hq)
  obtain ⟨cl2, Ar2, -, S2, -, G2, -⟩ := id P0
  have hi2 := inb_of (j := (3 : Int32)) S2 ⟨by decide, by decide⟩
  have st2 := fun tt => X0.caload hx (j := (3 : Int32)) (v := (.int d3)) (by rw [e0]; exact Ar2.1) (State.isArrayOf_alike hZ.alike Ar2.2.1) Ar2.2.2 hi2 (G2.at hi2 rfl) (g := (mkF m 12 #[.val (.ref b), .val (.int (3 : Int32)), .val (.int (1 : Int32)), .val (.int (4 : Int32))] [(.int (3 : Int32)), (.ref b)])) rfl rfl (hb hby d_method_4_code_12) tt
  have k2 : To p.tables e below S0 (s₁.setTop (mkF m 13 #[.val (.ref b), .val (.int (3 : Int32)), .val (.int (1 : Int32)), .val (.int (4 : Int32))] [(.int d3)])) := fun tt hq => k1 tt (st2 tt hq)
  have k3 : To p.tables e below S0 (s₁.setTop (mkF m 15 #[.val (.ref b), .val (.int (3 : Int32)), .val (.int (1 : Int32)), .val (.int (4 : Int32))] [(.int (48 : Int32)), (.int d3)])) := fun tt hq => k2 tt (by
    show Steps _ _ _ (s₁.setTop (mkF m 13 #[.val (.ref b), .val (.int (3 : Int32)), .val (.int (1 : Int32)), .val (.int (4 : Int32))] [(.int d3)])) _
    refine XS.bipush X0.here hx rfl (hb hby d_method_4_code_13) ?_
    show Steps _ _ _ (s₁.setTop (mkF m 15 #[.val (.ref b), .val (.int (3 : Int32)), .val (.int (1 : Int32)), .val (.int (4 : Int32))] [(.int (48 : Int32)), (.int d3)])) _
    exact hq)
  by_cases hc15_4 : d3 = (48 : Int32)
  · -- pc 15, holds
    have k5 : To p.tables e below S0 (s₁.setTop (mkF m 23 #[.val (.ref b), .val (.int (3 : Int32)), .val (.int (1 : Int32)), .val (.int (4 : Int32))] [(.int (0 : Int32))])) := fun tt hq => k3 tt (by
      show Steps _ _ _ (s₁.setTop (mkF m 15 #[.val (.ref b), .val (.int (3 : Int32)), .val (.int (1 : Int32)), .val (.int (4 : Int32))] [(.int (48 : Int32)), (.int d3)])) _
      refine XS.icmpYes X0.here hx rfl (pc0 := 15) (pc' := 22) rfl (hb hby d_method_4_code_15) rfl (teq hc15_4).1 (by decide) (by decide) ?_
      show Steps _ _ _ (s₁.setTop (mkF m 22 #[.val (.ref b), .val (.int (3 : Int32)), .val (.int (1 : Int32)), .val (.int (4 : Int32))] [])) _
      refine XS.iconst X0.here hx rfl (hb hby d_method_4_code_22) ?_
      show Steps _ _ _ (s₁.setTop (mkF m 23 #[.val (.ref b), .val (.int (3 : Int32)), .val (.int (1 : Int32)), .val (.int (4 : Int32))] [(.int (0 : Int32))])) _
      exact hq)
    have hE := e0
    refine retInt X0 hx hret hlk (by simp) rfl (hb hby d_method_4_code_23) k5 ?_ (by decide) (by decide)
    try rw [hE]
    exact ⟨by rw [← hr, if_pos hc15_4], N0, rfl⟩
  · -- pc 15, holds not
    have k6 : To p.tables e below S0 (s₁.setTop (mkF m 23 #[.val (.ref b), .val (.int (3 : Int32)), .val (.int (1 : Int32)), .val (.int (4 : Int32))] [(.int (1 : Int32))])) := fun tt hq => k3 tt (by
      show Steps _ _ _ (s₁.setTop (mkF m 15 #[.val (.ref b), .val (.int (3 : Int32)), .val (.int (1 : Int32)), .val (.int (4 : Int32))] [(.int (48 : Int32)), (.int d3)])) _
      refine XS.icmpNo X0.here hx rfl (hb hby d_method_4_code_15) rfl (feq hc15_4).1 ?_
      show Steps _ _ _ (s₁.setTop (mkF m 18 #[.val (.ref b), .val (.int (3 : Int32)), .val (.int (1 : Int32)), .val (.int (4 : Int32))] [])) _
      refine XS.iconst X0.here hx rfl (hb hby d_method_4_code_18) ?_
      show Steps _ _ _ (s₁.setTop (mkF m 19 #[.val (.ref b), .val (.int (3 : Int32)), .val (.int (1 : Int32)), .val (.int (4 : Int32))] [(.int (1 : Int32))])) _
      refine XS.goto X0.here hx rfl (pc0 := 19) (pc' := 23) rfl (hb hby d_method_4_code_19) (by decide) (by decide) ?_
      show Steps _ _ _ (s₁.setTop (mkF m 23 #[.val (.ref b), .val (.int (3 : Int32)), .val (.int (1 : Int32)), .val (.int (4 : Int32))] [(.int (1 : Int32))])) _
      exact hq)
    have hE := e0
    refine retInt X0 hx hret hlk (by simp) rfl (hb hby d_method_4_code_23) k6 ?_ (by decide) (by decide)
    try rw [hE]
    exact ⟨by rw [← hr, if_neg hc15_4], N0, rfl⟩
set_option maxRecDepth 65536 in
set_option maxHeartbeats 40000000 in
theorem rm_st0_2_2 (l : Launch) (Z : State) (a0 : Array Value) (hw : ∀ d ∈ tables_1, d.before a0 Z = true) (b : Addr) (kb : ClassId) (d0 : Int32) (d1 : Int32) (d2 : Int32) (d3 : Int32) (r : Int32) (h0 : Heap) (n0 : Nat) (hn0 : n0 ≤ h0.size) (P0 : Arv Z h0 b kb .char (4 : Int32) [(.int d0), (.int d1), (.int d2), (.int d3)] (.int (0 : Int32))) (hr : (0 : Int32) = r) :
    Con l Z (⟨"com/example/apportion/apportion/input/DecimalsFirstWholeDigitPinLaw", "stops", "([CIII)Z"⟩ : MethodName) method_4_code 4 (some .boolean) [] ({ frames := 0, cells := 0, slots := 0, locals := 0 } : Room) #[(.ref b), (.int (0 : Int32)), (.int (2 : Int32)), (.int (2 : Int32))] h0 (fun v h L => v = some (.int r) ∧ Fr n0 L ∧ h = h0) := by
  refine enter (Ls := #[.val (.ref b), .val (.int (0 : Int32)), .val (.int (2 : Int32)), .val (.int (2 : Int32))]) (plainFor_of_name pn_4) (fun m => by exact entry_eq rfl) ?_
  intro p e s m below meth cd_ s₁ S0 hx hby hml hret hlk hnm hown hZ X0 e0 k0
  have N0 := Fr.nil n0
  have k1 : To p.tables e below S0 (s₁.setTop (mkF m 23 #[.val (.ref b), .val (.int (0 : Int32)), .val (.int (2 : Int32)), .val (.int (2 : Int32))] [(.int (0 : Int32))])) := fun tt hq => k0 tt (by
    show Steps _ _ _ (s₁.setTop (mkF m 0 #[.val (.ref b), .val (.int (0 : Int32)), .val (.int (2 : Int32)), .val (.int (2 : Int32))] [])) _
    refine XS.iloadN X0.here hx rfl (hb hby d_method_4_code_0) rfl ?_
    show Steps _ _ _ (s₁.setTop (mkF m 1 #[.val (.ref b), .val (.int (0 : Int32)), .val (.int (2 : Int32)), .val (.int (2 : Int32))] [(.int (0 : Int32))])) _
    refine XS.iloadN X0.here hx rfl (hb hby d_method_4_code_1) rfl ?_
    show Steps _ _ _ (s₁.setTop (mkF m 2 #[.val (.ref b), .val (.int (0 : Int32)), .val (.int (2 : Int32)), .val (.int (2 : Int32))] [(.int (2 : Int32)), (.int (0 : Int32))])) _
    refine XS.icmpYes X0.here hx rfl (pc0 := 2) (pc' := 22) rfl (hb hby d_method_4_code_2) rfl (tlt (by decide)).1 (by decide) (by decide) ?_
    show Steps _ _ _ (s₁.setTop (mkF m 22 #[.val (.ref b), .val (.int (0 : Int32)), .val (.int (2 : Int32)), .val (.int (2 : Int32))] [])) _
    refine XS.iconst X0.here hx rfl (hb hby d_method_4_code_22) ?_
    show Steps _ _ _ (s₁.setTop (mkF m 23 #[.val (.ref b), .val (.int (0 : Int32)), .val (.int (2 : Int32)), .val (.int (2 : Int32))] [(.int (0 : Int32))])) _
    exact hq)
  have hE := e0
  refine retInt X0 hx hret hlk (by simp) rfl (hb hby d_method_4_code_23) k1 ?_ (by decide) (by decide)
  try rw [hE]
  exact ⟨by rw [← hr], N0, rfl⟩
set_option maxRecDepth 65536 in
set_option maxHeartbeats 40000000 in
theorem rm_st1_2_2 (l : Launch) (Z : State) (a0 : Array Value) (hw : ∀ d ∈ tables_1, d.before a0 Z = true) (b : Addr) (kb : ClassId) (d0 : Int32) (d1 : Int32) (d2 : Int32) (d3 : Int32) (r : Int32) (h0 : Heap) (n0 : Nat) (hn0 : n0 ≤ h0.size) (P0 : Arv Z h0 b kb .char (4 : Int32) [(.int d0), (.int d1), (.int d2), (.int d3)] (.int (0 : Int32))) (hr : (0 : Int32) = r) :
    Con l Z (⟨"com/example/apportion/apportion/input/DecimalsFirstWholeDigitPinLaw", "stops", "([CIII)Z"⟩ : MethodName) method_4_code 4 (some .boolean) [] ({ frames := 0, cells := 0, slots := 0, locals := 0 } : Room) #[(.ref b), (.int (1 : Int32)), (.int (2 : Int32)), (.int (2 : Int32))] h0 (fun v h L => v = some (.int r) ∧ Fr n0 L ∧ h = h0) := by
  refine enter (Ls := #[.val (.ref b), .val (.int (1 : Int32)), .val (.int (2 : Int32)), .val (.int (2 : Int32))]) (plainFor_of_name pn_4) (fun m => by exact entry_eq rfl) ?_
  intro p e s m below meth cd_ s₁ S0 hx hby hml hret hlk hnm hown hZ X0 e0 k0
  have N0 := Fr.nil n0
  have k1 : To p.tables e below S0 (s₁.setTop (mkF m 23 #[.val (.ref b), .val (.int (1 : Int32)), .val (.int (2 : Int32)), .val (.int (2 : Int32))] [(.int (0 : Int32))])) := fun tt hq => k0 tt (by
    show Steps _ _ _ (s₁.setTop (mkF m 0 #[.val (.ref b), .val (.int (1 : Int32)), .val (.int (2 : Int32)), .val (.int (2 : Int32))] [])) _
    refine XS.iloadN X0.here hx rfl (hb hby d_method_4_code_0) rfl ?_
    show Steps _ _ _ (s₁.setTop (mkF m 1 #[.val (.ref b), .val (.int (1 : Int32)), .val (.int (2 : Int32)), .val (.int (2 : Int32))] [(.int (1 : Int32))])) _
    refine XS.iloadN X0.here hx rfl (hb hby d_method_4_code_1) rfl ?_
    show Steps _ _ _ (s₁.setTop (mkF m 2 #[.val (.ref b), .val (.int (1 : Int32)), .val (.int (2 : Int32)), .val (.int (2 : Int32))] [(.int (2 : Int32)), (.int (1 : Int32))])) _
    refine XS.icmpYes X0.here hx rfl (pc0 := 2) (pc' := 22) rfl (hb hby d_method_4_code_2) rfl (tlt (by decide)).1 (by decide) (by decide) ?_
    show Steps _ _ _ (s₁.setTop (mkF m 22 #[.val (.ref b), .val (.int (1 : Int32)), .val (.int (2 : Int32)), .val (.int (2 : Int32))] [])) _
    refine XS.iconst X0.here hx rfl (hb hby d_method_4_code_22) ?_
    show Steps _ _ _ (s₁.setTop (mkF m 23 #[.val (.ref b), .val (.int (1 : Int32)), .val (.int (2 : Int32)), .val (.int (2 : Int32))] [(.int (0 : Int32))])) _
    exact hq)
  have hE := e0
  refine retInt X0 hx hret hlk (by simp) rfl (hb hby d_method_4_code_23) k1 ?_ (by decide) (by decide)
  try rw [hE]
  exact ⟨by rw [← hr], N0, rfl⟩
set_option maxRecDepth 65536 in
set_option maxHeartbeats 40000000 in
theorem rm_st2_2_2 (l : Launch) (Z : State) (a0 : Array Value) (hw : ∀ d ∈ tables_1, d.before a0 Z = true) (b : Addr) (kb : ClassId) (d0 : Int32) (d1 : Int32) (d2 : Int32) (d3 : Int32) (r : Int32) (h0 : Heap) (n0 : Nat) (hn0 : n0 ≤ h0.size) (P0 : Arv Z h0 b kb .char (4 : Int32) [(.int d0), (.int d1), (.int d2), (.int d3)] (.int (0 : Int32))) (hr : (0 : Int32) = r) :
    Con l Z (⟨"com/example/apportion/apportion/input/DecimalsFirstWholeDigitPinLaw", "stops", "([CIII)Z"⟩ : MethodName) method_4_code 4 (some .boolean) [] ({ frames := 0, cells := 0, slots := 0, locals := 0 } : Room) #[(.ref b), (.int (2 : Int32)), (.int (2 : Int32)), (.int (2 : Int32))] h0 (fun v h L => v = some (.int r) ∧ Fr n0 L ∧ h = h0) := by
  refine enter (Ls := #[.val (.ref b), .val (.int (2 : Int32)), .val (.int (2 : Int32)), .val (.int (2 : Int32))]) (plainFor_of_name pn_4) (fun m => by exact entry_eq rfl) ?_
  intro p e s m below meth cd_ s₁ S0 hx hby hml hret hlk hnm hown hZ X0 e0 k0
  have N0 := Fr.nil n0
  have k1 : To p.tables e below S0 (s₁.setTop (mkF m 23 #[.val (.ref b), .val (.int (2 : Int32)), .val (.int (2 : Int32)), .val (.int (2 : Int32))] [(.int (0 : Int32))])) := fun tt hq => k0 tt (by
    show Steps _ _ _ (s₁.setTop (mkF m 0 #[.val (.ref b), .val (.int (2 : Int32)), .val (.int (2 : Int32)), .val (.int (2 : Int32))] [])) _
    refine XS.iloadN X0.here hx rfl (hb hby d_method_4_code_0) rfl ?_
    show Steps _ _ _ (s₁.setTop (mkF m 1 #[.val (.ref b), .val (.int (2 : Int32)), .val (.int (2 : Int32)), .val (.int (2 : Int32))] [(.int (2 : Int32))])) _
    refine XS.iloadN X0.here hx rfl (hb hby d_method_4_code_1) rfl ?_
    show Steps _ _ _ (s₁.setTop (mkF m 2 #[.val (.ref b), .val (.int (2 : Int32)), .val (.int (2 : Int32)), .val (.int (2 : Int32))] [(.int (2 : Int32)), (.int (2 : Int32))])) _
    refine XS.icmpNo X0.here hx rfl (hb hby d_method_4_code_2) rfl (flt (by decide)).1 ?_
    show Steps _ _ _ (s₁.setTop (mkF m 5 #[.val (.ref b), .val (.int (2 : Int32)), .val (.int (2 : Int32)), .val (.int (2 : Int32))] [])) _
    refine XS.iloadN X0.here hx rfl (hb hby d_method_4_code_5) rfl ?_
    show Steps _ _ _ (s₁.setTop (mkF m 6 #[.val (.ref b), .val (.int (2 : Int32)), .val (.int (2 : Int32)), .val (.int (2 : Int32))] [(.int (2 : Int32))])) _
    refine XS.iloadN X0.here hx rfl (hb hby d_method_4_code_6) rfl ?_
    show Steps _ _ _ (s₁.setTop (mkF m 7 #[.val (.ref b), .val (.int (2 : Int32)), .val (.int (2 : Int32)), .val (.int (2 : Int32))] [(.int (2 : Int32)), (.int (2 : Int32))])) _
    refine XS.icmpYes X0.here hx rfl (pc0 := 7) (pc' := 22) rfl (hb hby d_method_4_code_7) rfl (flt (by decide)).2.1 (by decide) (by decide) ?_
    show Steps _ _ _ (s₁.setTop (mkF m 22 #[.val (.ref b), .val (.int (2 : Int32)), .val (.int (2 : Int32)), .val (.int (2 : Int32))] [])) _
    refine XS.iconst X0.here hx rfl (hb hby d_method_4_code_22) ?_
    show Steps _ _ _ (s₁.setTop (mkF m 23 #[.val (.ref b), .val (.int (2 : Int32)), .val (.int (2 : Int32)), .val (.int (2 : Int32))] [(.int (0 : Int32))])) _
    exact hq)
  have hE := e0
  refine retInt X0 hx hret hlk (by simp) rfl (hb hby d_method_4_code_23) k1 ?_ (by decide) (by decide)
  try rw [hE]
  exact ⟨by rw [← hr], N0, rfl⟩
set_option maxRecDepth 65536 in
set_option maxHeartbeats 40000000 in
theorem rm_st3_2_2 (l : Launch) (Z : State) (a0 : Array Value) (hw : ∀ d ∈ tables_1, d.before a0 Z = true) (b : Addr) (kb : ClassId) (d0 : Int32) (d1 : Int32) (d2 : Int32) (d3 : Int32) (r : Int32) (h0 : Heap) (n0 : Nat) (hn0 : n0 ≤ h0.size) (P0 : Arv Z h0 b kb .char (4 : Int32) [(.int d0), (.int d1), (.int d2), (.int d3)] (.int (0 : Int32))) (hr : (0 : Int32) = r) :
    Con l Z (⟨"com/example/apportion/apportion/input/DecimalsFirstWholeDigitPinLaw", "stops", "([CIII)Z"⟩ : MethodName) method_4_code 4 (some .boolean) [] ({ frames := 0, cells := 0, slots := 0, locals := 0 } : Room) #[(.ref b), (.int (3 : Int32)), (.int (2 : Int32)), (.int (2 : Int32))] h0 (fun v h L => v = some (.int r) ∧ Fr n0 L ∧ h = h0) := by
  refine enter (Ls := #[.val (.ref b), .val (.int (3 : Int32)), .val (.int (2 : Int32)), .val (.int (2 : Int32))]) (plainFor_of_name pn_4) (fun m => by exact entry_eq rfl) ?_
  intro p e s m below meth cd_ s₁ S0 hx hby hml hret hlk hnm hown hZ X0 e0 k0
  have N0 := Fr.nil n0
  have k1 : To p.tables e below S0 (s₁.setTop (mkF m 23 #[.val (.ref b), .val (.int (3 : Int32)), .val (.int (2 : Int32)), .val (.int (2 : Int32))] [(.int (0 : Int32))])) := fun tt hq => k0 tt (by
    show Steps _ _ _ (s₁.setTop (mkF m 0 #[.val (.ref b), .val (.int (3 : Int32)), .val (.int (2 : Int32)), .val (.int (2 : Int32))] [])) _
    refine XS.iloadN X0.here hx rfl (hb hby d_method_4_code_0) rfl ?_
    show Steps _ _ _ (s₁.setTop (mkF m 1 #[.val (.ref b), .val (.int (3 : Int32)), .val (.int (2 : Int32)), .val (.int (2 : Int32))] [(.int (3 : Int32))])) _
    refine XS.iloadN X0.here hx rfl (hb hby d_method_4_code_1) rfl ?_
    show Steps _ _ _ (s₁.setTop (mkF m 2 #[.val (.ref b), .val (.int (3 : Int32)), .val (.int (2 : Int32)), .val (.int (2 : Int32))] [(.int (2 : Int32)), (.int (3 : Int32))])) _
    refine XS.icmpNo X0.here hx rfl (hb hby d_method_4_code_2) rfl (flt (by decide)).1 ?_
    show Steps _ _ _ (s₁.setTop (mkF m 5 #[.val (.ref b), .val (.int (3 : Int32)), .val (.int (2 : Int32)), .val (.int (2 : Int32))] [])) _
    refine XS.iloadN X0.here hx rfl (hb hby d_method_4_code_5) rfl ?_
    show Steps _ _ _ (s₁.setTop (mkF m 6 #[.val (.ref b), .val (.int (3 : Int32)), .val (.int (2 : Int32)), .val (.int (2 : Int32))] [(.int (3 : Int32))])) _
    refine XS.iloadN X0.here hx rfl (hb hby d_method_4_code_6) rfl ?_
    show Steps _ _ _ (s₁.setTop (mkF m 7 #[.val (.ref b), .val (.int (3 : Int32)), .val (.int (2 : Int32)), .val (.int (2 : Int32))] [(.int (2 : Int32)), (.int (3 : Int32))])) _
    refine XS.icmpYes X0.here hx rfl (pc0 := 7) (pc' := 22) rfl (hb hby d_method_4_code_7) rfl (flt (by decide)).2.1 (by decide) (by decide) ?_
    show Steps _ _ _ (s₁.setTop (mkF m 22 #[.val (.ref b), .val (.int (3 : Int32)), .val (.int (2 : Int32)), .val (.int (2 : Int32))] [])) _
    refine XS.iconst X0.here hx rfl (hb hby d_method_4_code_22) ?_
    show Steps _ _ _ (s₁.setTop (mkF m 23 #[.val (.ref b), .val (.int (3 : Int32)), .val (.int (2 : Int32)), .val (.int (2 : Int32))] [(.int (0 : Int32))])) _
    exact hq)
  have hE := e0
  refine retInt X0 hx hret hlk (by simp) rfl (hb hby d_method_4_code_23) k1 ?_ (by decide) (by decide)
  try rw [hE]
  exact ⟨by rw [← hr], N0, rfl⟩
set_option maxRecDepth 65536 in
set_option maxHeartbeats 40000000 in
theorem rm_st0_2_3 (l : Launch) (Z : State) (a0 : Array Value) (hw : ∀ d ∈ tables_1, d.before a0 Z = true) (b : Addr) (kb : ClassId) (d0 : Int32) (d1 : Int32) (d2 : Int32) (d3 : Int32) (r : Int32) (h0 : Heap) (n0 : Nat) (hn0 : n0 ≤ h0.size) (P0 : Arv Z h0 b kb .char (4 : Int32) [(.int d0), (.int d1), (.int d2), (.int d3)] (.int (0 : Int32))) (hr : (0 : Int32) = r) :
    Con l Z (⟨"com/example/apportion/apportion/input/DecimalsFirstWholeDigitPinLaw", "stops", "([CIII)Z"⟩ : MethodName) method_4_code 4 (some .boolean) [] ({ frames := 0, cells := 0, slots := 0, locals := 0 } : Room) #[(.ref b), (.int (0 : Int32)), (.int (2 : Int32)), (.int (3 : Int32))] h0 (fun v h L => v = some (.int r) ∧ Fr n0 L ∧ h = h0) := by
  refine enter (Ls := #[.val (.ref b), .val (.int (0 : Int32)), .val (.int (2 : Int32)), .val (.int (3 : Int32))]) (plainFor_of_name pn_4) (fun m => by exact entry_eq rfl) ?_
  intro p e s m below meth cd_ s₁ S0 hx hby hml hret hlk hnm hown hZ X0 e0 k0
  have N0 := Fr.nil n0
  have k1 : To p.tables e below S0 (s₁.setTop (mkF m 23 #[.val (.ref b), .val (.int (0 : Int32)), .val (.int (2 : Int32)), .val (.int (3 : Int32))] [(.int (0 : Int32))])) := fun tt hq => k0 tt (by
    show Steps _ _ _ (s₁.setTop (mkF m 0 #[.val (.ref b), .val (.int (0 : Int32)), .val (.int (2 : Int32)), .val (.int (3 : Int32))] [])) _
    refine XS.iloadN X0.here hx rfl (hb hby d_method_4_code_0) rfl ?_
    show Steps _ _ _ (s₁.setTop (mkF m 1 #[.val (.ref b), .val (.int (0 : Int32)), .val (.int (2 : Int32)), .val (.int (3 : Int32))] [(.int (0 : Int32))])) _
    refine XS.iloadN X0.here hx rfl (hb hby d_method_4_code_1) rfl ?_
    show Steps _ _ _ (s₁.setTop (mkF m 2 #[.val (.ref b), .val (.int (0 : Int32)), .val (.int (2 : Int32)), .val (.int (3 : Int32))] [(.int (2 : Int32)), (.int (0 : Int32))])) _
    refine XS.icmpYes X0.here hx rfl (pc0 := 2) (pc' := 22) rfl (hb hby d_method_4_code_2) rfl (tlt (by decide)).1 (by decide) (by decide) ?_
    show Steps _ _ _ (s₁.setTop (mkF m 22 #[.val (.ref b), .val (.int (0 : Int32)), .val (.int (2 : Int32)), .val (.int (3 : Int32))] [])) _
    refine XS.iconst X0.here hx rfl (hb hby d_method_4_code_22) ?_
    show Steps _ _ _ (s₁.setTop (mkF m 23 #[.val (.ref b), .val (.int (0 : Int32)), .val (.int (2 : Int32)), .val (.int (3 : Int32))] [(.int (0 : Int32))])) _
    exact hq)
  have hE := e0
  refine retInt X0 hx hret hlk (by simp) rfl (hb hby d_method_4_code_23) k1 ?_ (by decide) (by decide)
  try rw [hE]
  exact ⟨by rw [← hr], N0, rfl⟩
set_option maxRecDepth 65536 in
set_option maxHeartbeats 40000000 in
theorem rm_st1_2_3 (l : Launch) (Z : State) (a0 : Array Value) (hw : ∀ d ∈ tables_1, d.before a0 Z = true) (b : Addr) (kb : ClassId) (d0 : Int32) (d1 : Int32) (d2 : Int32) (d3 : Int32) (r : Int32) (h0 : Heap) (n0 : Nat) (hn0 : n0 ≤ h0.size) (P0 : Arv Z h0 b kb .char (4 : Int32) [(.int d0), (.int d1), (.int d2), (.int d3)] (.int (0 : Int32))) (hr : (0 : Int32) = r) :
    Con l Z (⟨"com/example/apportion/apportion/input/DecimalsFirstWholeDigitPinLaw", "stops", "([CIII)Z"⟩ : MethodName) method_4_code 4 (some .boolean) [] ({ frames := 0, cells := 0, slots := 0, locals := 0 } : Room) #[(.ref b), (.int (1 : Int32)), (.int (2 : Int32)), (.int (3 : Int32))] h0 (fun v h L => v = some (.int r) ∧ Fr n0 L ∧ h = h0) := by
  refine enter (Ls := #[.val (.ref b), .val (.int (1 : Int32)), .val (.int (2 : Int32)), .val (.int (3 : Int32))]) (plainFor_of_name pn_4) (fun m => by exact entry_eq rfl) ?_
  intro p e s m below meth cd_ s₁ S0 hx hby hml hret hlk hnm hown hZ X0 e0 k0
  have N0 := Fr.nil n0
  have k1 : To p.tables e below S0 (s₁.setTop (mkF m 23 #[.val (.ref b), .val (.int (1 : Int32)), .val (.int (2 : Int32)), .val (.int (3 : Int32))] [(.int (0 : Int32))])) := fun tt hq => k0 tt (by
    show Steps _ _ _ (s₁.setTop (mkF m 0 #[.val (.ref b), .val (.int (1 : Int32)), .val (.int (2 : Int32)), .val (.int (3 : Int32))] [])) _
    refine XS.iloadN X0.here hx rfl (hb hby d_method_4_code_0) rfl ?_
    show Steps _ _ _ (s₁.setTop (mkF m 1 #[.val (.ref b), .val (.int (1 : Int32)), .val (.int (2 : Int32)), .val (.int (3 : Int32))] [(.int (1 : Int32))])) _
    refine XS.iloadN X0.here hx rfl (hb hby d_method_4_code_1) rfl ?_
    show Steps _ _ _ (s₁.setTop (mkF m 2 #[.val (.ref b), .val (.int (1 : Int32)), .val (.int (2 : Int32)), .val (.int (3 : Int32))] [(.int (2 : Int32)), (.int (1 : Int32))])) _
    refine XS.icmpYes X0.here hx rfl (pc0 := 2) (pc' := 22) rfl (hb hby d_method_4_code_2) rfl (tlt (by decide)).1 (by decide) (by decide) ?_
    show Steps _ _ _ (s₁.setTop (mkF m 22 #[.val (.ref b), .val (.int (1 : Int32)), .val (.int (2 : Int32)), .val (.int (3 : Int32))] [])) _
    refine XS.iconst X0.here hx rfl (hb hby d_method_4_code_22) ?_
    show Steps _ _ _ (s₁.setTop (mkF m 23 #[.val (.ref b), .val (.int (1 : Int32)), .val (.int (2 : Int32)), .val (.int (3 : Int32))] [(.int (0 : Int32))])) _
    exact hq)
  have hE := e0
  refine retInt X0 hx hret hlk (by simp) rfl (hb hby d_method_4_code_23) k1 ?_ (by decide) (by decide)
  try rw [hE]
  exact ⟨by rw [← hr], N0, rfl⟩
set_option maxRecDepth 65536 in
set_option maxHeartbeats 40000000 in
theorem rm_st2_2_3 (l : Launch) (Z : State) (a0 : Array Value) (hw : ∀ d ∈ tables_1, d.before a0 Z = true) (b : Addr) (kb : ClassId) (d0 : Int32) (d1 : Int32) (d2 : Int32) (d3 : Int32) (r : Int32) (h0 : Heap) (n0 : Nat) (hn0 : n0 ≤ h0.size) (P0 : Arv Z h0 b kb .char (4 : Int32) [(.int d0), (.int d1), (.int d2), (.int d3)] (.int (0 : Int32))) (hr : (if d2 = (48 : Int32) then (0 : Int32) else 1) = r) :
    Con l Z (⟨"com/example/apportion/apportion/input/DecimalsFirstWholeDigitPinLaw", "stops", "([CIII)Z"⟩ : MethodName) method_4_code 4 (some .boolean) [] ({ frames := 0, cells := 0, slots := 0, locals := 0 } : Room) #[(.ref b), (.int (2 : Int32)), (.int (2 : Int32)), (.int (3 : Int32))] h0 (fun v h L => v = some (.int r) ∧ Fr n0 L ∧ h = h0) := by
  refine enter (Ls := #[.val (.ref b), .val (.int (2 : Int32)), .val (.int (2 : Int32)), .val (.int (3 : Int32))]) (plainFor_of_name pn_4) (fun m => by exact entry_eq rfl) ?_
  intro p e s m below meth cd_ s₁ S0 hx hby hml hret hlk hnm hown hZ X0 e0 k0
  have N0 := Fr.nil n0
  have k1 : To p.tables e below S0 (s₁.setTop (mkF m 12 #[.val (.ref b), .val (.int (2 : Int32)), .val (.int (2 : Int32)), .val (.int (3 : Int32))] [(.int (2 : Int32)), (.ref b)])) := fun tt hq => k0 tt (by
    show Steps _ _ _ (s₁.setTop (mkF m 0 #[.val (.ref b), .val (.int (2 : Int32)), .val (.int (2 : Int32)), .val (.int (3 : Int32))] [])) _
    refine XS.iloadN X0.here hx rfl (hb hby d_method_4_code_0) rfl ?_
    show Steps _ _ _ (s₁.setTop (mkF m 1 #[.val (.ref b), .val (.int (2 : Int32)), .val (.int (2 : Int32)), .val (.int (3 : Int32))] [(.int (2 : Int32))])) _
    refine XS.iloadN X0.here hx rfl (hb hby d_method_4_code_1) rfl ?_
    show Steps _ _ _ (s₁.setTop (mkF m 2 #[.val (.ref b), .val (.int (2 : Int32)), .val (.int (2 : Int32)), .val (.int (3 : Int32))] [(.int (2 : Int32)), (.int (2 : Int32))])) _
    refine XS.icmpNo X0.here hx rfl (hb hby d_method_4_code_2) rfl (flt (by decide)).1 ?_
    show Steps _ _ _ (s₁.setTop (mkF m 5 #[.val (.ref b), .val (.int (2 : Int32)), .val (.int (2 : Int32)), .val (.int (3 : Int32))] [])) _
    refine XS.iloadN X0.here hx rfl (hb hby d_method_4_code_5) rfl ?_
    show Steps _ _ _ (s₁.setTop (mkF m 6 #[.val (.ref b), .val (.int (2 : Int32)), .val (.int (2 : Int32)), .val (.int (3 : Int32))] [(.int (2 : Int32))])) _
    refine XS.iloadN X0.here hx rfl (hb hby d_method_4_code_6) rfl ?_
    show Steps _ _ _ (s₁.setTop (mkF m 7 #[.val (.ref b), .val (.int (2 : Int32)), .val (.int (2 : Int32)), .val (.int (3 : Int32))] [(.int (3 : Int32)), (.int (2 : Int32))])) _
    refine XS.icmpNo X0.here hx rfl (hb hby d_method_4_code_7) rfl (tlt (by decide)).2.1 ?_
    show Steps _ _ _ (s₁.setTop (mkF m 10 #[.val (.ref b), .val (.int (2 : Int32)), .val (.int (2 : Int32)), .val (.int (3 : Int32))] [])) _
    refine XS.aloadN X0.here hx rfl (hb hby d_method_4_code_10) rfl rfl ?_
    show Steps _ _ _ (s₁.setTop (mkF m 11 #[.val (.ref b), .val (.int (2 : Int32)), .val (.int (2 : Int32)), .val (.int (3 : Int32))] [(.ref b)])) _
    refine XS.iloadN X0.here hx rfl (hb hby d_method_4_code_11) rfl ?_
    show Steps _ _ _ (s₁.setTop (mkF m 12 #[.val (.ref b), .val (.int (2 : Int32)), .val (.int (2 : Int32)), .val (.int (3 : Int32))] [(.int (2 : Int32)), (.ref b)])) _
    exact hq)
  obtain ⟨cl2, Ar2, -, S2, -, G2, -⟩ := id P0
  have hi2 := inb_of (j := (2 : Int32)) S2 ⟨by decide, by decide⟩
  have st2 := fun tt => X0.caload hx (j := (2 : Int32)) (v := (.int d2)) (by rw [e0]; exact Ar2.1) (State.isArrayOf_alike hZ.alike Ar2.2.1) Ar2.2.2 hi2 (G2.at hi2 rfl) (g := (mkF m 12 #[.val (.ref b), .val (.int (2 : Int32)), .val (.int (2 : Int32)), .val (.int (3 : Int32))] [(.int (2 : Int32)), (.ref b)])) rfl rfl (hb hby d_method_4_code_12) tt
  have k2 : To p.tables e below S0 (s₁.setTop (mkF m 13 #[.val (.ref b), .val (.int (2 : Int32)), .val (.int (2 : Int32)), .val (.int (3 : Int32))] [(.int d2)])) := fun tt hq => k1 tt (st2 tt hq)
  have k3 : To p.tables e below S0 (s₁.setTop (mkF m 15 #[.val (.ref b), .val (.int (2 : Int32)), .val (.int (2 : Int32)), .val (.int (3 : Int32))] [(.int (48 : Int32)), (.int d2)])) := fun tt hq => k2 tt (by
    show Steps _ _ _ (s₁.setTop (mkF m 13 #[.val (.ref b), .val (.int (2 : Int32)), .val (.int (2 : Int32)), .val (.int (3 : Int32))] [(.int d2)])) _
    refine XS.bipush X0.here hx rfl (hb hby d_method_4_code_13) ?_
    show Steps _ _ _ (s₁.setTop (mkF m 15 #[.val (.ref b), .val (.int (2 : Int32)), .val (.int (2 : Int32)), .val (.int (3 : Int32))] [(.int (48 : Int32)), (.int d2)])) _
    exact hq)
  by_cases hc15_4 : d2 = (48 : Int32)
  · -- pc 15, holds
    have k5 : To p.tables e below S0 (s₁.setTop (mkF m 23 #[.val (.ref b), .val (.int (2 : Int32)), .val (.int (2 : Int32)), .val (.int (3 : Int32))] [(.int (0 : Int32))])) := fun tt hq => k3 tt (by
      show Steps _ _ _ (s₁.setTop (mkF m 15 #[.val (.ref b), .val (.int (2 : Int32)), .val (.int (2 : Int32)), .val (.int (3 : Int32))] [(.int (48 : Int32)), (.int d2)])) _
      refine XS.icmpYes X0.here hx rfl (pc0 := 15) (pc' := 22) rfl (hb hby d_method_4_code_15) rfl (teq hc15_4).1 (by decide) (by decide) ?_
      show Steps _ _ _ (s₁.setTop (mkF m 22 #[.val (.ref b), .val (.int (2 : Int32)), .val (.int (2 : Int32)), .val (.int (3 : Int32))] [])) _
      refine XS.iconst X0.here hx rfl (hb hby d_method_4_code_22) ?_
      show Steps _ _ _ (s₁.setTop (mkF m 23 #[.val (.ref b), .val (.int (2 : Int32)), .val (.int (2 : Int32)), .val (.int (3 : Int32))] [(.int (0 : Int32))])) _
      exact hq)
    have hE := e0
    refine retInt X0 hx hret hlk (by simp) rfl (hb hby d_method_4_code_23) k5 ?_ (by decide) (by decide)
    try rw [hE]
    exact ⟨by rw [← hr, if_pos hc15_4], N0, rfl⟩
  · -- pc 15, holds not
    have k6 : To p.tables e below S0 (s₁.setTop (mkF m 23 #[.val (.ref b), .val (.int (2 : Int32)), .val (.int (2 : Int32)), .val (.int (3 : Int32))] [(.int (1 : Int32))])) := fun tt hq => k3 tt (by
      show Steps _ _ _ (s₁.setTop (mkF m 15 #[.val (.ref b), .val (.int (2 : Int32)), .val (.int (2 : Int32)), .val (.int (3 : Int32))] [(.int (48 : Int32)), (.int d2)])) _
      refine XS.icmpNo X0.here hx rfl (hb hby d_method_4_code_15) rfl (feq hc15_4).1 ?_
      show Steps _ _ _ (s₁.setTop (mkF m 18 #[.val (.ref b), .val (.int (2 : Int32)), .val (.int (2 : Int32)), .val (.int (3 : Int32))] [])) _
      refine XS.iconst X0.here hx rfl (hb hby d_method_4_code_18) ?_
      show Steps _ _ _ (s₁.setTop (mkF m 19 #[.val (.ref b), .val (.int (2 : Int32)), .val (.int (2 : Int32)), .val (.int (3 : Int32))] [(.int (1 : Int32))])) _
      refine XS.goto X0.here hx rfl (pc0 := 19) (pc' := 23) rfl (hb hby d_method_4_code_19) (by decide) (by decide) ?_
      show Steps _ _ _ (s₁.setTop (mkF m 23 #[.val (.ref b), .val (.int (2 : Int32)), .val (.int (2 : Int32)), .val (.int (3 : Int32))] [(.int (1 : Int32))])) _
      exact hq)
    have hE := e0
    refine retInt X0 hx hret hlk (by simp) rfl (hb hby d_method_4_code_23) k6 ?_ (by decide) (by decide)
    try rw [hE]
    exact ⟨by rw [← hr, if_neg hc15_4], N0, rfl⟩
set_option maxRecDepth 65536 in
set_option maxHeartbeats 40000000 in
theorem rm_st3_2_3 (l : Launch) (Z : State) (a0 : Array Value) (hw : ∀ d ∈ tables_1, d.before a0 Z = true) (b : Addr) (kb : ClassId) (d0 : Int32) (d1 : Int32) (d2 : Int32) (d3 : Int32) (r : Int32) (h0 : Heap) (n0 : Nat) (hn0 : n0 ≤ h0.size) (P0 : Arv Z h0 b kb .char (4 : Int32) [(.int d0), (.int d1), (.int d2), (.int d3)] (.int (0 : Int32))) (hr : (0 : Int32) = r) :
    Con l Z (⟨"com/example/apportion/apportion/input/DecimalsFirstWholeDigitPinLaw", "stops", "([CIII)Z"⟩ : MethodName) method_4_code 4 (some .boolean) [] ({ frames := 0, cells := 0, slots := 0, locals := 0 } : Room) #[(.ref b), (.int (3 : Int32)), (.int (2 : Int32)), (.int (3 : Int32))] h0 (fun v h L => v = some (.int r) ∧ Fr n0 L ∧ h = h0) := by
  refine enter (Ls := #[.val (.ref b), .val (.int (3 : Int32)), .val (.int (2 : Int32)), .val (.int (3 : Int32))]) (plainFor_of_name pn_4) (fun m => by exact entry_eq rfl) ?_
  intro p e s m below meth cd_ s₁ S0 hx hby hml hret hlk hnm hown hZ X0 e0 k0
  have N0 := Fr.nil n0
  have k1 : To p.tables e below S0 (s₁.setTop (mkF m 23 #[.val (.ref b), .val (.int (3 : Int32)), .val (.int (2 : Int32)), .val (.int (3 : Int32))] [(.int (0 : Int32))])) := fun tt hq => k0 tt (by
    show Steps _ _ _ (s₁.setTop (mkF m 0 #[.val (.ref b), .val (.int (3 : Int32)), .val (.int (2 : Int32)), .val (.int (3 : Int32))] [])) _
    refine XS.iloadN X0.here hx rfl (hb hby d_method_4_code_0) rfl ?_
    show Steps _ _ _ (s₁.setTop (mkF m 1 #[.val (.ref b), .val (.int (3 : Int32)), .val (.int (2 : Int32)), .val (.int (3 : Int32))] [(.int (3 : Int32))])) _
    refine XS.iloadN X0.here hx rfl (hb hby d_method_4_code_1) rfl ?_
    show Steps _ _ _ (s₁.setTop (mkF m 2 #[.val (.ref b), .val (.int (3 : Int32)), .val (.int (2 : Int32)), .val (.int (3 : Int32))] [(.int (2 : Int32)), (.int (3 : Int32))])) _
    refine XS.icmpNo X0.here hx rfl (hb hby d_method_4_code_2) rfl (flt (by decide)).1 ?_
    show Steps _ _ _ (s₁.setTop (mkF m 5 #[.val (.ref b), .val (.int (3 : Int32)), .val (.int (2 : Int32)), .val (.int (3 : Int32))] [])) _
    refine XS.iloadN X0.here hx rfl (hb hby d_method_4_code_5) rfl ?_
    show Steps _ _ _ (s₁.setTop (mkF m 6 #[.val (.ref b), .val (.int (3 : Int32)), .val (.int (2 : Int32)), .val (.int (3 : Int32))] [(.int (3 : Int32))])) _
    refine XS.iloadN X0.here hx rfl (hb hby d_method_4_code_6) rfl ?_
    show Steps _ _ _ (s₁.setTop (mkF m 7 #[.val (.ref b), .val (.int (3 : Int32)), .val (.int (2 : Int32)), .val (.int (3 : Int32))] [(.int (3 : Int32)), (.int (3 : Int32))])) _
    refine XS.icmpYes X0.here hx rfl (pc0 := 7) (pc' := 22) rfl (hb hby d_method_4_code_7) rfl (flt (by decide)).2.1 (by decide) (by decide) ?_
    show Steps _ _ _ (s₁.setTop (mkF m 22 #[.val (.ref b), .val (.int (3 : Int32)), .val (.int (2 : Int32)), .val (.int (3 : Int32))] [])) _
    refine XS.iconst X0.here hx rfl (hb hby d_method_4_code_22) ?_
    show Steps _ _ _ (s₁.setTop (mkF m 23 #[.val (.ref b), .val (.int (3 : Int32)), .val (.int (2 : Int32)), .val (.int (3 : Int32))] [(.int (0 : Int32))])) _
    exact hq)
  have hE := e0
  refine retInt X0 hx hret hlk (by simp) rfl (hb hby d_method_4_code_23) k1 ?_ (by decide) (by decide)
  try rw [hE]
  exact ⟨by rw [← hr], N0, rfl⟩
set_option maxRecDepth 65536 in
set_option maxHeartbeats 40000000 in
theorem rm_st0_2_4 (l : Launch) (Z : State) (a0 : Array Value) (hw : ∀ d ∈ tables_1, d.before a0 Z = true) (b : Addr) (kb : ClassId) (d0 : Int32) (d1 : Int32) (d2 : Int32) (d3 : Int32) (r : Int32) (h0 : Heap) (n0 : Nat) (hn0 : n0 ≤ h0.size) (P0 : Arv Z h0 b kb .char (4 : Int32) [(.int d0), (.int d1), (.int d2), (.int d3)] (.int (0 : Int32))) (hr : (0 : Int32) = r) :
    Con l Z (⟨"com/example/apportion/apportion/input/DecimalsFirstWholeDigitPinLaw", "stops", "([CIII)Z"⟩ : MethodName) method_4_code 4 (some .boolean) [] ({ frames := 0, cells := 0, slots := 0, locals := 0 } : Room) #[(.ref b), (.int (0 : Int32)), (.int (2 : Int32)), (.int (4 : Int32))] h0 (fun v h L => v = some (.int r) ∧ Fr n0 L ∧ h = h0) := by
  refine enter (Ls := #[.val (.ref b), .val (.int (0 : Int32)), .val (.int (2 : Int32)), .val (.int (4 : Int32))]) (plainFor_of_name pn_4) (fun m => by exact entry_eq rfl) ?_
  intro p e s m below meth cd_ s₁ S0 hx hby hml hret hlk hnm hown hZ X0 e0 k0
  have N0 := Fr.nil n0
  have k1 : To p.tables e below S0 (s₁.setTop (mkF m 23 #[.val (.ref b), .val (.int (0 : Int32)), .val (.int (2 : Int32)), .val (.int (4 : Int32))] [(.int (0 : Int32))])) := fun tt hq => k0 tt (by
    show Steps _ _ _ (s₁.setTop (mkF m 0 #[.val (.ref b), .val (.int (0 : Int32)), .val (.int (2 : Int32)), .val (.int (4 : Int32))] [])) _
    refine XS.iloadN X0.here hx rfl (hb hby d_method_4_code_0) rfl ?_
    show Steps _ _ _ (s₁.setTop (mkF m 1 #[.val (.ref b), .val (.int (0 : Int32)), .val (.int (2 : Int32)), .val (.int (4 : Int32))] [(.int (0 : Int32))])) _
    refine XS.iloadN X0.here hx rfl (hb hby d_method_4_code_1) rfl ?_
    show Steps _ _ _ (s₁.setTop (mkF m 2 #[.val (.ref b), .val (.int (0 : Int32)), .val (.int (2 : Int32)), .val (.int (4 : Int32))] [(.int (2 : Int32)), (.int (0 : Int32))])) _
    refine XS.icmpYes X0.here hx rfl (pc0 := 2) (pc' := 22) rfl (hb hby d_method_4_code_2) rfl (tlt (by decide)).1 (by decide) (by decide) ?_
    show Steps _ _ _ (s₁.setTop (mkF m 22 #[.val (.ref b), .val (.int (0 : Int32)), .val (.int (2 : Int32)), .val (.int (4 : Int32))] [])) _
    refine XS.iconst X0.here hx rfl (hb hby d_method_4_code_22) ?_
    show Steps _ _ _ (s₁.setTop (mkF m 23 #[.val (.ref b), .val (.int (0 : Int32)), .val (.int (2 : Int32)), .val (.int (4 : Int32))] [(.int (0 : Int32))])) _
    exact hq)
  have hE := e0
  refine retInt X0 hx hret hlk (by simp) rfl (hb hby d_method_4_code_23) k1 ?_ (by decide) (by decide)
  try rw [hE]
  exact ⟨by rw [← hr], N0, rfl⟩
set_option maxRecDepth 65536 in
set_option maxHeartbeats 40000000 in
theorem rm_st1_2_4 (l : Launch) (Z : State) (a0 : Array Value) (hw : ∀ d ∈ tables_1, d.before a0 Z = true) (b : Addr) (kb : ClassId) (d0 : Int32) (d1 : Int32) (d2 : Int32) (d3 : Int32) (r : Int32) (h0 : Heap) (n0 : Nat) (hn0 : n0 ≤ h0.size) (P0 : Arv Z h0 b kb .char (4 : Int32) [(.int d0), (.int d1), (.int d2), (.int d3)] (.int (0 : Int32))) (hr : (0 : Int32) = r) :
    Con l Z (⟨"com/example/apportion/apportion/input/DecimalsFirstWholeDigitPinLaw", "stops", "([CIII)Z"⟩ : MethodName) method_4_code 4 (some .boolean) [] ({ frames := 0, cells := 0, slots := 0, locals := 0 } : Room) #[(.ref b), (.int (1 : Int32)), (.int (2 : Int32)), (.int (4 : Int32))] h0 (fun v h L => v = some (.int r) ∧ Fr n0 L ∧ h = h0) := by
  refine enter (Ls := #[.val (.ref b), .val (.int (1 : Int32)), .val (.int (2 : Int32)), .val (.int (4 : Int32))]) (plainFor_of_name pn_4) (fun m => by exact entry_eq rfl) ?_
  intro p e s m below meth cd_ s₁ S0 hx hby hml hret hlk hnm hown hZ X0 e0 k0
  have N0 := Fr.nil n0
  have k1 : To p.tables e below S0 (s₁.setTop (mkF m 23 #[.val (.ref b), .val (.int (1 : Int32)), .val (.int (2 : Int32)), .val (.int (4 : Int32))] [(.int (0 : Int32))])) := fun tt hq => k0 tt (by
    show Steps _ _ _ (s₁.setTop (mkF m 0 #[.val (.ref b), .val (.int (1 : Int32)), .val (.int (2 : Int32)), .val (.int (4 : Int32))] [])) _
    refine XS.iloadN X0.here hx rfl (hb hby d_method_4_code_0) rfl ?_
    show Steps _ _ _ (s₁.setTop (mkF m 1 #[.val (.ref b), .val (.int (1 : Int32)), .val (.int (2 : Int32)), .val (.int (4 : Int32))] [(.int (1 : Int32))])) _
    refine XS.iloadN X0.here hx rfl (hb hby d_method_4_code_1) rfl ?_
    show Steps _ _ _ (s₁.setTop (mkF m 2 #[.val (.ref b), .val (.int (1 : Int32)), .val (.int (2 : Int32)), .val (.int (4 : Int32))] [(.int (2 : Int32)), (.int (1 : Int32))])) _
    refine XS.icmpYes X0.here hx rfl (pc0 := 2) (pc' := 22) rfl (hb hby d_method_4_code_2) rfl (tlt (by decide)).1 (by decide) (by decide) ?_
    show Steps _ _ _ (s₁.setTop (mkF m 22 #[.val (.ref b), .val (.int (1 : Int32)), .val (.int (2 : Int32)), .val (.int (4 : Int32))] [])) _
    refine XS.iconst X0.here hx rfl (hb hby d_method_4_code_22) ?_
    show Steps _ _ _ (s₁.setTop (mkF m 23 #[.val (.ref b), .val (.int (1 : Int32)), .val (.int (2 : Int32)), .val (.int (4 : Int32))] [(.int (0 : Int32))])) _
    exact hq)
  have hE := e0
  refine retInt X0 hx hret hlk (by simp) rfl (hb hby d_method_4_code_23) k1 ?_ (by decide) (by decide)
  try rw [hE]
  exact ⟨by rw [← hr], N0, rfl⟩
set_option maxRecDepth 65536 in
set_option maxHeartbeats 40000000 in
theorem rm_st2_2_4 (l : Launch) (Z : State) (a0 : Array Value) (hw : ∀ d ∈ tables_1, d.before a0 Z = true) (b : Addr) (kb : ClassId) (d0 : Int32) (d1 : Int32) (d2 : Int32) (d3 : Int32) (r : Int32) (h0 : Heap) (n0 : Nat) (hn0 : n0 ≤ h0.size) (P0 : Arv Z h0 b kb .char (4 : Int32) [(.int d0), (.int d1), (.int d2), (.int d3)] (.int (0 : Int32))) (hr : (if d2 = (48 : Int32) then (0 : Int32) else 1) = r) :
    Con l Z (⟨"com/example/apportion/apportion/input/DecimalsFirstWholeDigitPinLaw", "stops", "([CIII)Z"⟩ : MethodName) method_4_code 4 (some .boolean) [] ({ frames := 0, cells := 0, slots := 0, locals := 0 } : Room) #[(.ref b), (.int (2 : Int32)), (.int (2 : Int32)), (.int (4 : Int32))] h0 (fun v h L => v = some (.int r) ∧ Fr n0 L ∧ h = h0) := by
  refine enter (Ls := #[.val (.ref b), .val (.int (2 : Int32)), .val (.int (2 : Int32)), .val (.int (4 : Int32))]) (plainFor_of_name pn_4) (fun m => by exact entry_eq rfl) ?_
  intro p e s m below meth cd_ s₁ S0 hx hby hml hret hlk hnm hown hZ X0 e0 k0
  have N0 := Fr.nil n0
  have k1 : To p.tables e below S0 (s₁.setTop (mkF m 12 #[.val (.ref b), .val (.int (2 : Int32)), .val (.int (2 : Int32)), .val (.int (4 : Int32))] [(.int (2 : Int32)), (.ref b)])) := fun tt hq => k0 tt (by
    show Steps _ _ _ (s₁.setTop (mkF m 0 #[.val (.ref b), .val (.int (2 : Int32)), .val (.int (2 : Int32)), .val (.int (4 : Int32))] [])) _
    refine XS.iloadN X0.here hx rfl (hb hby d_method_4_code_0) rfl ?_
    show Steps _ _ _ (s₁.setTop (mkF m 1 #[.val (.ref b), .val (.int (2 : Int32)), .val (.int (2 : Int32)), .val (.int (4 : Int32))] [(.int (2 : Int32))])) _
    refine XS.iloadN X0.here hx rfl (hb hby d_method_4_code_1) rfl ?_
    show Steps _ _ _ (s₁.setTop (mkF m 2 #[.val (.ref b), .val (.int (2 : Int32)), .val (.int (2 : Int32)), .val (.int (4 : Int32))] [(.int (2 : Int32)), (.int (2 : Int32))])) _
    refine XS.icmpNo X0.here hx rfl (hb hby d_method_4_code_2) rfl (flt (by decide)).1 ?_
    show Steps _ _ _ (s₁.setTop (mkF m 5 #[.val (.ref b), .val (.int (2 : Int32)), .val (.int (2 : Int32)), .val (.int (4 : Int32))] [])) _
    refine XS.iloadN X0.here hx rfl (hb hby d_method_4_code_5) rfl ?_
    show Steps _ _ _ (s₁.setTop (mkF m 6 #[.val (.ref b), .val (.int (2 : Int32)), .val (.int (2 : Int32)), .val (.int (4 : Int32))] [(.int (2 : Int32))])) _
    refine XS.iloadN X0.here hx rfl (hb hby d_method_4_code_6) rfl ?_
    show Steps _ _ _ (s₁.setTop (mkF m 7 #[.val (.ref b), .val (.int (2 : Int32)), .val (.int (2 : Int32)), .val (.int (4 : Int32))] [(.int (4 : Int32)), (.int (2 : Int32))])) _
    refine XS.icmpNo X0.here hx rfl (hb hby d_method_4_code_7) rfl (tlt (by decide)).2.1 ?_
    show Steps _ _ _ (s₁.setTop (mkF m 10 #[.val (.ref b), .val (.int (2 : Int32)), .val (.int (2 : Int32)), .val (.int (4 : Int32))] [])) _
    refine XS.aloadN X0.here hx rfl (hb hby d_method_4_code_10) rfl rfl ?_
    show Steps _ _ _ (s₁.setTop (mkF m 11 #[.val (.ref b), .val (.int (2 : Int32)), .val (.int (2 : Int32)), .val (.int (4 : Int32))] [(.ref b)])) _
    refine XS.iloadN X0.here hx rfl (hb hby d_method_4_code_11) rfl ?_
    show Steps _ _ _ (s₁.setTop (mkF m 12 #[.val (.ref b), .val (.int (2 : Int32)), .val (.int (2 : Int32)), .val (.int (4 : Int32))] [(.int (2 : Int32)), (.ref b)])) _
    exact hq)
  obtain ⟨cl2, Ar2, -, S2, -, G2, -⟩ := id P0
  have hi2 := inb_of (j := (2 : Int32)) S2 ⟨by decide, by decide⟩
  have st2 := fun tt => X0.caload hx (j := (2 : Int32)) (v := (.int d2)) (by rw [e0]; exact Ar2.1) (State.isArrayOf_alike hZ.alike Ar2.2.1) Ar2.2.2 hi2 (G2.at hi2 rfl) (g := (mkF m 12 #[.val (.ref b), .val (.int (2 : Int32)), .val (.int (2 : Int32)), .val (.int (4 : Int32))] [(.int (2 : Int32)), (.ref b)])) rfl rfl (hb hby d_method_4_code_12) tt
  have k2 : To p.tables e below S0 (s₁.setTop (mkF m 13 #[.val (.ref b), .val (.int (2 : Int32)), .val (.int (2 : Int32)), .val (.int (4 : Int32))] [(.int d2)])) := fun tt hq => k1 tt (st2 tt hq)
  have k3 : To p.tables e below S0 (s₁.setTop (mkF m 15 #[.val (.ref b), .val (.int (2 : Int32)), .val (.int (2 : Int32)), .val (.int (4 : Int32))] [(.int (48 : Int32)), (.int d2)])) := fun tt hq => k2 tt (by
    show Steps _ _ _ (s₁.setTop (mkF m 13 #[.val (.ref b), .val (.int (2 : Int32)), .val (.int (2 : Int32)), .val (.int (4 : Int32))] [(.int d2)])) _
    refine XS.bipush X0.here hx rfl (hb hby d_method_4_code_13) ?_
    show Steps _ _ _ (s₁.setTop (mkF m 15 #[.val (.ref b), .val (.int (2 : Int32)), .val (.int (2 : Int32)), .val (.int (4 : Int32))] [(.int (48 : Int32)), (.int d2)])) _
    exact hq)
  by_cases hc15_4 : d2 = (48 : Int32)
  · -- pc 15, holds
    have k5 : To p.tables e below S0 (s₁.setTop (mkF m 23 #[.val (.ref b), .val (.int (2 : Int32)), .val (.int (2 : Int32)), .val (.int (4 : Int32))] [(.int (0 : Int32))])) := fun tt hq => k3 tt (by
      show Steps _ _ _ (s₁.setTop (mkF m 15 #[.val (.ref b), .val (.int (2 : Int32)), .val (.int (2 : Int32)), .val (.int (4 : Int32))] [(.int (48 : Int32)), (.int d2)])) _
      refine XS.icmpYes X0.here hx rfl (pc0 := 15) (pc' := 22) rfl (hb hby d_method_4_code_15) rfl (teq hc15_4).1 (by decide) (by decide) ?_
      show Steps _ _ _ (s₁.setTop (mkF m 22 #[.val (.ref b), .val (.int (2 : Int32)), .val (.int (2 : Int32)), .val (.int (4 : Int32))] [])) _
      refine XS.iconst X0.here hx rfl (hb hby d_method_4_code_22) ?_
      show Steps _ _ _ (s₁.setTop (mkF m 23 #[.val (.ref b), .val (.int (2 : Int32)), .val (.int (2 : Int32)), .val (.int (4 : Int32))] [(.int (0 : Int32))])) _
      exact hq)
    have hE := e0
    refine retInt X0 hx hret hlk (by simp) rfl (hb hby d_method_4_code_23) k5 ?_ (by decide) (by decide)
    try rw [hE]
    exact ⟨by rw [← hr, if_pos hc15_4], N0, rfl⟩
  · -- pc 15, holds not
    have k6 : To p.tables e below S0 (s₁.setTop (mkF m 23 #[.val (.ref b), .val (.int (2 : Int32)), .val (.int (2 : Int32)), .val (.int (4 : Int32))] [(.int (1 : Int32))])) := fun tt hq => k3 tt (by
      show Steps _ _ _ (s₁.setTop (mkF m 15 #[.val (.ref b), .val (.int (2 : Int32)), .val (.int (2 : Int32)), .val (.int (4 : Int32))] [(.int (48 : Int32)), (.int d2)])) _
      refine XS.icmpNo X0.here hx rfl (hb hby d_method_4_code_15) rfl (feq hc15_4).1 ?_
      show Steps _ _ _ (s₁.setTop (mkF m 18 #[.val (.ref b), .val (.int (2 : Int32)), .val (.int (2 : Int32)), .val (.int (4 : Int32))] [])) _
      refine XS.iconst X0.here hx rfl (hb hby d_method_4_code_18) ?_
      show Steps _ _ _ (s₁.setTop (mkF m 19 #[.val (.ref b), .val (.int (2 : Int32)), .val (.int (2 : Int32)), .val (.int (4 : Int32))] [(.int (1 : Int32))])) _
      refine XS.goto X0.here hx rfl (pc0 := 19) (pc' := 23) rfl (hb hby d_method_4_code_19) (by decide) (by decide) ?_
      show Steps _ _ _ (s₁.setTop (mkF m 23 #[.val (.ref b), .val (.int (2 : Int32)), .val (.int (2 : Int32)), .val (.int (4 : Int32))] [(.int (1 : Int32))])) _
      exact hq)
    have hE := e0
    refine retInt X0 hx hret hlk (by simp) rfl (hb hby d_method_4_code_23) k6 ?_ (by decide) (by decide)
    try rw [hE]
    exact ⟨by rw [← hr, if_neg hc15_4], N0, rfl⟩
set_option maxRecDepth 65536 in
set_option maxHeartbeats 40000000 in
theorem rm_st3_2_4 (l : Launch) (Z : State) (a0 : Array Value) (hw : ∀ d ∈ tables_1, d.before a0 Z = true) (b : Addr) (kb : ClassId) (d0 : Int32) (d1 : Int32) (d2 : Int32) (d3 : Int32) (r : Int32) (h0 : Heap) (n0 : Nat) (hn0 : n0 ≤ h0.size) (P0 : Arv Z h0 b kb .char (4 : Int32) [(.int d0), (.int d1), (.int d2), (.int d3)] (.int (0 : Int32))) (hr : (if d3 = (48 : Int32) then (0 : Int32) else 1) = r) :
    Con l Z (⟨"com/example/apportion/apportion/input/DecimalsFirstWholeDigitPinLaw", "stops", "([CIII)Z"⟩ : MethodName) method_4_code 4 (some .boolean) [] ({ frames := 0, cells := 0, slots := 0, locals := 0 } : Room) #[(.ref b), (.int (3 : Int32)), (.int (2 : Int32)), (.int (4 : Int32))] h0 (fun v h L => v = some (.int r) ∧ Fr n0 L ∧ h = h0) := by
  refine enter (Ls := #[.val (.ref b), .val (.int (3 : Int32)), .val (.int (2 : Int32)), .val (.int (4 : Int32))]) (plainFor_of_name pn_4) (fun m => by exact entry_eq rfl) ?_
  intro p e s m below meth cd_ s₁ S0 hx hby hml hret hlk hnm hown hZ X0 e0 k0
  have N0 := Fr.nil n0
  have k1 : To p.tables e below S0 (s₁.setTop (mkF m 12 #[.val (.ref b), .val (.int (3 : Int32)), .val (.int (2 : Int32)), .val (.int (4 : Int32))] [(.int (3 : Int32)), (.ref b)])) := fun tt hq => k0 tt (by
    show Steps _ _ _ (s₁.setTop (mkF m 0 #[.val (.ref b), .val (.int (3 : Int32)), .val (.int (2 : Int32)), .val (.int (4 : Int32))] [])) _
    refine XS.iloadN X0.here hx rfl (hb hby d_method_4_code_0) rfl ?_
    show Steps _ _ _ (s₁.setTop (mkF m 1 #[.val (.ref b), .val (.int (3 : Int32)), .val (.int (2 : Int32)), .val (.int (4 : Int32))] [(.int (3 : Int32))])) _
    refine XS.iloadN X0.here hx rfl (hb hby d_method_4_code_1) rfl ?_
    show Steps _ _ _ (s₁.setTop (mkF m 2 #[.val (.ref b), .val (.int (3 : Int32)), .val (.int (2 : Int32)), .val (.int (4 : Int32))] [(.int (2 : Int32)), (.int (3 : Int32))])) _
    refine XS.icmpNo X0.here hx rfl (hb hby d_method_4_code_2) rfl (flt (by decide)).1 ?_
    show Steps _ _ _ (s₁.setTop (mkF m 5 #[.val (.ref b), .val (.int (3 : Int32)), .val (.int (2 : Int32)), .val (.int (4 : Int32))] [])) _
    refine XS.iloadN X0.here hx rfl (hb hby d_method_4_code_5) rfl ?_
    show Steps _ _ _ (s₁.setTop (mkF m 6 #[.val (.ref b), .val (.int (3 : Int32)), .val (.int (2 : Int32)), .val (.int (4 : Int32))] [(.int (3 : Int32))])) _
    refine XS.iloadN X0.here hx rfl (hb hby d_method_4_code_6) rfl ?_
    show Steps _ _ _ (s₁.setTop (mkF m 7 #[.val (.ref b), .val (.int (3 : Int32)), .val (.int (2 : Int32)), .val (.int (4 : Int32))] [(.int (4 : Int32)), (.int (3 : Int32))])) _
    refine XS.icmpNo X0.here hx rfl (hb hby d_method_4_code_7) rfl (tlt (by decide)).2.1 ?_
    show Steps _ _ _ (s₁.setTop (mkF m 10 #[.val (.ref b), .val (.int (3 : Int32)), .val (.int (2 : Int32)), .val (.int (4 : Int32))] [])) _
    refine XS.aloadN X0.here hx rfl (hb hby d_method_4_code_10) rfl rfl ?_
    show Steps _ _ _ (s₁.setTop (mkF m 11 #[.val (.ref b), .val (.int (3 : Int32)), .val (.int (2 : Int32)), .val (.int (4 : Int32))] [(.ref b)])) _
    refine XS.iloadN X0.here hx rfl (hb hby d_method_4_code_11) rfl ?_
    show Steps _ _ _ (s₁.setTop (mkF m 12 #[.val (.ref b), .val (.int (3 : Int32)), .val (.int (2 : Int32)), .val (.int (4 : Int32))] [(.int (3 : Int32)), (.ref b)])) _
    exact hq)
  obtain ⟨cl2, Ar2, -, S2, -, G2, -⟩ := id P0
  have hi2 := inb_of (j := (3 : Int32)) S2 ⟨by decide, by decide⟩
  have st2 := fun tt => X0.caload hx (j := (3 : Int32)) (v := (.int d3)) (by rw [e0]; exact Ar2.1) (State.isArrayOf_alike hZ.alike Ar2.2.1) Ar2.2.2 hi2 (G2.at hi2 rfl) (g := (mkF m 12 #[.val (.ref b), .val (.int (3 : Int32)), .val (.int (2 : Int32)), .val (.int (4 : Int32))] [(.int (3 : Int32)), (.ref b)])) rfl rfl (hb hby d_method_4_code_12) tt
  have k2 : To p.tables e below S0 (s₁.setTop (mkF m 13 #[.val (.ref b), .val (.int (3 : Int32)), .val (.int (2 : Int32)), .val (.int (4 : Int32))] [(.int d3)])) := fun tt hq => k1 tt (st2 tt hq)
  have k3 : To p.tables e below S0 (s₁.setTop (mkF m 15 #[.val (.ref b), .val (.int (3 : Int32)), .val (.int (2 : Int32)), .val (.int (4 : Int32))] [(.int (48 : Int32)), (.int d3)])) := fun tt hq => k2 tt (by
    show Steps _ _ _ (s₁.setTop (mkF m 13 #[.val (.ref b), .val (.int (3 : Int32)), .val (.int (2 : Int32)), .val (.int (4 : Int32))] [(.int d3)])) _
    refine XS.bipush X0.here hx rfl (hb hby d_method_4_code_13) ?_
    show Steps _ _ _ (s₁.setTop (mkF m 15 #[.val (.ref b), .val (.int (3 : Int32)), .val (.int (2 : Int32)), .val (.int (4 : Int32))] [(.int (48 : Int32)), (.int d3)])) _
    exact hq)
  by_cases hc15_4 : d3 = (48 : Int32)
  · -- pc 15, holds
    have k5 : To p.tables e below S0 (s₁.setTop (mkF m 23 #[.val (.ref b), .val (.int (3 : Int32)), .val (.int (2 : Int32)), .val (.int (4 : Int32))] [(.int (0 : Int32))])) := fun tt hq => k3 tt (by
      show Steps _ _ _ (s₁.setTop (mkF m 15 #[.val (.ref b), .val (.int (3 : Int32)), .val (.int (2 : Int32)), .val (.int (4 : Int32))] [(.int (48 : Int32)), (.int d3)])) _
      refine XS.icmpYes X0.here hx rfl (pc0 := 15) (pc' := 22) rfl (hb hby d_method_4_code_15) rfl (teq hc15_4).1 (by decide) (by decide) ?_
      show Steps _ _ _ (s₁.setTop (mkF m 22 #[.val (.ref b), .val (.int (3 : Int32)), .val (.int (2 : Int32)), .val (.int (4 : Int32))] [])) _
      refine XS.iconst X0.here hx rfl (hb hby d_method_4_code_22) ?_
      show Steps _ _ _ (s₁.setTop (mkF m 23 #[.val (.ref b), .val (.int (3 : Int32)), .val (.int (2 : Int32)), .val (.int (4 : Int32))] [(.int (0 : Int32))])) _
      exact hq)
    have hE := e0
    refine retInt X0 hx hret hlk (by simp) rfl (hb hby d_method_4_code_23) k5 ?_ (by decide) (by decide)
    try rw [hE]
    exact ⟨by rw [← hr, if_pos hc15_4], N0, rfl⟩
  · -- pc 15, holds not
    have k6 : To p.tables e below S0 (s₁.setTop (mkF m 23 #[.val (.ref b), .val (.int (3 : Int32)), .val (.int (2 : Int32)), .val (.int (4 : Int32))] [(.int (1 : Int32))])) := fun tt hq => k3 tt (by
      show Steps _ _ _ (s₁.setTop (mkF m 15 #[.val (.ref b), .val (.int (3 : Int32)), .val (.int (2 : Int32)), .val (.int (4 : Int32))] [(.int (48 : Int32)), (.int d3)])) _
      refine XS.icmpNo X0.here hx rfl (hb hby d_method_4_code_15) rfl (feq hc15_4).1 ?_
      show Steps _ _ _ (s₁.setTop (mkF m 18 #[.val (.ref b), .val (.int (3 : Int32)), .val (.int (2 : Int32)), .val (.int (4 : Int32))] [])) _
      refine XS.iconst X0.here hx rfl (hb hby d_method_4_code_18) ?_
      show Steps _ _ _ (s₁.setTop (mkF m 19 #[.val (.ref b), .val (.int (3 : Int32)), .val (.int (2 : Int32)), .val (.int (4 : Int32))] [(.int (1 : Int32))])) _
      refine XS.goto X0.here hx rfl (pc0 := 19) (pc' := 23) rfl (hb hby d_method_4_code_19) (by decide) (by decide) ?_
      show Steps _ _ _ (s₁.setTop (mkF m 23 #[.val (.ref b), .val (.int (3 : Int32)), .val (.int (2 : Int32)), .val (.int (4 : Int32))] [(.int (1 : Int32))])) _
      exact hq)
    have hE := e0
    refine retInt X0 hx hret hlk (by simp) rfl (hb hby d_method_4_code_23) k6 ?_ (by decide) (by decide)
    try rw [hE]
    exact ⟨by rw [← hr, if_neg hc15_4], N0, rfl⟩
set_option maxRecDepth 65536 in
set_option maxHeartbeats 40000000 in
theorem rm_st0_3_3 (l : Launch) (Z : State) (a0 : Array Value) (hw : ∀ d ∈ tables_1, d.before a0 Z = true) (b : Addr) (kb : ClassId) (d0 : Int32) (d1 : Int32) (d2 : Int32) (d3 : Int32) (r : Int32) (h0 : Heap) (n0 : Nat) (hn0 : n0 ≤ h0.size) (P0 : Arv Z h0 b kb .char (4 : Int32) [(.int d0), (.int d1), (.int d2), (.int d3)] (.int (0 : Int32))) (hr : (0 : Int32) = r) :
    Con l Z (⟨"com/example/apportion/apportion/input/DecimalsFirstWholeDigitPinLaw", "stops", "([CIII)Z"⟩ : MethodName) method_4_code 4 (some .boolean) [] ({ frames := 0, cells := 0, slots := 0, locals := 0 } : Room) #[(.ref b), (.int (0 : Int32)), (.int (3 : Int32)), (.int (3 : Int32))] h0 (fun v h L => v = some (.int r) ∧ Fr n0 L ∧ h = h0) := by
  refine enter (Ls := #[.val (.ref b), .val (.int (0 : Int32)), .val (.int (3 : Int32)), .val (.int (3 : Int32))]) (plainFor_of_name pn_4) (fun m => by exact entry_eq rfl) ?_
  intro p e s m below meth cd_ s₁ S0 hx hby hml hret hlk hnm hown hZ X0 e0 k0
  have N0 := Fr.nil n0
  have k1 : To p.tables e below S0 (s₁.setTop (mkF m 23 #[.val (.ref b), .val (.int (0 : Int32)), .val (.int (3 : Int32)), .val (.int (3 : Int32))] [(.int (0 : Int32))])) := fun tt hq => k0 tt (by
    show Steps _ _ _ (s₁.setTop (mkF m 0 #[.val (.ref b), .val (.int (0 : Int32)), .val (.int (3 : Int32)), .val (.int (3 : Int32))] [])) _
    refine XS.iloadN X0.here hx rfl (hb hby d_method_4_code_0) rfl ?_
    show Steps _ _ _ (s₁.setTop (mkF m 1 #[.val (.ref b), .val (.int (0 : Int32)), .val (.int (3 : Int32)), .val (.int (3 : Int32))] [(.int (0 : Int32))])) _
    refine XS.iloadN X0.here hx rfl (hb hby d_method_4_code_1) rfl ?_
    show Steps _ _ _ (s₁.setTop (mkF m 2 #[.val (.ref b), .val (.int (0 : Int32)), .val (.int (3 : Int32)), .val (.int (3 : Int32))] [(.int (3 : Int32)), (.int (0 : Int32))])) _
    refine XS.icmpYes X0.here hx rfl (pc0 := 2) (pc' := 22) rfl (hb hby d_method_4_code_2) rfl (tlt (by decide)).1 (by decide) (by decide) ?_
    show Steps _ _ _ (s₁.setTop (mkF m 22 #[.val (.ref b), .val (.int (0 : Int32)), .val (.int (3 : Int32)), .val (.int (3 : Int32))] [])) _
    refine XS.iconst X0.here hx rfl (hb hby d_method_4_code_22) ?_
    show Steps _ _ _ (s₁.setTop (mkF m 23 #[.val (.ref b), .val (.int (0 : Int32)), .val (.int (3 : Int32)), .val (.int (3 : Int32))] [(.int (0 : Int32))])) _
    exact hq)
  have hE := e0
  refine retInt X0 hx hret hlk (by simp) rfl (hb hby d_method_4_code_23) k1 ?_ (by decide) (by decide)
  try rw [hE]
  exact ⟨by rw [← hr], N0, rfl⟩
set_option maxRecDepth 65536 in
set_option maxHeartbeats 40000000 in
theorem rm_st1_3_3 (l : Launch) (Z : State) (a0 : Array Value) (hw : ∀ d ∈ tables_1, d.before a0 Z = true) (b : Addr) (kb : ClassId) (d0 : Int32) (d1 : Int32) (d2 : Int32) (d3 : Int32) (r : Int32) (h0 : Heap) (n0 : Nat) (hn0 : n0 ≤ h0.size) (P0 : Arv Z h0 b kb .char (4 : Int32) [(.int d0), (.int d1), (.int d2), (.int d3)] (.int (0 : Int32))) (hr : (0 : Int32) = r) :
    Con l Z (⟨"com/example/apportion/apportion/input/DecimalsFirstWholeDigitPinLaw", "stops", "([CIII)Z"⟩ : MethodName) method_4_code 4 (some .boolean) [] ({ frames := 0, cells := 0, slots := 0, locals := 0 } : Room) #[(.ref b), (.int (1 : Int32)), (.int (3 : Int32)), (.int (3 : Int32))] h0 (fun v h L => v = some (.int r) ∧ Fr n0 L ∧ h = h0) := by
  refine enter (Ls := #[.val (.ref b), .val (.int (1 : Int32)), .val (.int (3 : Int32)), .val (.int (3 : Int32))]) (plainFor_of_name pn_4) (fun m => by exact entry_eq rfl) ?_
  intro p e s m below meth cd_ s₁ S0 hx hby hml hret hlk hnm hown hZ X0 e0 k0
  have N0 := Fr.nil n0
  have k1 : To p.tables e below S0 (s₁.setTop (mkF m 23 #[.val (.ref b), .val (.int (1 : Int32)), .val (.int (3 : Int32)), .val (.int (3 : Int32))] [(.int (0 : Int32))])) := fun tt hq => k0 tt (by
    show Steps _ _ _ (s₁.setTop (mkF m 0 #[.val (.ref b), .val (.int (1 : Int32)), .val (.int (3 : Int32)), .val (.int (3 : Int32))] [])) _
    refine XS.iloadN X0.here hx rfl (hb hby d_method_4_code_0) rfl ?_
    show Steps _ _ _ (s₁.setTop (mkF m 1 #[.val (.ref b), .val (.int (1 : Int32)), .val (.int (3 : Int32)), .val (.int (3 : Int32))] [(.int (1 : Int32))])) _
    refine XS.iloadN X0.here hx rfl (hb hby d_method_4_code_1) rfl ?_
    show Steps _ _ _ (s₁.setTop (mkF m 2 #[.val (.ref b), .val (.int (1 : Int32)), .val (.int (3 : Int32)), .val (.int (3 : Int32))] [(.int (3 : Int32)), (.int (1 : Int32))])) _
    refine XS.icmpYes X0.here hx rfl (pc0 := 2) (pc' := 22) rfl (hb hby d_method_4_code_2) rfl (tlt (by decide)).1 (by decide) (by decide) ?_
    show Steps _ _ _ (s₁.setTop (mkF m 22 #[.val (.ref b), .val (.int (1 : Int32)), .val (.int (3 : Int32)), .val (.int (3 : Int32))] [])) _
    refine XS.iconst X0.here hx rfl (hb hby d_method_4_code_22) ?_
    show Steps _ _ _ (s₁.setTop (mkF m 23 #[.val (.ref b), .val (.int (1 : Int32)), .val (.int (3 : Int32)), .val (.int (3 : Int32))] [(.int (0 : Int32))])) _
    exact hq)
  have hE := e0
  refine retInt X0 hx hret hlk (by simp) rfl (hb hby d_method_4_code_23) k1 ?_ (by decide) (by decide)
  try rw [hE]
  exact ⟨by rw [← hr], N0, rfl⟩
set_option maxRecDepth 65536 in
set_option maxHeartbeats 40000000 in
theorem rm_st2_3_3 (l : Launch) (Z : State) (a0 : Array Value) (hw : ∀ d ∈ tables_1, d.before a0 Z = true) (b : Addr) (kb : ClassId) (d0 : Int32) (d1 : Int32) (d2 : Int32) (d3 : Int32) (r : Int32) (h0 : Heap) (n0 : Nat) (hn0 : n0 ≤ h0.size) (P0 : Arv Z h0 b kb .char (4 : Int32) [(.int d0), (.int d1), (.int d2), (.int d3)] (.int (0 : Int32))) (hr : (0 : Int32) = r) :
    Con l Z (⟨"com/example/apportion/apportion/input/DecimalsFirstWholeDigitPinLaw", "stops", "([CIII)Z"⟩ : MethodName) method_4_code 4 (some .boolean) [] ({ frames := 0, cells := 0, slots := 0, locals := 0 } : Room) #[(.ref b), (.int (2 : Int32)), (.int (3 : Int32)), (.int (3 : Int32))] h0 (fun v h L => v = some (.int r) ∧ Fr n0 L ∧ h = h0) := by
  refine enter (Ls := #[.val (.ref b), .val (.int (2 : Int32)), .val (.int (3 : Int32)), .val (.int (3 : Int32))]) (plainFor_of_name pn_4) (fun m => by exact entry_eq rfl) ?_
  intro p e s m below meth cd_ s₁ S0 hx hby hml hret hlk hnm hown hZ X0 e0 k0
  have N0 := Fr.nil n0
  have k1 : To p.tables e below S0 (s₁.setTop (mkF m 23 #[.val (.ref b), .val (.int (2 : Int32)), .val (.int (3 : Int32)), .val (.int (3 : Int32))] [(.int (0 : Int32))])) := fun tt hq => k0 tt (by
    show Steps _ _ _ (s₁.setTop (mkF m 0 #[.val (.ref b), .val (.int (2 : Int32)), .val (.int (3 : Int32)), .val (.int (3 : Int32))] [])) _
    refine XS.iloadN X0.here hx rfl (hb hby d_method_4_code_0) rfl ?_
    show Steps _ _ _ (s₁.setTop (mkF m 1 #[.val (.ref b), .val (.int (2 : Int32)), .val (.int (3 : Int32)), .val (.int (3 : Int32))] [(.int (2 : Int32))])) _
    refine XS.iloadN X0.here hx rfl (hb hby d_method_4_code_1) rfl ?_
    show Steps _ _ _ (s₁.setTop (mkF m 2 #[.val (.ref b), .val (.int (2 : Int32)), .val (.int (3 : Int32)), .val (.int (3 : Int32))] [(.int (3 : Int32)), (.int (2 : Int32))])) _
    refine XS.icmpYes X0.here hx rfl (pc0 := 2) (pc' := 22) rfl (hb hby d_method_4_code_2) rfl (tlt (by decide)).1 (by decide) (by decide) ?_
    show Steps _ _ _ (s₁.setTop (mkF m 22 #[.val (.ref b), .val (.int (2 : Int32)), .val (.int (3 : Int32)), .val (.int (3 : Int32))] [])) _
    refine XS.iconst X0.here hx rfl (hb hby d_method_4_code_22) ?_
    show Steps _ _ _ (s₁.setTop (mkF m 23 #[.val (.ref b), .val (.int (2 : Int32)), .val (.int (3 : Int32)), .val (.int (3 : Int32))] [(.int (0 : Int32))])) _
    exact hq)
  have hE := e0
  refine retInt X0 hx hret hlk (by simp) rfl (hb hby d_method_4_code_23) k1 ?_ (by decide) (by decide)
  try rw [hE]
  exact ⟨by rw [← hr], N0, rfl⟩
set_option maxRecDepth 65536 in
set_option maxHeartbeats 40000000 in
theorem rm_st3_3_3 (l : Launch) (Z : State) (a0 : Array Value) (hw : ∀ d ∈ tables_1, d.before a0 Z = true) (b : Addr) (kb : ClassId) (d0 : Int32) (d1 : Int32) (d2 : Int32) (d3 : Int32) (r : Int32) (h0 : Heap) (n0 : Nat) (hn0 : n0 ≤ h0.size) (P0 : Arv Z h0 b kb .char (4 : Int32) [(.int d0), (.int d1), (.int d2), (.int d3)] (.int (0 : Int32))) (hr : (0 : Int32) = r) :
    Con l Z (⟨"com/example/apportion/apportion/input/DecimalsFirstWholeDigitPinLaw", "stops", "([CIII)Z"⟩ : MethodName) method_4_code 4 (some .boolean) [] ({ frames := 0, cells := 0, slots := 0, locals := 0 } : Room) #[(.ref b), (.int (3 : Int32)), (.int (3 : Int32)), (.int (3 : Int32))] h0 (fun v h L => v = some (.int r) ∧ Fr n0 L ∧ h = h0) := by
  refine enter (Ls := #[.val (.ref b), .val (.int (3 : Int32)), .val (.int (3 : Int32)), .val (.int (3 : Int32))]) (plainFor_of_name pn_4) (fun m => by exact entry_eq rfl) ?_
  intro p e s m below meth cd_ s₁ S0 hx hby hml hret hlk hnm hown hZ X0 e0 k0
  have N0 := Fr.nil n0
  have k1 : To p.tables e below S0 (s₁.setTop (mkF m 23 #[.val (.ref b), .val (.int (3 : Int32)), .val (.int (3 : Int32)), .val (.int (3 : Int32))] [(.int (0 : Int32))])) := fun tt hq => k0 tt (by
    show Steps _ _ _ (s₁.setTop (mkF m 0 #[.val (.ref b), .val (.int (3 : Int32)), .val (.int (3 : Int32)), .val (.int (3 : Int32))] [])) _
    refine XS.iloadN X0.here hx rfl (hb hby d_method_4_code_0) rfl ?_
    show Steps _ _ _ (s₁.setTop (mkF m 1 #[.val (.ref b), .val (.int (3 : Int32)), .val (.int (3 : Int32)), .val (.int (3 : Int32))] [(.int (3 : Int32))])) _
    refine XS.iloadN X0.here hx rfl (hb hby d_method_4_code_1) rfl ?_
    show Steps _ _ _ (s₁.setTop (mkF m 2 #[.val (.ref b), .val (.int (3 : Int32)), .val (.int (3 : Int32)), .val (.int (3 : Int32))] [(.int (3 : Int32)), (.int (3 : Int32))])) _
    refine XS.icmpNo X0.here hx rfl (hb hby d_method_4_code_2) rfl (flt (by decide)).1 ?_
    show Steps _ _ _ (s₁.setTop (mkF m 5 #[.val (.ref b), .val (.int (3 : Int32)), .val (.int (3 : Int32)), .val (.int (3 : Int32))] [])) _
    refine XS.iloadN X0.here hx rfl (hb hby d_method_4_code_5) rfl ?_
    show Steps _ _ _ (s₁.setTop (mkF m 6 #[.val (.ref b), .val (.int (3 : Int32)), .val (.int (3 : Int32)), .val (.int (3 : Int32))] [(.int (3 : Int32))])) _
    refine XS.iloadN X0.here hx rfl (hb hby d_method_4_code_6) rfl ?_
    show Steps _ _ _ (s₁.setTop (mkF m 7 #[.val (.ref b), .val (.int (3 : Int32)), .val (.int (3 : Int32)), .val (.int (3 : Int32))] [(.int (3 : Int32)), (.int (3 : Int32))])) _
    refine XS.icmpYes X0.here hx rfl (pc0 := 7) (pc' := 22) rfl (hb hby d_method_4_code_7) rfl (flt (by decide)).2.1 (by decide) (by decide) ?_
    show Steps _ _ _ (s₁.setTop (mkF m 22 #[.val (.ref b), .val (.int (3 : Int32)), .val (.int (3 : Int32)), .val (.int (3 : Int32))] [])) _
    refine XS.iconst X0.here hx rfl (hb hby d_method_4_code_22) ?_
    show Steps _ _ _ (s₁.setTop (mkF m 23 #[.val (.ref b), .val (.int (3 : Int32)), .val (.int (3 : Int32)), .val (.int (3 : Int32))] [(.int (0 : Int32))])) _
    exact hq)
  have hE := e0
  refine retInt X0 hx hret hlk (by simp) rfl (hb hby d_method_4_code_23) k1 ?_ (by decide) (by decide)
  try rw [hE]
  exact ⟨by rw [← hr], N0, rfl⟩
set_option maxRecDepth 65536 in
set_option maxHeartbeats 40000000 in
theorem rm_st0_3_4 (l : Launch) (Z : State) (a0 : Array Value) (hw : ∀ d ∈ tables_1, d.before a0 Z = true) (b : Addr) (kb : ClassId) (d0 : Int32) (d1 : Int32) (d2 : Int32) (d3 : Int32) (r : Int32) (h0 : Heap) (n0 : Nat) (hn0 : n0 ≤ h0.size) (P0 : Arv Z h0 b kb .char (4 : Int32) [(.int d0), (.int d1), (.int d2), (.int d3)] (.int (0 : Int32))) (hr : (0 : Int32) = r) :
    Con l Z (⟨"com/example/apportion/apportion/input/DecimalsFirstWholeDigitPinLaw", "stops", "([CIII)Z"⟩ : MethodName) method_4_code 4 (some .boolean) [] ({ frames := 0, cells := 0, slots := 0, locals := 0 } : Room) #[(.ref b), (.int (0 : Int32)), (.int (3 : Int32)), (.int (4 : Int32))] h0 (fun v h L => v = some (.int r) ∧ Fr n0 L ∧ h = h0) := by
  refine enter (Ls := #[.val (.ref b), .val (.int (0 : Int32)), .val (.int (3 : Int32)), .val (.int (4 : Int32))]) (plainFor_of_name pn_4) (fun m => by exact entry_eq rfl) ?_
  intro p e s m below meth cd_ s₁ S0 hx hby hml hret hlk hnm hown hZ X0 e0 k0
  have N0 := Fr.nil n0
  have k1 : To p.tables e below S0 (s₁.setTop (mkF m 23 #[.val (.ref b), .val (.int (0 : Int32)), .val (.int (3 : Int32)), .val (.int (4 : Int32))] [(.int (0 : Int32))])) := fun tt hq => k0 tt (by
    show Steps _ _ _ (s₁.setTop (mkF m 0 #[.val (.ref b), .val (.int (0 : Int32)), .val (.int (3 : Int32)), .val (.int (4 : Int32))] [])) _
    refine XS.iloadN X0.here hx rfl (hb hby d_method_4_code_0) rfl ?_
    show Steps _ _ _ (s₁.setTop (mkF m 1 #[.val (.ref b), .val (.int (0 : Int32)), .val (.int (3 : Int32)), .val (.int (4 : Int32))] [(.int (0 : Int32))])) _
    refine XS.iloadN X0.here hx rfl (hb hby d_method_4_code_1) rfl ?_
    show Steps _ _ _ (s₁.setTop (mkF m 2 #[.val (.ref b), .val (.int (0 : Int32)), .val (.int (3 : Int32)), .val (.int (4 : Int32))] [(.int (3 : Int32)), (.int (0 : Int32))])) _
    refine XS.icmpYes X0.here hx rfl (pc0 := 2) (pc' := 22) rfl (hb hby d_method_4_code_2) rfl (tlt (by decide)).1 (by decide) (by decide) ?_
    show Steps _ _ _ (s₁.setTop (mkF m 22 #[.val (.ref b), .val (.int (0 : Int32)), .val (.int (3 : Int32)), .val (.int (4 : Int32))] [])) _
    refine XS.iconst X0.here hx rfl (hb hby d_method_4_code_22) ?_
    show Steps _ _ _ (s₁.setTop (mkF m 23 #[.val (.ref b), .val (.int (0 : Int32)), .val (.int (3 : Int32)), .val (.int (4 : Int32))] [(.int (0 : Int32))])) _
    exact hq)
  have hE := e0
  refine retInt X0 hx hret hlk (by simp) rfl (hb hby d_method_4_code_23) k1 ?_ (by decide) (by decide)
  try rw [hE]
  exact ⟨by rw [← hr], N0, rfl⟩
set_option maxRecDepth 65536 in
set_option maxHeartbeats 40000000 in
theorem rm_st1_3_4 (l : Launch) (Z : State) (a0 : Array Value) (hw : ∀ d ∈ tables_1, d.before a0 Z = true) (b : Addr) (kb : ClassId) (d0 : Int32) (d1 : Int32) (d2 : Int32) (d3 : Int32) (r : Int32) (h0 : Heap) (n0 : Nat) (hn0 : n0 ≤ h0.size) (P0 : Arv Z h0 b kb .char (4 : Int32) [(.int d0), (.int d1), (.int d2), (.int d3)] (.int (0 : Int32))) (hr : (0 : Int32) = r) :
    Con l Z (⟨"com/example/apportion/apportion/input/DecimalsFirstWholeDigitPinLaw", "stops", "([CIII)Z"⟩ : MethodName) method_4_code 4 (some .boolean) [] ({ frames := 0, cells := 0, slots := 0, locals := 0 } : Room) #[(.ref b), (.int (1 : Int32)), (.int (3 : Int32)), (.int (4 : Int32))] h0 (fun v h L => v = some (.int r) ∧ Fr n0 L ∧ h = h0) := by
  refine enter (Ls := #[.val (.ref b), .val (.int (1 : Int32)), .val (.int (3 : Int32)), .val (.int (4 : Int32))]) (plainFor_of_name pn_4) (fun m => by exact entry_eq rfl) ?_
  intro p e s m below meth cd_ s₁ S0 hx hby hml hret hlk hnm hown hZ X0 e0 k0
  have N0 := Fr.nil n0
  have k1 : To p.tables e below S0 (s₁.setTop (mkF m 23 #[.val (.ref b), .val (.int (1 : Int32)), .val (.int (3 : Int32)), .val (.int (4 : Int32))] [(.int (0 : Int32))])) := fun tt hq => k0 tt (by
    show Steps _ _ _ (s₁.setTop (mkF m 0 #[.val (.ref b), .val (.int (1 : Int32)), .val (.int (3 : Int32)), .val (.int (4 : Int32))] [])) _
    refine XS.iloadN X0.here hx rfl (hb hby d_method_4_code_0) rfl ?_
    show Steps _ _ _ (s₁.setTop (mkF m 1 #[.val (.ref b), .val (.int (1 : Int32)), .val (.int (3 : Int32)), .val (.int (4 : Int32))] [(.int (1 : Int32))])) _
    refine XS.iloadN X0.here hx rfl (hb hby d_method_4_code_1) rfl ?_
    show Steps _ _ _ (s₁.setTop (mkF m 2 #[.val (.ref b), .val (.int (1 : Int32)), .val (.int (3 : Int32)), .val (.int (4 : Int32))] [(.int (3 : Int32)), (.int (1 : Int32))])) _
    refine XS.icmpYes X0.here hx rfl (pc0 := 2) (pc' := 22) rfl (hb hby d_method_4_code_2) rfl (tlt (by decide)).1 (by decide) (by decide) ?_
    show Steps _ _ _ (s₁.setTop (mkF m 22 #[.val (.ref b), .val (.int (1 : Int32)), .val (.int (3 : Int32)), .val (.int (4 : Int32))] [])) _
    refine XS.iconst X0.here hx rfl (hb hby d_method_4_code_22) ?_
    show Steps _ _ _ (s₁.setTop (mkF m 23 #[.val (.ref b), .val (.int (1 : Int32)), .val (.int (3 : Int32)), .val (.int (4 : Int32))] [(.int (0 : Int32))])) _
    exact hq)
  have hE := e0
  refine retInt X0 hx hret hlk (by simp) rfl (hb hby d_method_4_code_23) k1 ?_ (by decide) (by decide)
  try rw [hE]
  exact ⟨by rw [← hr], N0, rfl⟩
set_option maxRecDepth 65536 in
set_option maxHeartbeats 40000000 in
theorem rm_st2_3_4 (l : Launch) (Z : State) (a0 : Array Value) (hw : ∀ d ∈ tables_1, d.before a0 Z = true) (b : Addr) (kb : ClassId) (d0 : Int32) (d1 : Int32) (d2 : Int32) (d3 : Int32) (r : Int32) (h0 : Heap) (n0 : Nat) (hn0 : n0 ≤ h0.size) (P0 : Arv Z h0 b kb .char (4 : Int32) [(.int d0), (.int d1), (.int d2), (.int d3)] (.int (0 : Int32))) (hr : (0 : Int32) = r) :
    Con l Z (⟨"com/example/apportion/apportion/input/DecimalsFirstWholeDigitPinLaw", "stops", "([CIII)Z"⟩ : MethodName) method_4_code 4 (some .boolean) [] ({ frames := 0, cells := 0, slots := 0, locals := 0 } : Room) #[(.ref b), (.int (2 : Int32)), (.int (3 : Int32)), (.int (4 : Int32))] h0 (fun v h L => v = some (.int r) ∧ Fr n0 L ∧ h = h0) := by
  refine enter (Ls := #[.val (.ref b), .val (.int (2 : Int32)), .val (.int (3 : Int32)), .val (.int (4 : Int32))]) (plainFor_of_name pn_4) (fun m => by exact entry_eq rfl) ?_
  intro p e s m below meth cd_ s₁ S0 hx hby hml hret hlk hnm hown hZ X0 e0 k0
  have N0 := Fr.nil n0
  have k1 : To p.tables e below S0 (s₁.setTop (mkF m 23 #[.val (.ref b), .val (.int (2 : Int32)), .val (.int (3 : Int32)), .val (.int (4 : Int32))] [(.int (0 : Int32))])) := fun tt hq => k0 tt (by
    show Steps _ _ _ (s₁.setTop (mkF m 0 #[.val (.ref b), .val (.int (2 : Int32)), .val (.int (3 : Int32)), .val (.int (4 : Int32))] [])) _
    refine XS.iloadN X0.here hx rfl (hb hby d_method_4_code_0) rfl ?_
    show Steps _ _ _ (s₁.setTop (mkF m 1 #[.val (.ref b), .val (.int (2 : Int32)), .val (.int (3 : Int32)), .val (.int (4 : Int32))] [(.int (2 : Int32))])) _
    refine XS.iloadN X0.here hx rfl (hb hby d_method_4_code_1) rfl ?_
    show Steps _ _ _ (s₁.setTop (mkF m 2 #[.val (.ref b), .val (.int (2 : Int32)), .val (.int (3 : Int32)), .val (.int (4 : Int32))] [(.int (3 : Int32)), (.int (2 : Int32))])) _
    refine XS.icmpYes X0.here hx rfl (pc0 := 2) (pc' := 22) rfl (hb hby d_method_4_code_2) rfl (tlt (by decide)).1 (by decide) (by decide) ?_
    show Steps _ _ _ (s₁.setTop (mkF m 22 #[.val (.ref b), .val (.int (2 : Int32)), .val (.int (3 : Int32)), .val (.int (4 : Int32))] [])) _
    refine XS.iconst X0.here hx rfl (hb hby d_method_4_code_22) ?_
    show Steps _ _ _ (s₁.setTop (mkF m 23 #[.val (.ref b), .val (.int (2 : Int32)), .val (.int (3 : Int32)), .val (.int (4 : Int32))] [(.int (0 : Int32))])) _
    exact hq)
  have hE := e0
  refine retInt X0 hx hret hlk (by simp) rfl (hb hby d_method_4_code_23) k1 ?_ (by decide) (by decide)
  try rw [hE]
  exact ⟨by rw [← hr], N0, rfl⟩
set_option maxRecDepth 65536 in
set_option maxHeartbeats 40000000 in
theorem rm_st3_3_4 (l : Launch) (Z : State) (a0 : Array Value) (hw : ∀ d ∈ tables_1, d.before a0 Z = true) (b : Addr) (kb : ClassId) (d0 : Int32) (d1 : Int32) (d2 : Int32) (d3 : Int32) (r : Int32) (h0 : Heap) (n0 : Nat) (hn0 : n0 ≤ h0.size) (P0 : Arv Z h0 b kb .char (4 : Int32) [(.int d0), (.int d1), (.int d2), (.int d3)] (.int (0 : Int32))) (hr : (if d3 = (48 : Int32) then (0 : Int32) else 1) = r) :
    Con l Z (⟨"com/example/apportion/apportion/input/DecimalsFirstWholeDigitPinLaw", "stops", "([CIII)Z"⟩ : MethodName) method_4_code 4 (some .boolean) [] ({ frames := 0, cells := 0, slots := 0, locals := 0 } : Room) #[(.ref b), (.int (3 : Int32)), (.int (3 : Int32)), (.int (4 : Int32))] h0 (fun v h L => v = some (.int r) ∧ Fr n0 L ∧ h = h0) := by
  refine enter (Ls := #[.val (.ref b), .val (.int (3 : Int32)), .val (.int (3 : Int32)), .val (.int (4 : Int32))]) (plainFor_of_name pn_4) (fun m => by exact entry_eq rfl) ?_
  intro p e s m below meth cd_ s₁ S0 hx hby hml hret hlk hnm hown hZ X0 e0 k0
  have N0 := Fr.nil n0
  have k1 : To p.tables e below S0 (s₁.setTop (mkF m 12 #[.val (.ref b), .val (.int (3 : Int32)), .val (.int (3 : Int32)), .val (.int (4 : Int32))] [(.int (3 : Int32)), (.ref b)])) := fun tt hq => k0 tt (by
    show Steps _ _ _ (s₁.setTop (mkF m 0 #[.val (.ref b), .val (.int (3 : Int32)), .val (.int (3 : Int32)), .val (.int (4 : Int32))] [])) _
    refine XS.iloadN X0.here hx rfl (hb hby d_method_4_code_0) rfl ?_
    show Steps _ _ _ (s₁.setTop (mkF m 1 #[.val (.ref b), .val (.int (3 : Int32)), .val (.int (3 : Int32)), .val (.int (4 : Int32))] [(.int (3 : Int32))])) _
    refine XS.iloadN X0.here hx rfl (hb hby d_method_4_code_1) rfl ?_
    show Steps _ _ _ (s₁.setTop (mkF m 2 #[.val (.ref b), .val (.int (3 : Int32)), .val (.int (3 : Int32)), .val (.int (4 : Int32))] [(.int (3 : Int32)), (.int (3 : Int32))])) _
    refine XS.icmpNo X0.here hx rfl (hb hby d_method_4_code_2) rfl (flt (by decide)).1 ?_
    show Steps _ _ _ (s₁.setTop (mkF m 5 #[.val (.ref b), .val (.int (3 : Int32)), .val (.int (3 : Int32)), .val (.int (4 : Int32))] [])) _
    refine XS.iloadN X0.here hx rfl (hb hby d_method_4_code_5) rfl ?_
    show Steps _ _ _ (s₁.setTop (mkF m 6 #[.val (.ref b), .val (.int (3 : Int32)), .val (.int (3 : Int32)), .val (.int (4 : Int32))] [(.int (3 : Int32))])) _
    refine XS.iloadN X0.here hx rfl (hb hby d_method_4_code_6) rfl ?_
    show Steps _ _ _ (s₁.setTop (mkF m 7 #[.val (.ref b), .val (.int (3 : Int32)), .val (.int (3 : Int32)), .val (.int (4 : Int32))] [(.int (4 : Int32)), (.int (3 : Int32))])) _
    refine XS.icmpNo X0.here hx rfl (hb hby d_method_4_code_7) rfl (tlt (by decide)).2.1 ?_
    show Steps _ _ _ (s₁.setTop (mkF m 10 #[.val (.ref b), .val (.int (3 : Int32)), .val (.int (3 : Int32)), .val (.int (4 : Int32))] [])) _
    refine XS.aloadN X0.here hx rfl (hb hby d_method_4_code_10) rfl rfl ?_
    show Steps _ _ _ (s₁.setTop (mkF m 11 #[.val (.ref b), .val (.int (3 : Int32)), .val (.int (3 : Int32)), .val (.int (4 : Int32))] [(.ref b)])) _
    refine XS.iloadN X0.here hx rfl (hb hby d_method_4_code_11) rfl ?_
    show Steps _ _ _ (s₁.setTop (mkF m 12 #[.val (.ref b), .val (.int (3 : Int32)), .val (.int (3 : Int32)), .val (.int (4 : Int32))] [(.int (3 : Int32)), (.ref b)])) _
    exact hq)
  obtain ⟨cl2, Ar2, -, S2, -, G2, -⟩ := id P0
  have hi2 := inb_of (j := (3 : Int32)) S2 ⟨by decide, by decide⟩
  have st2 := fun tt => X0.caload hx (j := (3 : Int32)) (v := (.int d3)) (by rw [e0]; exact Ar2.1) (State.isArrayOf_alike hZ.alike Ar2.2.1) Ar2.2.2 hi2 (G2.at hi2 rfl) (g := (mkF m 12 #[.val (.ref b), .val (.int (3 : Int32)), .val (.int (3 : Int32)), .val (.int (4 : Int32))] [(.int (3 : Int32)), (.ref b)])) rfl rfl (hb hby d_method_4_code_12) tt
  have k2 : To p.tables e below S0 (s₁.setTop (mkF m 13 #[.val (.ref b), .val (.int (3 : Int32)), .val (.int (3 : Int32)), .val (.int (4 : Int32))] [(.int d3)])) := fun tt hq => k1 tt (st2 tt hq)
  have k3 : To p.tables e below S0 (s₁.setTop (mkF m 15 #[.val (.ref b), .val (.int (3 : Int32)), .val (.int (3 : Int32)), .val (.int (4 : Int32))] [(.int (48 : Int32)), (.int d3)])) := fun tt hq => k2 tt (by
    show Steps _ _ _ (s₁.setTop (mkF m 13 #[.val (.ref b), .val (.int (3 : Int32)), .val (.int (3 : Int32)), .val (.int (4 : Int32))] [(.int d3)])) _
    refine XS.bipush X0.here hx rfl (hb hby d_method_4_code_13) ?_
    show Steps _ _ _ (s₁.setTop (mkF m 15 #[.val (.ref b), .val (.int (3 : Int32)), .val (.int (3 : Int32)), .val (.int (4 : Int32))] [(.int (48 : Int32)), (.int d3)])) _
    exact hq)
  by_cases hc15_4 : d3 = (48 : Int32)
  · -- pc 15, holds
    have k5 : To p.tables e below S0 (s₁.setTop (mkF m 23 #[.val (.ref b), .val (.int (3 : Int32)), .val (.int (3 : Int32)), .val (.int (4 : Int32))] [(.int (0 : Int32))])) := fun tt hq => k3 tt (by
      show Steps _ _ _ (s₁.setTop (mkF m 15 #[.val (.ref b), .val (.int (3 : Int32)), .val (.int (3 : Int32)), .val (.int (4 : Int32))] [(.int (48 : Int32)), (.int d3)])) _
      refine XS.icmpYes X0.here hx rfl (pc0 := 15) (pc' := 22) rfl (hb hby d_method_4_code_15) rfl (teq hc15_4).1 (by decide) (by decide) ?_
      show Steps _ _ _ (s₁.setTop (mkF m 22 #[.val (.ref b), .val (.int (3 : Int32)), .val (.int (3 : Int32)), .val (.int (4 : Int32))] [])) _
      refine XS.iconst X0.here hx rfl (hb hby d_method_4_code_22) ?_
      show Steps _ _ _ (s₁.setTop (mkF m 23 #[.val (.ref b), .val (.int (3 : Int32)), .val (.int (3 : Int32)), .val (.int (4 : Int32))] [(.int (0 : Int32))])) _
      exact hq)
    have hE := e0
    refine retInt X0 hx hret hlk (by simp) rfl (hb hby d_method_4_code_23) k5 ?_ (by decide) (by decide)
    try rw [hE]
    exact ⟨by rw [← hr, if_pos hc15_4], N0, rfl⟩
  · -- pc 15, holds not
    have k6 : To p.tables e below S0 (s₁.setTop (mkF m 23 #[.val (.ref b), .val (.int (3 : Int32)), .val (.int (3 : Int32)), .val (.int (4 : Int32))] [(.int (1 : Int32))])) := fun tt hq => k3 tt (by
      show Steps _ _ _ (s₁.setTop (mkF m 15 #[.val (.ref b), .val (.int (3 : Int32)), .val (.int (3 : Int32)), .val (.int (4 : Int32))] [(.int (48 : Int32)), (.int d3)])) _
      refine XS.icmpNo X0.here hx rfl (hb hby d_method_4_code_15) rfl (feq hc15_4).1 ?_
      show Steps _ _ _ (s₁.setTop (mkF m 18 #[.val (.ref b), .val (.int (3 : Int32)), .val (.int (3 : Int32)), .val (.int (4 : Int32))] [])) _
      refine XS.iconst X0.here hx rfl (hb hby d_method_4_code_18) ?_
      show Steps _ _ _ (s₁.setTop (mkF m 19 #[.val (.ref b), .val (.int (3 : Int32)), .val (.int (3 : Int32)), .val (.int (4 : Int32))] [(.int (1 : Int32))])) _
      refine XS.goto X0.here hx rfl (pc0 := 19) (pc' := 23) rfl (hb hby d_method_4_code_19) (by decide) (by decide) ?_
      show Steps _ _ _ (s₁.setTop (mkF m 23 #[.val (.ref b), .val (.int (3 : Int32)), .val (.int (3 : Int32)), .val (.int (4 : Int32))] [(.int (1 : Int32))])) _
      exact hq)
    have hE := e0
    refine retInt X0 hx hret hlk (by simp) rfl (hb hby d_method_4_code_23) k6 ?_ (by decide) (by decide)
    try rw [hE]
    exact ⟨by rw [← hr, if_neg hc15_4], N0, rfl⟩
set_option maxRecDepth 65536 in
set_option maxHeartbeats 40000000 in
theorem rm_st0_4_4 (l : Launch) (Z : State) (a0 : Array Value) (hw : ∀ d ∈ tables_1, d.before a0 Z = true) (b : Addr) (kb : ClassId) (d0 : Int32) (d1 : Int32) (d2 : Int32) (d3 : Int32) (r : Int32) (h0 : Heap) (n0 : Nat) (hn0 : n0 ≤ h0.size) (P0 : Arv Z h0 b kb .char (4 : Int32) [(.int d0), (.int d1), (.int d2), (.int d3)] (.int (0 : Int32))) (hr : (0 : Int32) = r) :
    Con l Z (⟨"com/example/apportion/apportion/input/DecimalsFirstWholeDigitPinLaw", "stops", "([CIII)Z"⟩ : MethodName) method_4_code 4 (some .boolean) [] ({ frames := 0, cells := 0, slots := 0, locals := 0 } : Room) #[(.ref b), (.int (0 : Int32)), (.int (4 : Int32)), (.int (4 : Int32))] h0 (fun v h L => v = some (.int r) ∧ Fr n0 L ∧ h = h0) := by
  refine enter (Ls := #[.val (.ref b), .val (.int (0 : Int32)), .val (.int (4 : Int32)), .val (.int (4 : Int32))]) (plainFor_of_name pn_4) (fun m => by exact entry_eq rfl) ?_
  intro p e s m below meth cd_ s₁ S0 hx hby hml hret hlk hnm hown hZ X0 e0 k0
  have N0 := Fr.nil n0
  have k1 : To p.tables e below S0 (s₁.setTop (mkF m 23 #[.val (.ref b), .val (.int (0 : Int32)), .val (.int (4 : Int32)), .val (.int (4 : Int32))] [(.int (0 : Int32))])) := fun tt hq => k0 tt (by
    show Steps _ _ _ (s₁.setTop (mkF m 0 #[.val (.ref b), .val (.int (0 : Int32)), .val (.int (4 : Int32)), .val (.int (4 : Int32))] [])) _
    refine XS.iloadN X0.here hx rfl (hb hby d_method_4_code_0) rfl ?_
    show Steps _ _ _ (s₁.setTop (mkF m 1 #[.val (.ref b), .val (.int (0 : Int32)), .val (.int (4 : Int32)), .val (.int (4 : Int32))] [(.int (0 : Int32))])) _
    refine XS.iloadN X0.here hx rfl (hb hby d_method_4_code_1) rfl ?_
    show Steps _ _ _ (s₁.setTop (mkF m 2 #[.val (.ref b), .val (.int (0 : Int32)), .val (.int (4 : Int32)), .val (.int (4 : Int32))] [(.int (4 : Int32)), (.int (0 : Int32))])) _
    refine XS.icmpYes X0.here hx rfl (pc0 := 2) (pc' := 22) rfl (hb hby d_method_4_code_2) rfl (tlt (by decide)).1 (by decide) (by decide) ?_
    show Steps _ _ _ (s₁.setTop (mkF m 22 #[.val (.ref b), .val (.int (0 : Int32)), .val (.int (4 : Int32)), .val (.int (4 : Int32))] [])) _
    refine XS.iconst X0.here hx rfl (hb hby d_method_4_code_22) ?_
    show Steps _ _ _ (s₁.setTop (mkF m 23 #[.val (.ref b), .val (.int (0 : Int32)), .val (.int (4 : Int32)), .val (.int (4 : Int32))] [(.int (0 : Int32))])) _
    exact hq)
  have hE := e0
  refine retInt X0 hx hret hlk (by simp) rfl (hb hby d_method_4_code_23) k1 ?_ (by decide) (by decide)
  try rw [hE]
  exact ⟨by rw [← hr], N0, rfl⟩
set_option maxRecDepth 65536 in
set_option maxHeartbeats 40000000 in
theorem rm_st1_4_4 (l : Launch) (Z : State) (a0 : Array Value) (hw : ∀ d ∈ tables_1, d.before a0 Z = true) (b : Addr) (kb : ClassId) (d0 : Int32) (d1 : Int32) (d2 : Int32) (d3 : Int32) (r : Int32) (h0 : Heap) (n0 : Nat) (hn0 : n0 ≤ h0.size) (P0 : Arv Z h0 b kb .char (4 : Int32) [(.int d0), (.int d1), (.int d2), (.int d3)] (.int (0 : Int32))) (hr : (0 : Int32) = r) :
    Con l Z (⟨"com/example/apportion/apportion/input/DecimalsFirstWholeDigitPinLaw", "stops", "([CIII)Z"⟩ : MethodName) method_4_code 4 (some .boolean) [] ({ frames := 0, cells := 0, slots := 0, locals := 0 } : Room) #[(.ref b), (.int (1 : Int32)), (.int (4 : Int32)), (.int (4 : Int32))] h0 (fun v h L => v = some (.int r) ∧ Fr n0 L ∧ h = h0) := by
  refine enter (Ls := #[.val (.ref b), .val (.int (1 : Int32)), .val (.int (4 : Int32)), .val (.int (4 : Int32))]) (plainFor_of_name pn_4) (fun m => by exact entry_eq rfl) ?_
  intro p e s m below meth cd_ s₁ S0 hx hby hml hret hlk hnm hown hZ X0 e0 k0
  have N0 := Fr.nil n0
  have k1 : To p.tables e below S0 (s₁.setTop (mkF m 23 #[.val (.ref b), .val (.int (1 : Int32)), .val (.int (4 : Int32)), .val (.int (4 : Int32))] [(.int (0 : Int32))])) := fun tt hq => k0 tt (by
    show Steps _ _ _ (s₁.setTop (mkF m 0 #[.val (.ref b), .val (.int (1 : Int32)), .val (.int (4 : Int32)), .val (.int (4 : Int32))] [])) _
    refine XS.iloadN X0.here hx rfl (hb hby d_method_4_code_0) rfl ?_
    show Steps _ _ _ (s₁.setTop (mkF m 1 #[.val (.ref b), .val (.int (1 : Int32)), .val (.int (4 : Int32)), .val (.int (4 : Int32))] [(.int (1 : Int32))])) _
    refine XS.iloadN X0.here hx rfl (hb hby d_method_4_code_1) rfl ?_
    show Steps _ _ _ (s₁.setTop (mkF m 2 #[.val (.ref b), .val (.int (1 : Int32)), .val (.int (4 : Int32)), .val (.int (4 : Int32))] [(.int (4 : Int32)), (.int (1 : Int32))])) _
    refine XS.icmpYes X0.here hx rfl (pc0 := 2) (pc' := 22) rfl (hb hby d_method_4_code_2) rfl (tlt (by decide)).1 (by decide) (by decide) ?_
    show Steps _ _ _ (s₁.setTop (mkF m 22 #[.val (.ref b), .val (.int (1 : Int32)), .val (.int (4 : Int32)), .val (.int (4 : Int32))] [])) _
    refine XS.iconst X0.here hx rfl (hb hby d_method_4_code_22) ?_
    show Steps _ _ _ (s₁.setTop (mkF m 23 #[.val (.ref b), .val (.int (1 : Int32)), .val (.int (4 : Int32)), .val (.int (4 : Int32))] [(.int (0 : Int32))])) _
    exact hq)
  have hE := e0
  refine retInt X0 hx hret hlk (by simp) rfl (hb hby d_method_4_code_23) k1 ?_ (by decide) (by decide)
  try rw [hE]
  exact ⟨by rw [← hr], N0, rfl⟩
set_option maxRecDepth 65536 in
set_option maxHeartbeats 40000000 in
theorem rm_st2_4_4 (l : Launch) (Z : State) (a0 : Array Value) (hw : ∀ d ∈ tables_1, d.before a0 Z = true) (b : Addr) (kb : ClassId) (d0 : Int32) (d1 : Int32) (d2 : Int32) (d3 : Int32) (r : Int32) (h0 : Heap) (n0 : Nat) (hn0 : n0 ≤ h0.size) (P0 : Arv Z h0 b kb .char (4 : Int32) [(.int d0), (.int d1), (.int d2), (.int d3)] (.int (0 : Int32))) (hr : (0 : Int32) = r) :
    Con l Z (⟨"com/example/apportion/apportion/input/DecimalsFirstWholeDigitPinLaw", "stops", "([CIII)Z"⟩ : MethodName) method_4_code 4 (some .boolean) [] ({ frames := 0, cells := 0, slots := 0, locals := 0 } : Room) #[(.ref b), (.int (2 : Int32)), (.int (4 : Int32)), (.int (4 : Int32))] h0 (fun v h L => v = some (.int r) ∧ Fr n0 L ∧ h = h0) := by
  refine enter (Ls := #[.val (.ref b), .val (.int (2 : Int32)), .val (.int (4 : Int32)), .val (.int (4 : Int32))]) (plainFor_of_name pn_4) (fun m => by exact entry_eq rfl) ?_
  intro p e s m below meth cd_ s₁ S0 hx hby hml hret hlk hnm hown hZ X0 e0 k0
  have N0 := Fr.nil n0
  have k1 : To p.tables e below S0 (s₁.setTop (mkF m 23 #[.val (.ref b), .val (.int (2 : Int32)), .val (.int (4 : Int32)), .val (.int (4 : Int32))] [(.int (0 : Int32))])) := fun tt hq => k0 tt (by
    show Steps _ _ _ (s₁.setTop (mkF m 0 #[.val (.ref b), .val (.int (2 : Int32)), .val (.int (4 : Int32)), .val (.int (4 : Int32))] [])) _
    refine XS.iloadN X0.here hx rfl (hb hby d_method_4_code_0) rfl ?_
    show Steps _ _ _ (s₁.setTop (mkF m 1 #[.val (.ref b), .val (.int (2 : Int32)), .val (.int (4 : Int32)), .val (.int (4 : Int32))] [(.int (2 : Int32))])) _
    refine XS.iloadN X0.here hx rfl (hb hby d_method_4_code_1) rfl ?_
    show Steps _ _ _ (s₁.setTop (mkF m 2 #[.val (.ref b), .val (.int (2 : Int32)), .val (.int (4 : Int32)), .val (.int (4 : Int32))] [(.int (4 : Int32)), (.int (2 : Int32))])) _
    refine XS.icmpYes X0.here hx rfl (pc0 := 2) (pc' := 22) rfl (hb hby d_method_4_code_2) rfl (tlt (by decide)).1 (by decide) (by decide) ?_
    show Steps _ _ _ (s₁.setTop (mkF m 22 #[.val (.ref b), .val (.int (2 : Int32)), .val (.int (4 : Int32)), .val (.int (4 : Int32))] [])) _
    refine XS.iconst X0.here hx rfl (hb hby d_method_4_code_22) ?_
    show Steps _ _ _ (s₁.setTop (mkF m 23 #[.val (.ref b), .val (.int (2 : Int32)), .val (.int (4 : Int32)), .val (.int (4 : Int32))] [(.int (0 : Int32))])) _
    exact hq)
  have hE := e0
  refine retInt X0 hx hret hlk (by simp) rfl (hb hby d_method_4_code_23) k1 ?_ (by decide) (by decide)
  try rw [hE]
  exact ⟨by rw [← hr], N0, rfl⟩
set_option maxRecDepth 65536 in
set_option maxHeartbeats 40000000 in
theorem rm_st3_4_4 (l : Launch) (Z : State) (a0 : Array Value) (hw : ∀ d ∈ tables_1, d.before a0 Z = true) (b : Addr) (kb : ClassId) (d0 : Int32) (d1 : Int32) (d2 : Int32) (d3 : Int32) (r : Int32) (h0 : Heap) (n0 : Nat) (hn0 : n0 ≤ h0.size) (P0 : Arv Z h0 b kb .char (4 : Int32) [(.int d0), (.int d1), (.int d2), (.int d3)] (.int (0 : Int32))) (hr : (0 : Int32) = r) :
    Con l Z (⟨"com/example/apportion/apportion/input/DecimalsFirstWholeDigitPinLaw", "stops", "([CIII)Z"⟩ : MethodName) method_4_code 4 (some .boolean) [] ({ frames := 0, cells := 0, slots := 0, locals := 0 } : Room) #[(.ref b), (.int (3 : Int32)), (.int (4 : Int32)), (.int (4 : Int32))] h0 (fun v h L => v = some (.int r) ∧ Fr n0 L ∧ h = h0) := by
  refine enter (Ls := #[.val (.ref b), .val (.int (3 : Int32)), .val (.int (4 : Int32)), .val (.int (4 : Int32))]) (plainFor_of_name pn_4) (fun m => by exact entry_eq rfl) ?_
  intro p e s m below meth cd_ s₁ S0 hx hby hml hret hlk hnm hown hZ X0 e0 k0
  have N0 := Fr.nil n0
  have k1 : To p.tables e below S0 (s₁.setTop (mkF m 23 #[.val (.ref b), .val (.int (3 : Int32)), .val (.int (4 : Int32)), .val (.int (4 : Int32))] [(.int (0 : Int32))])) := fun tt hq => k0 tt (by
    show Steps _ _ _ (s₁.setTop (mkF m 0 #[.val (.ref b), .val (.int (3 : Int32)), .val (.int (4 : Int32)), .val (.int (4 : Int32))] [])) _
    refine XS.iloadN X0.here hx rfl (hb hby d_method_4_code_0) rfl ?_
    show Steps _ _ _ (s₁.setTop (mkF m 1 #[.val (.ref b), .val (.int (3 : Int32)), .val (.int (4 : Int32)), .val (.int (4 : Int32))] [(.int (3 : Int32))])) _
    refine XS.iloadN X0.here hx rfl (hb hby d_method_4_code_1) rfl ?_
    show Steps _ _ _ (s₁.setTop (mkF m 2 #[.val (.ref b), .val (.int (3 : Int32)), .val (.int (4 : Int32)), .val (.int (4 : Int32))] [(.int (4 : Int32)), (.int (3 : Int32))])) _
    refine XS.icmpYes X0.here hx rfl (pc0 := 2) (pc' := 22) rfl (hb hby d_method_4_code_2) rfl (tlt (by decide)).1 (by decide) (by decide) ?_
    show Steps _ _ _ (s₁.setTop (mkF m 22 #[.val (.ref b), .val (.int (3 : Int32)), .val (.int (4 : Int32)), .val (.int (4 : Int32))] [])) _
    refine XS.iconst X0.here hx rfl (hb hby d_method_4_code_22) ?_
    show Steps _ _ _ (s₁.setTop (mkF m 23 #[.val (.ref b), .val (.int (3 : Int32)), .val (.int (4 : Int32)), .val (.int (4 : Int32))] [(.int (0 : Int32))])) _
    exact hq)
  have hE := e0
  refine retInt X0 hx hret hlk (by simp) rfl (hb hby d_method_4_code_23) k1 ?_ (by decide) (by decide)
  try rw [hE]
  exact ⟨by rw [← hr], N0, rfl⟩
theorem d_prog_32_method_5_code_0 : decode prog_32_method_5_code 0 = .ok (.iload_n 1, 1) := by decide +kernel
theorem d_prog_32_method_5_code_1 : decode prog_32_method_5_code 1 = .ok (.istore_n 3, 1) := by decide +kernel
theorem d_prog_32_method_5_code_2 : decode prog_32_method_5_code 2 = .ok (.iload_n 3, 1) := by decide +kernel
theorem d_prog_32_method_5_code_3 : decode prog_32_method_5_code 3 = .ok (.iload_n 2, 1) := by decide +kernel
theorem d_prog_32_method_5_code_4 : decode prog_32_method_5_code 4 = .ok (.if_icmp .ge 19, 3) := by decide +kernel
theorem d_prog_32_method_5_code_7 : decode prog_32_method_5_code 7 = .ok (.aload_n 0, 1) := by decide +kernel
theorem d_prog_32_method_5_code_8 : decode prog_32_method_5_code 8 = .ok (.iload_n 3, 1) := by decide +kernel
theorem d_prog_32_method_5_code_9 : decode prog_32_method_5_code 9 = .ok (.invokevirtual 74, 3) := by decide +kernel
theorem d_prog_32_method_5_code_12 : decode prog_32_method_5_code 12 = .ok (.bipush 48, 2) := by decide +kernel
theorem d_prog_32_method_5_code_14 : decode prog_32_method_5_code 14 = .ok (.if_icmp .ne 9, 3) := by decide +kernel
theorem d_prog_32_method_5_code_17 : decode prog_32_method_5_code 17 = .ok (.iinc 3 1, 3) := by decide +kernel
theorem d_prog_32_method_5_code_20 : decode prog_32_method_5_code 20 = .ok (.goto (-18), 3) := by decide +kernel
theorem d_prog_32_method_5_code_23 : decode prog_32_method_5_code 23 = .ok (.iload_n 3, 1) := by decide +kernel
theorem d_prog_32_method_5_code_24 : decode prog_32_method_5_code 24 = .ok (.ireturn, 1) := by decide +kernel
theorem pn_5 : plainName "com/example/apportion/apportion/input/Decimals" = true := by first | (simp [plainName, overriddenIn]; done) | decide +kernel
set_option maxRecDepth 65536 in
set_option maxHeartbeats 40000000 in
theorem rm_fwd0_0 (l : Launch) (Z : State) (a0 : Array Value) (hw : ∀ d ∈ tables_1, d.before a0 Z = true) (zc : Int32) (fm : Value) (a : Addr) (t : Addr) (kt : ClassId) (d0 : Int32) (d1 : Int32) (d2 : Int32) (d3 : Int32) (r : Int32) (h0 : Heap) (n0 : Nat) (hn0 : n0 ≤ h0.size) (S_c : Sta Z Z.heap "java/lang/String" "COMPACT_STRINGS" "Z" (.int zc)) (hzc : ¬ zc = (0 : Int32)) (S_f : Sta Z Z.heap "jdk/internal/util/Preconditions" "SIOOBE_FORMATTER" "Ljava/util/function/BiFunction;" fm) (hfm : fm.isRef = true) (O0 : Old Z n0 h0) (P0 : Exa Z h0 a "java/lang/String") (P1 : Fld Z h0 a "java/lang/String" "value" "[B" (.ref t)) (P2 : Fld Z h0 a "java/lang/String" "coder" "B" (.int (0 : Int32))) (P3 : Arv Z h0 t kt .byte (4 : Int32) [(.int (nar .byte (d0.toInt8.toInt32))), (.int (nar .byte (d1.toInt8.toInt32))), (.int (nar .byte (d2.toInt8.toInt32))), (.int (nar .byte (d3.toInt8.toInt32)))] (.int 0)) (hd0 : ¬ d0 < (0 : Int32) ∧ ¬ (255 : Int32) < d0) (hd1 : ¬ d1 < (0 : Int32) ∧ ¬ (255 : Int32) < d1) (hd2 : ¬ d2 < (0 : Int32) ∧ ¬ (255 : Int32) < d2) (hd3 : ¬ d3 < (0 : Int32) ∧ ¬ (255 : Int32) < d3) (hr : (0 : Int32) = r) :
    Con l Z (⟨"com/example/apportion/apportion/input/Decimals", "firstWholeDigit", "(Ljava/lang/String;II)I"⟩ : MethodName) prog_32_method_5_code 4 (some .int) [] ({ frames := 0, cells := 0, slots := 0, locals := 0 } : Room) #[(.ref a), (.int (0 : Int32)), (.int (0 : Int32))] h0 (fun v h L => v = some (.int r) ∧ Fr n0 L ∧ h = h0) := by
  refine enter (Ls := #[.val (.ref a), .val (.int (0 : Int32)), .val (.int (0 : Int32)), .unset]) (plainFor_of_name pn_5) (fun m => by exact entry_eq rfl) ?_
  intro p e s m below meth cd_ s₁ S0 hx hby hml hret hlk hnm hown hZ X0 e0 k0
  have N0 := Fr.nil n0
  have k1 : To p.tables e below S0 (s₁.setTop (mkF m 24 #[.val (.ref a), .val (.int (0 : Int32)), .val (.int (0 : Int32)), .val (.int (0 : Int32))] [(.int (0 : Int32))])) := fun tt hq => k0 tt (by
    show Steps _ _ _ (s₁.setTop (mkF m 0 #[.val (.ref a), .val (.int (0 : Int32)), .val (.int (0 : Int32)), .unset] [])) _
    refine XS.iloadN X0.here hx rfl (hb hby d_prog_32_method_5_code_0) rfl ?_
    show Steps _ _ _ (s₁.setTop (mkF m 1 #[.val (.ref a), .val (.int (0 : Int32)), .val (.int (0 : Int32)), .unset] [(.int (0 : Int32))])) _
    refine XS.istoreN X0.here hx rfl (hb hby d_prog_32_method_5_code_1) rfl (l' := #[.val (.ref a), .val (.int (0 : Int32)), .val (.int (0 : Int32)), .val (.int (0 : Int32))]) rfl ?_
    show Steps _ _ _ (s₁.setTop (mkF m 2 #[.val (.ref a), .val (.int (0 : Int32)), .val (.int (0 : Int32)), .val (.int (0 : Int32))] [])) _
    refine XS.iloadN X0.here hx rfl (hb hby d_prog_32_method_5_code_2) rfl ?_
    show Steps _ _ _ (s₁.setTop (mkF m 3 #[.val (.ref a), .val (.int (0 : Int32)), .val (.int (0 : Int32)), .val (.int (0 : Int32))] [(.int (0 : Int32))])) _
    refine XS.iloadN X0.here hx rfl (hb hby d_prog_32_method_5_code_3) rfl ?_
    show Steps _ _ _ (s₁.setTop (mkF m 4 #[.val (.ref a), .val (.int (0 : Int32)), .val (.int (0 : Int32)), .val (.int (0 : Int32))] [(.int (0 : Int32)), (.int (0 : Int32))])) _
    refine XS.icmpYes X0.here hx rfl (pc0 := 4) (pc' := 23) rfl (hb hby d_prog_32_method_5_code_4) rfl (flt (by decide)).2.1 (by decide) (by decide) ?_
    show Steps _ _ _ (s₁.setTop (mkF m 23 #[.val (.ref a), .val (.int (0 : Int32)), .val (.int (0 : Int32)), .val (.int (0 : Int32))] [])) _
    refine XS.iloadN X0.here hx rfl (hb hby d_prog_32_method_5_code_23) rfl ?_
    show Steps _ _ _ (s₁.setTop (mkF m 24 #[.val (.ref a), .val (.int (0 : Int32)), .val (.int (0 : Int32)), .val (.int (0 : Int32))] [(.int (0 : Int32))])) _
    exact hq)
  have hE := e0
  refine retInt X0 hx hret hlk (by simp) rfl (hb hby d_prog_32_method_5_code_24) k1 ?_ (by decide) (by decide)
  try rw [hE]
  exact ⟨by rw [← hr], N0, rfl⟩
theorem pd_8 : parseMethodDescriptor "(I)C" = some ⟨[.int], some .char⟩ := by decide +kernel
set_option maxRecDepth 65536 in
set_option maxHeartbeats 40000000 in
theorem rm_fwd0_1 (l : Launch) (Z : State) (a0 : Array Value) (hw : ∀ d ∈ tables_1, d.before a0 Z = true) (zc : Int32) (fm : Value) (a : Addr) (t : Addr) (kt : ClassId) (d0 : Int32) (d1 : Int32) (d2 : Int32) (d3 : Int32) (r : Int32) (h0 : Heap) (n0 : Nat) (hn0 : n0 ≤ h0.size) (S_c : Sta Z Z.heap "java/lang/String" "COMPACT_STRINGS" "Z" (.int zc)) (hzc : ¬ zc = (0 : Int32)) (S_f : Sta Z Z.heap "jdk/internal/util/Preconditions" "SIOOBE_FORMATTER" "Ljava/util/function/BiFunction;" fm) (hfm : fm.isRef = true) (O0 : Old Z n0 h0) (P0 : Exa Z h0 a "java/lang/String") (P1 : Fld Z h0 a "java/lang/String" "value" "[B" (.ref t)) (P2 : Fld Z h0 a "java/lang/String" "coder" "B" (.int (0 : Int32))) (P3 : Arv Z h0 t kt .byte (4 : Int32) [(.int (nar .byte (d0.toInt8.toInt32))), (.int (nar .byte (d1.toInt8.toInt32))), (.int (nar .byte (d2.toInt8.toInt32))), (.int (nar .byte (d3.toInt8.toInt32)))] (.int 0)) (hd0 : ¬ d0 < (0 : Int32) ∧ ¬ (255 : Int32) < d0) (hd1 : ¬ d1 < (0 : Int32) ∧ ¬ (255 : Int32) < d1) (hd2 : ¬ d2 < (0 : Int32) ∧ ¬ (255 : Int32) < d2) (hd3 : ¬ d3 < (0 : Int32) ∧ ¬ (255 : Int32) < d3) (hr : (if d0 = (48 : Int32) then (1 : Int32) else (0 : Int32)) = r) :
    Con l Z (⟨"com/example/apportion/apportion/input/Decimals", "firstWholeDigit", "(Ljava/lang/String;II)I"⟩ : MethodName) prog_32_method_5_code 4 (some .int) [] ({ frames := 4, cells := 0, slots := 0, locals := 53 } : Room) #[(.ref a), (.int (0 : Int32)), (.int (1 : Int32))] h0 (fun v h L => v = some (.int r) ∧ Fr n0 L ∧ h = h0) := by
  refine enter (Ls := #[.val (.ref a), .val (.int (0 : Int32)), .val (.int (1 : Int32)), .unset]) (plainFor_of_name pn_5) (fun m => by exact entry_eq rfl) ?_
  intro p e s m below meth cd_ s₁ S0 hx hby hml hret hlk hnm hown hZ X0 e0 k0
  have N0 := Fr.nil n0
  have k1 : To p.tables e below S0 (s₁.setTop (mkF m 9 #[.val (.ref a), .val (.int (0 : Int32)), .val (.int (1 : Int32)), .val (.int (0 : Int32))] [(.int (0 : Int32)), (.ref a)])) := fun tt hq => k0 tt (by
    show Steps _ _ _ (s₁.setTop (mkF m 0 #[.val (.ref a), .val (.int (0 : Int32)), .val (.int (1 : Int32)), .unset] [])) _
    refine XS.iloadN X0.here hx rfl (hb hby d_prog_32_method_5_code_0) rfl ?_
    show Steps _ _ _ (s₁.setTop (mkF m 1 #[.val (.ref a), .val (.int (0 : Int32)), .val (.int (1 : Int32)), .unset] [(.int (0 : Int32))])) _
    refine XS.istoreN X0.here hx rfl (hb hby d_prog_32_method_5_code_1) rfl (l' := #[.val (.ref a), .val (.int (0 : Int32)), .val (.int (1 : Int32)), .val (.int (0 : Int32))]) rfl ?_
    show Steps _ _ _ (s₁.setTop (mkF m 2 #[.val (.ref a), .val (.int (0 : Int32)), .val (.int (1 : Int32)), .val (.int (0 : Int32))] [])) _
    refine XS.iloadN X0.here hx rfl (hb hby d_prog_32_method_5_code_2) rfl ?_
    show Steps _ _ _ (s₁.setTop (mkF m 3 #[.val (.ref a), .val (.int (0 : Int32)), .val (.int (1 : Int32)), .val (.int (0 : Int32))] [(.int (0 : Int32))])) _
    refine XS.iloadN X0.here hx rfl (hb hby d_prog_32_method_5_code_3) rfl ?_
    show Steps _ _ _ (s₁.setTop (mkF m 4 #[.val (.ref a), .val (.int (0 : Int32)), .val (.int (1 : Int32)), .val (.int (0 : Int32))] [(.int (1 : Int32)), (.int (0 : Int32))])) _
    refine XS.icmpNo X0.here hx rfl (hb hby d_prog_32_method_5_code_4) rfl (tlt (by decide)).2.1 ?_
    show Steps _ _ _ (s₁.setTop (mkF m 7 #[.val (.ref a), .val (.int (0 : Int32)), .val (.int (1 : Int32)), .val (.int (0 : Int32))] [])) _
    refine XS.aloadN X0.here hx rfl (hb hby d_prog_32_method_5_code_7) rfl rfl ?_
    show Steps _ _ _ (s₁.setTop (mkF m 8 #[.val (.ref a), .val (.int (0 : Int32)), .val (.int (1 : Int32)), .val (.int (0 : Int32))] [(.ref a)])) _
    refine XS.iloadN X0.here hx rfl (hb hby d_prog_32_method_5_code_8) rfl ?_
    show Steps _ _ _ (s₁.setTop (mkF m 9 #[.val (.ref a), .val (.int (0 : Int32)), .val (.int (1 : Int32)), .val (.int (0 : Int32))] [(.int (0 : Int32)), (.ref a)])) _
    exact hq)
  obtain ⟨_, T2, L2, X2, ⟨rfl, Nq2, eq2⟩, k2a⟩ := callV' X0 hx hZ (y := (⟨"java/lang/String", "charAt", "(I)C"⟩ : MethodName)) (z := (⟨"java/lang/String", "charAt", "(I)C"⟩ : MethodName)) hown (hw _ (List.mem_of_getElem? (i := 42) rfl)) (hw _ (List.mem_of_getElem? (i := 43) rfl)) (notFace_of_selects (args := #[]) (mvT hZ (hw _ (List.mem_of_getElem? (i := 45) rfl)))) (hw _ (List.mem_of_getElem? (i := 45) rfl)) (hw _ (List.mem_of_getElem? (i := 44) rfl)) (by decide) P0 (backC (W := 0) (rm_ca4_0 l Z a0 hw zc fm a t kt (nar .byte (d0.toInt8.toInt32)) (nar .byte (d1.toInt8.toInt32)) (nar .byte (d2.toInt8.toInt32)) (nar .byte (d3.toInt8.toInt32)) d0 h0 n0 (by omega) S_c hzc S_f hfm O0 P0 P1 P2 P3 (own_b255 hd0)) hZ (hw _ (List.mem_of_getElem? (i := 46) rfl)) (hw _ (List.mem_of_getElem? (i := 7) rfl)) (by decide) (by decide)) e0 (argsL := [(.int (0 : Int32))]) (rest := []) rfl rfl pd_8 rfl (by rw [hml]; rfl) (hb hby d_prog_32_method_5_code_9) (Nat.le_of_eq rfl) (by decide) (by decide) k1
  have k2 : To p.tables e below S0 (T2.setTop (mkF m 12 #[.val (.ref a), .val (.int (0 : Int32)), .val (.int (1 : Int32)), .val (.int (0 : Int32))] [(.int d0)])) := k2a
  have N2 := N0.app Nq2
  have e2 : T2.heap = h0 := eq2
  have k3 : To p.tables e below S0 (T2.setTop (mkF m 14 #[.val (.ref a), .val (.int (0 : Int32)), .val (.int (1 : Int32)), .val (.int (0 : Int32))] [(.int (48 : Int32)), (.int d0)])) := fun tt hq => k2 tt (by
    show Steps _ _ _ (T2.setTop (mkF m 12 #[.val (.ref a), .val (.int (0 : Int32)), .val (.int (1 : Int32)), .val (.int (0 : Int32))] [(.int d0)])) _
    refine XS.bipush X2.here hx rfl (hb hby d_prog_32_method_5_code_12) ?_
    show Steps _ _ _ (T2.setTop (mkF m 14 #[.val (.ref a), .val (.int (0 : Int32)), .val (.int (1 : Int32)), .val (.int (0 : Int32))] [(.int (48 : Int32)), (.int d0)])) _
    exact hq)
  by_cases hc14_4 : d0 = (48 : Int32)
  · -- pc 14, holds
    have k5 : To p.tables e below S0 (T2.setTop (mkF m 24 #[.val (.ref a), .val (.int (0 : Int32)), .val (.int (1 : Int32)), .val (.int (1 : Int32))] [(.int (1 : Int32))])) := fun tt hq => k3 tt (by
      show Steps _ _ _ (T2.setTop (mkF m 14 #[.val (.ref a), .val (.int (0 : Int32)), .val (.int (1 : Int32)), .val (.int (0 : Int32))] [(.int (48 : Int32)), (.int d0)])) _
      refine XS.icmpNo X2.here hx rfl (hb hby d_prog_32_method_5_code_14) rfl (teq hc14_4).2 ?_
      show Steps _ _ _ (T2.setTop (mkF m 17 #[.val (.ref a), .val (.int (0 : Int32)), .val (.int (1 : Int32)), .val (.int (0 : Int32))] [])) _
      refine XS.iinc X2.here hx rfl (hb hby d_prog_32_method_5_code_17) rfl (l' := #[.val (.ref a), .val (.int (0 : Int32)), .val (.int (1 : Int32)), .val (.int (1 : Int32))]) rfl ?_
      show Steps _ _ _ (T2.setTop (mkF m 20 #[.val (.ref a), .val (.int (0 : Int32)), .val (.int (1 : Int32)), .val (.int (1 : Int32))] [])) _
      refine XS.goto X2.here hx rfl (pc0 := 20) (pc' := 2) rfl (hb hby d_prog_32_method_5_code_20) (by decide) (by decide) ?_
      show Steps _ _ _ (T2.setTop (mkF m 2 #[.val (.ref a), .val (.int (0 : Int32)), .val (.int (1 : Int32)), .val (.int (1 : Int32))] [])) _
      refine XS.iloadN X2.here hx rfl (hb hby d_prog_32_method_5_code_2) rfl ?_
      show Steps _ _ _ (T2.setTop (mkF m 3 #[.val (.ref a), .val (.int (0 : Int32)), .val (.int (1 : Int32)), .val (.int (1 : Int32))] [(.int (1 : Int32))])) _
      refine XS.iloadN X2.here hx rfl (hb hby d_prog_32_method_5_code_3) rfl ?_
      show Steps _ _ _ (T2.setTop (mkF m 4 #[.val (.ref a), .val (.int (0 : Int32)), .val (.int (1 : Int32)), .val (.int (1 : Int32))] [(.int (1 : Int32)), (.int (1 : Int32))])) _
      refine XS.icmpYes X2.here hx rfl (pc0 := 4) (pc' := 23) rfl (hb hby d_prog_32_method_5_code_4) rfl (flt (by decide)).2.1 (by decide) (by decide) ?_
      show Steps _ _ _ (T2.setTop (mkF m 23 #[.val (.ref a), .val (.int (0 : Int32)), .val (.int (1 : Int32)), .val (.int (1 : Int32))] [])) _
      refine XS.iloadN X2.here hx rfl (hb hby d_prog_32_method_5_code_23) rfl ?_
      show Steps _ _ _ (T2.setTop (mkF m 24 #[.val (.ref a), .val (.int (0 : Int32)), .val (.int (1 : Int32)), .val (.int (1 : Int32))] [(.int (1 : Int32))])) _
      exact hq)
    have hE := e2
    refine retInt X2 hx hret hlk (by simp) rfl (hb hby d_prog_32_method_5_code_24) k5 ?_ (by decide) (by decide)
    try rw [hE]
    exact ⟨by rw [← hr, if_pos hc14_4], N2, rfl⟩
  · -- pc 14, holds not
    have k6 : To p.tables e below S0 (T2.setTop (mkF m 24 #[.val (.ref a), .val (.int (0 : Int32)), .val (.int (1 : Int32)), .val (.int (0 : Int32))] [(.int (0 : Int32))])) := fun tt hq => k3 tt (by
      show Steps _ _ _ (T2.setTop (mkF m 14 #[.val (.ref a), .val (.int (0 : Int32)), .val (.int (1 : Int32)), .val (.int (0 : Int32))] [(.int (48 : Int32)), (.int d0)])) _
      refine XS.icmpYes X2.here hx rfl (pc0 := 14) (pc' := 23) rfl (hb hby d_prog_32_method_5_code_14) rfl (feq hc14_4).2 (by decide) (by decide) ?_
      show Steps _ _ _ (T2.setTop (mkF m 23 #[.val (.ref a), .val (.int (0 : Int32)), .val (.int (1 : Int32)), .val (.int (0 : Int32))] [])) _
      refine XS.iloadN X2.here hx rfl (hb hby d_prog_32_method_5_code_23) rfl ?_
      show Steps _ _ _ (T2.setTop (mkF m 24 #[.val (.ref a), .val (.int (0 : Int32)), .val (.int (1 : Int32)), .val (.int (0 : Int32))] [(.int (0 : Int32))])) _
      exact hq)
    have hE := e2
    refine retInt X2 hx hret hlk (by simp) rfl (hb hby d_prog_32_method_5_code_24) k6 ?_ (by decide) (by decide)
    try rw [hE]
    exact ⟨by rw [← hr, if_neg hc14_4], N2, rfl⟩
set_option maxRecDepth 65536 in
set_option maxHeartbeats 40000000 in
theorem rm_fwd0_2 (l : Launch) (Z : State) (a0 : Array Value) (hw : ∀ d ∈ tables_1, d.before a0 Z = true) (zc : Int32) (fm : Value) (a : Addr) (t : Addr) (kt : ClassId) (d0 : Int32) (d1 : Int32) (d2 : Int32) (d3 : Int32) (r : Int32) (h0 : Heap) (n0 : Nat) (hn0 : n0 ≤ h0.size) (S_c : Sta Z Z.heap "java/lang/String" "COMPACT_STRINGS" "Z" (.int zc)) (hzc : ¬ zc = (0 : Int32)) (S_f : Sta Z Z.heap "jdk/internal/util/Preconditions" "SIOOBE_FORMATTER" "Ljava/util/function/BiFunction;" fm) (hfm : fm.isRef = true) (O0 : Old Z n0 h0) (P0 : Exa Z h0 a "java/lang/String") (P1 : Fld Z h0 a "java/lang/String" "value" "[B" (.ref t)) (P2 : Fld Z h0 a "java/lang/String" "coder" "B" (.int (0 : Int32))) (P3 : Arv Z h0 t kt .byte (4 : Int32) [(.int (nar .byte (d0.toInt8.toInt32))), (.int (nar .byte (d1.toInt8.toInt32))), (.int (nar .byte (d2.toInt8.toInt32))), (.int (nar .byte (d3.toInt8.toInt32)))] (.int 0)) (hd0 : ¬ d0 < (0 : Int32) ∧ ¬ (255 : Int32) < d0) (hd1 : ¬ d1 < (0 : Int32) ∧ ¬ (255 : Int32) < d1) (hd2 : ¬ d2 < (0 : Int32) ∧ ¬ (255 : Int32) < d2) (hd3 : ¬ d3 < (0 : Int32) ∧ ¬ (255 : Int32) < d3) (hr : (if d0 = (48 : Int32) then (if d1 = (48 : Int32) then (2 : Int32) else (1 : Int32)) else (0 : Int32)) = r) :
    Con l Z (⟨"com/example/apportion/apportion/input/Decimals", "firstWholeDigit", "(Ljava/lang/String;II)I"⟩ : MethodName) prog_32_method_5_code 4 (some .int) [] ({ frames := 4, cells := 0, slots := 0, locals := 53 } : Room) #[(.ref a), (.int (0 : Int32)), (.int (2 : Int32))] h0 (fun v h L => v = some (.int r) ∧ Fr n0 L ∧ h = h0) := by
  refine enter (Ls := #[.val (.ref a), .val (.int (0 : Int32)), .val (.int (2 : Int32)), .unset]) (plainFor_of_name pn_5) (fun m => by exact entry_eq rfl) ?_
  intro p e s m below meth cd_ s₁ S0 hx hby hml hret hlk hnm hown hZ X0 e0 k0
  have N0 := Fr.nil n0
  have k1 : To p.tables e below S0 (s₁.setTop (mkF m 9 #[.val (.ref a), .val (.int (0 : Int32)), .val (.int (2 : Int32)), .val (.int (0 : Int32))] [(.int (0 : Int32)), (.ref a)])) := fun tt hq => k0 tt (by
    show Steps _ _ _ (s₁.setTop (mkF m 0 #[.val (.ref a), .val (.int (0 : Int32)), .val (.int (2 : Int32)), .unset] [])) _
    refine XS.iloadN X0.here hx rfl (hb hby d_prog_32_method_5_code_0) rfl ?_
    show Steps _ _ _ (s₁.setTop (mkF m 1 #[.val (.ref a), .val (.int (0 : Int32)), .val (.int (2 : Int32)), .unset] [(.int (0 : Int32))])) _
    refine XS.istoreN X0.here hx rfl (hb hby d_prog_32_method_5_code_1) rfl (l' := #[.val (.ref a), .val (.int (0 : Int32)), .val (.int (2 : Int32)), .val (.int (0 : Int32))]) rfl ?_
    show Steps _ _ _ (s₁.setTop (mkF m 2 #[.val (.ref a), .val (.int (0 : Int32)), .val (.int (2 : Int32)), .val (.int (0 : Int32))] [])) _
    refine XS.iloadN X0.here hx rfl (hb hby d_prog_32_method_5_code_2) rfl ?_
    show Steps _ _ _ (s₁.setTop (mkF m 3 #[.val (.ref a), .val (.int (0 : Int32)), .val (.int (2 : Int32)), .val (.int (0 : Int32))] [(.int (0 : Int32))])) _
    refine XS.iloadN X0.here hx rfl (hb hby d_prog_32_method_5_code_3) rfl ?_
    show Steps _ _ _ (s₁.setTop (mkF m 4 #[.val (.ref a), .val (.int (0 : Int32)), .val (.int (2 : Int32)), .val (.int (0 : Int32))] [(.int (2 : Int32)), (.int (0 : Int32))])) _
    refine XS.icmpNo X0.here hx rfl (hb hby d_prog_32_method_5_code_4) rfl (tlt (by decide)).2.1 ?_
    show Steps _ _ _ (s₁.setTop (mkF m 7 #[.val (.ref a), .val (.int (0 : Int32)), .val (.int (2 : Int32)), .val (.int (0 : Int32))] [])) _
    refine XS.aloadN X0.here hx rfl (hb hby d_prog_32_method_5_code_7) rfl rfl ?_
    show Steps _ _ _ (s₁.setTop (mkF m 8 #[.val (.ref a), .val (.int (0 : Int32)), .val (.int (2 : Int32)), .val (.int (0 : Int32))] [(.ref a)])) _
    refine XS.iloadN X0.here hx rfl (hb hby d_prog_32_method_5_code_8) rfl ?_
    show Steps _ _ _ (s₁.setTop (mkF m 9 #[.val (.ref a), .val (.int (0 : Int32)), .val (.int (2 : Int32)), .val (.int (0 : Int32))] [(.int (0 : Int32)), (.ref a)])) _
    exact hq)
  obtain ⟨_, T2, L2, X2, ⟨rfl, Nq2, eq2⟩, k2a⟩ := callV' X0 hx hZ (y := (⟨"java/lang/String", "charAt", "(I)C"⟩ : MethodName)) (z := (⟨"java/lang/String", "charAt", "(I)C"⟩ : MethodName)) hown (hw _ (List.mem_of_getElem? (i := 42) rfl)) (hw _ (List.mem_of_getElem? (i := 43) rfl)) (notFace_of_selects (args := #[]) (mvT hZ (hw _ (List.mem_of_getElem? (i := 45) rfl)))) (hw _ (List.mem_of_getElem? (i := 45) rfl)) (hw _ (List.mem_of_getElem? (i := 44) rfl)) (by decide) P0 (backC (W := 0) (rm_ca4_0 l Z a0 hw zc fm a t kt (nar .byte (d0.toInt8.toInt32)) (nar .byte (d1.toInt8.toInt32)) (nar .byte (d2.toInt8.toInt32)) (nar .byte (d3.toInt8.toInt32)) d0 h0 n0 (by omega) S_c hzc S_f hfm O0 P0 P1 P2 P3 (own_b255 hd0)) hZ (hw _ (List.mem_of_getElem? (i := 46) rfl)) (hw _ (List.mem_of_getElem? (i := 7) rfl)) (by decide) (by decide)) e0 (argsL := [(.int (0 : Int32))]) (rest := []) rfl rfl pd_8 rfl (by rw [hml]; rfl) (hb hby d_prog_32_method_5_code_9) (Nat.le_of_eq rfl) (by decide) (by decide) k1
  have k2 : To p.tables e below S0 (T2.setTop (mkF m 12 #[.val (.ref a), .val (.int (0 : Int32)), .val (.int (2 : Int32)), .val (.int (0 : Int32))] [(.int d0)])) := k2a
  have N2 := N0.app Nq2
  have e2 : T2.heap = h0 := eq2
  have k3 : To p.tables e below S0 (T2.setTop (mkF m 14 #[.val (.ref a), .val (.int (0 : Int32)), .val (.int (2 : Int32)), .val (.int (0 : Int32))] [(.int (48 : Int32)), (.int d0)])) := fun tt hq => k2 tt (by
    show Steps _ _ _ (T2.setTop (mkF m 12 #[.val (.ref a), .val (.int (0 : Int32)), .val (.int (2 : Int32)), .val (.int (0 : Int32))] [(.int d0)])) _
    refine XS.bipush X2.here hx rfl (hb hby d_prog_32_method_5_code_12) ?_
    show Steps _ _ _ (T2.setTop (mkF m 14 #[.val (.ref a), .val (.int (0 : Int32)), .val (.int (2 : Int32)), .val (.int (0 : Int32))] [(.int (48 : Int32)), (.int d0)])) _
    exact hq)
  by_cases hc14_4 : d0 = (48 : Int32)
  · -- pc 14, holds
    have k5 : To p.tables e below S0 (T2.setTop (mkF m 9 #[.val (.ref a), .val (.int (0 : Int32)), .val (.int (2 : Int32)), .val (.int (1 : Int32))] [(.int (1 : Int32)), (.ref a)])) := fun tt hq => k3 tt (by
      show Steps _ _ _ (T2.setTop (mkF m 14 #[.val (.ref a), .val (.int (0 : Int32)), .val (.int (2 : Int32)), .val (.int (0 : Int32))] [(.int (48 : Int32)), (.int d0)])) _
      refine XS.icmpNo X2.here hx rfl (hb hby d_prog_32_method_5_code_14) rfl (teq hc14_4).2 ?_
      show Steps _ _ _ (T2.setTop (mkF m 17 #[.val (.ref a), .val (.int (0 : Int32)), .val (.int (2 : Int32)), .val (.int (0 : Int32))] [])) _
      refine XS.iinc X2.here hx rfl (hb hby d_prog_32_method_5_code_17) rfl (l' := #[.val (.ref a), .val (.int (0 : Int32)), .val (.int (2 : Int32)), .val (.int (1 : Int32))]) rfl ?_
      show Steps _ _ _ (T2.setTop (mkF m 20 #[.val (.ref a), .val (.int (0 : Int32)), .val (.int (2 : Int32)), .val (.int (1 : Int32))] [])) _
      refine XS.goto X2.here hx rfl (pc0 := 20) (pc' := 2) rfl (hb hby d_prog_32_method_5_code_20) (by decide) (by decide) ?_
      show Steps _ _ _ (T2.setTop (mkF m 2 #[.val (.ref a), .val (.int (0 : Int32)), .val (.int (2 : Int32)), .val (.int (1 : Int32))] [])) _
      refine XS.iloadN X2.here hx rfl (hb hby d_prog_32_method_5_code_2) rfl ?_
      show Steps _ _ _ (T2.setTop (mkF m 3 #[.val (.ref a), .val (.int (0 : Int32)), .val (.int (2 : Int32)), .val (.int (1 : Int32))] [(.int (1 : Int32))])) _
      refine XS.iloadN X2.here hx rfl (hb hby d_prog_32_method_5_code_3) rfl ?_
      show Steps _ _ _ (T2.setTop (mkF m 4 #[.val (.ref a), .val (.int (0 : Int32)), .val (.int (2 : Int32)), .val (.int (1 : Int32))] [(.int (2 : Int32)), (.int (1 : Int32))])) _
      refine XS.icmpNo X2.here hx rfl (hb hby d_prog_32_method_5_code_4) rfl (tlt (by decide)).2.1 ?_
      show Steps _ _ _ (T2.setTop (mkF m 7 #[.val (.ref a), .val (.int (0 : Int32)), .val (.int (2 : Int32)), .val (.int (1 : Int32))] [])) _
      refine XS.aloadN X2.here hx rfl (hb hby d_prog_32_method_5_code_7) rfl rfl ?_
      show Steps _ _ _ (T2.setTop (mkF m 8 #[.val (.ref a), .val (.int (0 : Int32)), .val (.int (2 : Int32)), .val (.int (1 : Int32))] [(.ref a)])) _
      refine XS.iloadN X2.here hx rfl (hb hby d_prog_32_method_5_code_8) rfl ?_
      show Steps _ _ _ (T2.setTop (mkF m 9 #[.val (.ref a), .val (.int (0 : Int32)), .val (.int (2 : Int32)), .val (.int (1 : Int32))] [(.int (1 : Int32)), (.ref a)])) _
      exact hq)
    obtain ⟨_, T6, L6, X6, ⟨rfl, Nq6, eq6⟩, k6a⟩ := callV' X2 hx hZ (y := (⟨"java/lang/String", "charAt", "(I)C"⟩ : MethodName)) (z := (⟨"java/lang/String", "charAt", "(I)C"⟩ : MethodName)) hown (hw _ (List.mem_of_getElem? (i := 42) rfl)) (hw _ (List.mem_of_getElem? (i := 43) rfl)) (notFace_of_selects (args := #[]) (mvT hZ (hw _ (List.mem_of_getElem? (i := 45) rfl)))) (hw _ (List.mem_of_getElem? (i := 45) rfl)) (hw _ (List.mem_of_getElem? (i := 44) rfl)) (by decide) P0 (backC (W := 0) (rm_ca4_1 l Z a0 hw zc fm a t kt (nar .byte (d0.toInt8.toInt32)) (nar .byte (d1.toInt8.toInt32)) (nar .byte (d2.toInt8.toInt32)) (nar .byte (d3.toInt8.toInt32)) d1 h0 n0 (by omega) S_c hzc S_f hfm O0 P0 P1 P2 P3 (own_b255 hd1)) hZ (hw _ (List.mem_of_getElem? (i := 46) rfl)) (hw _ (List.mem_of_getElem? (i := 7) rfl)) (by decide) (by decide)) e2 (argsL := [(.int (1 : Int32))]) (rest := []) rfl rfl pd_8 rfl (by rw [hml]; rfl) (hb hby d_prog_32_method_5_code_9) (Nat.le_of_eq rfl) (by decide) (by decide) k5
    have k6 : To p.tables e below S0 (T6.setTop (mkF m 12 #[.val (.ref a), .val (.int (0 : Int32)), .val (.int (2 : Int32)), .val (.int (1 : Int32))] [(.int d1)])) := k6a
    have N6 := N2.app Nq6
    have e6 : T6.heap = h0 := eq6
    have k7 : To p.tables e below S0 (T6.setTop (mkF m 14 #[.val (.ref a), .val (.int (0 : Int32)), .val (.int (2 : Int32)), .val (.int (1 : Int32))] [(.int (48 : Int32)), (.int d1)])) := fun tt hq => k6 tt (by
      show Steps _ _ _ (T6.setTop (mkF m 12 #[.val (.ref a), .val (.int (0 : Int32)), .val (.int (2 : Int32)), .val (.int (1 : Int32))] [(.int d1)])) _
      refine XS.bipush X6.here hx rfl (hb hby d_prog_32_method_5_code_12) ?_
      show Steps _ _ _ (T6.setTop (mkF m 14 #[.val (.ref a), .val (.int (0 : Int32)), .val (.int (2 : Int32)), .val (.int (1 : Int32))] [(.int (48 : Int32)), (.int d1)])) _
      exact hq)
    by_cases hc14_8 : d1 = (48 : Int32)
    · -- pc 14, holds
      have k9 : To p.tables e below S0 (T6.setTop (mkF m 24 #[.val (.ref a), .val (.int (0 : Int32)), .val (.int (2 : Int32)), .val (.int (2 : Int32))] [(.int (2 : Int32))])) := fun tt hq => k7 tt (by
        show Steps _ _ _ (T6.setTop (mkF m 14 #[.val (.ref a), .val (.int (0 : Int32)), .val (.int (2 : Int32)), .val (.int (1 : Int32))] [(.int (48 : Int32)), (.int d1)])) _
        refine XS.icmpNo X6.here hx rfl (hb hby d_prog_32_method_5_code_14) rfl (teq hc14_8).2 ?_
        show Steps _ _ _ (T6.setTop (mkF m 17 #[.val (.ref a), .val (.int (0 : Int32)), .val (.int (2 : Int32)), .val (.int (1 : Int32))] [])) _
        refine XS.iinc X6.here hx rfl (hb hby d_prog_32_method_5_code_17) rfl (l' := #[.val (.ref a), .val (.int (0 : Int32)), .val (.int (2 : Int32)), .val (.int (2 : Int32))]) rfl ?_
        show Steps _ _ _ (T6.setTop (mkF m 20 #[.val (.ref a), .val (.int (0 : Int32)), .val (.int (2 : Int32)), .val (.int (2 : Int32))] [])) _
        refine XS.goto X6.here hx rfl (pc0 := 20) (pc' := 2) rfl (hb hby d_prog_32_method_5_code_20) (by decide) (by decide) ?_
        show Steps _ _ _ (T6.setTop (mkF m 2 #[.val (.ref a), .val (.int (0 : Int32)), .val (.int (2 : Int32)), .val (.int (2 : Int32))] [])) _
        refine XS.iloadN X6.here hx rfl (hb hby d_prog_32_method_5_code_2) rfl ?_
        show Steps _ _ _ (T6.setTop (mkF m 3 #[.val (.ref a), .val (.int (0 : Int32)), .val (.int (2 : Int32)), .val (.int (2 : Int32))] [(.int (2 : Int32))])) _
        refine XS.iloadN X6.here hx rfl (hb hby d_prog_32_method_5_code_3) rfl ?_
        show Steps _ _ _ (T6.setTop (mkF m 4 #[.val (.ref a), .val (.int (0 : Int32)), .val (.int (2 : Int32)), .val (.int (2 : Int32))] [(.int (2 : Int32)), (.int (2 : Int32))])) _
        refine XS.icmpYes X6.here hx rfl (pc0 := 4) (pc' := 23) rfl (hb hby d_prog_32_method_5_code_4) rfl (flt (by decide)).2.1 (by decide) (by decide) ?_
        show Steps _ _ _ (T6.setTop (mkF m 23 #[.val (.ref a), .val (.int (0 : Int32)), .val (.int (2 : Int32)), .val (.int (2 : Int32))] [])) _
        refine XS.iloadN X6.here hx rfl (hb hby d_prog_32_method_5_code_23) rfl ?_
        show Steps _ _ _ (T6.setTop (mkF m 24 #[.val (.ref a), .val (.int (0 : Int32)), .val (.int (2 : Int32)), .val (.int (2 : Int32))] [(.int (2 : Int32))])) _
        exact hq)
      have hE := e6
      refine retInt X6 hx hret hlk (by simp) rfl (hb hby d_prog_32_method_5_code_24) k9 ?_ (by decide) (by decide)
      try rw [hE]
      exact ⟨by rw [← hr, if_pos hc14_4, if_pos hc14_8], N6, rfl⟩
    · -- pc 14, holds not
      have k10 : To p.tables e below S0 (T6.setTop (mkF m 24 #[.val (.ref a), .val (.int (0 : Int32)), .val (.int (2 : Int32)), .val (.int (1 : Int32))] [(.int (1 : Int32))])) := fun tt hq => k7 tt (by
        show Steps _ _ _ (T6.setTop (mkF m 14 #[.val (.ref a), .val (.int (0 : Int32)), .val (.int (2 : Int32)), .val (.int (1 : Int32))] [(.int (48 : Int32)), (.int d1)])) _
        refine XS.icmpYes X6.here hx rfl (pc0 := 14) (pc' := 23) rfl (hb hby d_prog_32_method_5_code_14) rfl (feq hc14_8).2 (by decide) (by decide) ?_
        show Steps _ _ _ (T6.setTop (mkF m 23 #[.val (.ref a), .val (.int (0 : Int32)), .val (.int (2 : Int32)), .val (.int (1 : Int32))] [])) _
        refine XS.iloadN X6.here hx rfl (hb hby d_prog_32_method_5_code_23) rfl ?_
        show Steps _ _ _ (T6.setTop (mkF m 24 #[.val (.ref a), .val (.int (0 : Int32)), .val (.int (2 : Int32)), .val (.int (1 : Int32))] [(.int (1 : Int32))])) _
        exact hq)
      have hE := e6
      refine retInt X6 hx hret hlk (by simp) rfl (hb hby d_prog_32_method_5_code_24) k10 ?_ (by decide) (by decide)
      try rw [hE]
      exact ⟨by rw [← hr, if_pos hc14_4, if_neg hc14_8], N6, rfl⟩
  · -- pc 14, holds not
    have k11 : To p.tables e below S0 (T2.setTop (mkF m 24 #[.val (.ref a), .val (.int (0 : Int32)), .val (.int (2 : Int32)), .val (.int (0 : Int32))] [(.int (0 : Int32))])) := fun tt hq => k3 tt (by
      show Steps _ _ _ (T2.setTop (mkF m 14 #[.val (.ref a), .val (.int (0 : Int32)), .val (.int (2 : Int32)), .val (.int (0 : Int32))] [(.int (48 : Int32)), (.int d0)])) _
      refine XS.icmpYes X2.here hx rfl (pc0 := 14) (pc' := 23) rfl (hb hby d_prog_32_method_5_code_14) rfl (feq hc14_4).2 (by decide) (by decide) ?_
      show Steps _ _ _ (T2.setTop (mkF m 23 #[.val (.ref a), .val (.int (0 : Int32)), .val (.int (2 : Int32)), .val (.int (0 : Int32))] [])) _
      refine XS.iloadN X2.here hx rfl (hb hby d_prog_32_method_5_code_23) rfl ?_
      show Steps _ _ _ (T2.setTop (mkF m 24 #[.val (.ref a), .val (.int (0 : Int32)), .val (.int (2 : Int32)), .val (.int (0 : Int32))] [(.int (0 : Int32))])) _
      exact hq)
    have hE := e2
    refine retInt X2 hx hret hlk (by simp) rfl (hb hby d_prog_32_method_5_code_24) k11 ?_ (by decide) (by decide)
    try rw [hE]
    exact ⟨by rw [← hr, if_neg hc14_4], N2, rfl⟩
set_option maxRecDepth 65536 in
set_option maxHeartbeats 40000000 in
theorem rm_fwd0_3 (l : Launch) (Z : State) (a0 : Array Value) (hw : ∀ d ∈ tables_1, d.before a0 Z = true) (zc : Int32) (fm : Value) (a : Addr) (t : Addr) (kt : ClassId) (d0 : Int32) (d1 : Int32) (d2 : Int32) (d3 : Int32) (r : Int32) (h0 : Heap) (n0 : Nat) (hn0 : n0 ≤ h0.size) (S_c : Sta Z Z.heap "java/lang/String" "COMPACT_STRINGS" "Z" (.int zc)) (hzc : ¬ zc = (0 : Int32)) (S_f : Sta Z Z.heap "jdk/internal/util/Preconditions" "SIOOBE_FORMATTER" "Ljava/util/function/BiFunction;" fm) (hfm : fm.isRef = true) (O0 : Old Z n0 h0) (P0 : Exa Z h0 a "java/lang/String") (P1 : Fld Z h0 a "java/lang/String" "value" "[B" (.ref t)) (P2 : Fld Z h0 a "java/lang/String" "coder" "B" (.int (0 : Int32))) (P3 : Arv Z h0 t kt .byte (4 : Int32) [(.int (nar .byte (d0.toInt8.toInt32))), (.int (nar .byte (d1.toInt8.toInt32))), (.int (nar .byte (d2.toInt8.toInt32))), (.int (nar .byte (d3.toInt8.toInt32)))] (.int 0)) (hd0 : ¬ d0 < (0 : Int32) ∧ ¬ (255 : Int32) < d0) (hd1 : ¬ d1 < (0 : Int32) ∧ ¬ (255 : Int32) < d1) (hd2 : ¬ d2 < (0 : Int32) ∧ ¬ (255 : Int32) < d2) (hd3 : ¬ d3 < (0 : Int32) ∧ ¬ (255 : Int32) < d3) (hr : (if d0 = (48 : Int32) then (if d1 = (48 : Int32) then (if d2 = (48 : Int32) then (3 : Int32) else (2 : Int32)) else (1 : Int32)) else (0 : Int32)) = r) :
    Con l Z (⟨"com/example/apportion/apportion/input/Decimals", "firstWholeDigit", "(Ljava/lang/String;II)I"⟩ : MethodName) prog_32_method_5_code 4 (some .int) [] ({ frames := 4, cells := 0, slots := 0, locals := 53 } : Room) #[(.ref a), (.int (0 : Int32)), (.int (3 : Int32))] h0 (fun v h L => v = some (.int r) ∧ Fr n0 L ∧ h = h0) := by
  refine enter (Ls := #[.val (.ref a), .val (.int (0 : Int32)), .val (.int (3 : Int32)), .unset]) (plainFor_of_name pn_5) (fun m => by exact entry_eq rfl) ?_
  intro p e s m below meth cd_ s₁ S0 hx hby hml hret hlk hnm hown hZ X0 e0 k0
  have N0 := Fr.nil n0
  have k1 : To p.tables e below S0 (s₁.setTop (mkF m 9 #[.val (.ref a), .val (.int (0 : Int32)), .val (.int (3 : Int32)), .val (.int (0 : Int32))] [(.int (0 : Int32)), (.ref a)])) := fun tt hq => k0 tt (by
    show Steps _ _ _ (s₁.setTop (mkF m 0 #[.val (.ref a), .val (.int (0 : Int32)), .val (.int (3 : Int32)), .unset] [])) _
    refine XS.iloadN X0.here hx rfl (hb hby d_prog_32_method_5_code_0) rfl ?_
    show Steps _ _ _ (s₁.setTop (mkF m 1 #[.val (.ref a), .val (.int (0 : Int32)), .val (.int (3 : Int32)), .unset] [(.int (0 : Int32))])) _
    refine XS.istoreN X0.here hx rfl (hb hby d_prog_32_method_5_code_1) rfl (l' := #[.val (.ref a), .val (.int (0 : Int32)), .val (.int (3 : Int32)), .val (.int (0 : Int32))]) rfl ?_
    show Steps _ _ _ (s₁.setTop (mkF m 2 #[.val (.ref a), .val (.int (0 : Int32)), .val (.int (3 : Int32)), .val (.int (0 : Int32))] [])) _
    refine XS.iloadN X0.here hx rfl (hb hby d_prog_32_method_5_code_2) rfl ?_
    show Steps _ _ _ (s₁.setTop (mkF m 3 #[.val (.ref a), .val (.int (0 : Int32)), .val (.int (3 : Int32)), .val (.int (0 : Int32))] [(.int (0 : Int32))])) _
    refine XS.iloadN X0.here hx rfl (hb hby d_prog_32_method_5_code_3) rfl ?_
    show Steps _ _ _ (s₁.setTop (mkF m 4 #[.val (.ref a), .val (.int (0 : Int32)), .val (.int (3 : Int32)), .val (.int (0 : Int32))] [(.int (3 : Int32)), (.int (0 : Int32))])) _
    refine XS.icmpNo X0.here hx rfl (hb hby d_prog_32_method_5_code_4) rfl (tlt (by decide)).2.1 ?_
    show Steps _ _ _ (s₁.setTop (mkF m 7 #[.val (.ref a), .val (.int (0 : Int32)), .val (.int (3 : Int32)), .val (.int (0 : Int32))] [])) _
    refine XS.aloadN X0.here hx rfl (hb hby d_prog_32_method_5_code_7) rfl rfl ?_
    show Steps _ _ _ (s₁.setTop (mkF m 8 #[.val (.ref a), .val (.int (0 : Int32)), .val (.int (3 : Int32)), .val (.int (0 : Int32))] [(.ref a)])) _
    refine XS.iloadN X0.here hx rfl (hb hby d_prog_32_method_5_code_8) rfl ?_
    show Steps _ _ _ (s₁.setTop (mkF m 9 #[.val (.ref a), .val (.int (0 : Int32)), .val (.int (3 : Int32)), .val (.int (0 : Int32))] [(.int (0 : Int32)), (.ref a)])) _
    exact hq)
  obtain ⟨_, T2, L2, X2, ⟨rfl, Nq2, eq2⟩, k2a⟩ := callV' X0 hx hZ (y := (⟨"java/lang/String", "charAt", "(I)C"⟩ : MethodName)) (z := (⟨"java/lang/String", "charAt", "(I)C"⟩ : MethodName)) hown (hw _ (List.mem_of_getElem? (i := 42) rfl)) (hw _ (List.mem_of_getElem? (i := 43) rfl)) (notFace_of_selects (args := #[]) (mvT hZ (hw _ (List.mem_of_getElem? (i := 45) rfl)))) (hw _ (List.mem_of_getElem? (i := 45) rfl)) (hw _ (List.mem_of_getElem? (i := 44) rfl)) (by decide) P0 (backC (W := 0) (rm_ca4_0 l Z a0 hw zc fm a t kt (nar .byte (d0.toInt8.toInt32)) (nar .byte (d1.toInt8.toInt32)) (nar .byte (d2.toInt8.toInt32)) (nar .byte (d3.toInt8.toInt32)) d0 h0 n0 (by omega) S_c hzc S_f hfm O0 P0 P1 P2 P3 (own_b255 hd0)) hZ (hw _ (List.mem_of_getElem? (i := 46) rfl)) (hw _ (List.mem_of_getElem? (i := 7) rfl)) (by decide) (by decide)) e0 (argsL := [(.int (0 : Int32))]) (rest := []) rfl rfl pd_8 rfl (by rw [hml]; rfl) (hb hby d_prog_32_method_5_code_9) (Nat.le_of_eq rfl) (by decide) (by decide) k1
  have k2 : To p.tables e below S0 (T2.setTop (mkF m 12 #[.val (.ref a), .val (.int (0 : Int32)), .val (.int (3 : Int32)), .val (.int (0 : Int32))] [(.int d0)])) := k2a
  have N2 := N0.app Nq2
  have e2 : T2.heap = h0 := eq2
  have k3 : To p.tables e below S0 (T2.setTop (mkF m 14 #[.val (.ref a), .val (.int (0 : Int32)), .val (.int (3 : Int32)), .val (.int (0 : Int32))] [(.int (48 : Int32)), (.int d0)])) := fun tt hq => k2 tt (by
    show Steps _ _ _ (T2.setTop (mkF m 12 #[.val (.ref a), .val (.int (0 : Int32)), .val (.int (3 : Int32)), .val (.int (0 : Int32))] [(.int d0)])) _
    refine XS.bipush X2.here hx rfl (hb hby d_prog_32_method_5_code_12) ?_
    show Steps _ _ _ (T2.setTop (mkF m 14 #[.val (.ref a), .val (.int (0 : Int32)), .val (.int (3 : Int32)), .val (.int (0 : Int32))] [(.int (48 : Int32)), (.int d0)])) _
    exact hq)
  by_cases hc14_4 : d0 = (48 : Int32)
  · -- pc 14, holds
    have k5 : To p.tables e below S0 (T2.setTop (mkF m 9 #[.val (.ref a), .val (.int (0 : Int32)), .val (.int (3 : Int32)), .val (.int (1 : Int32))] [(.int (1 : Int32)), (.ref a)])) := fun tt hq => k3 tt (by
      show Steps _ _ _ (T2.setTop (mkF m 14 #[.val (.ref a), .val (.int (0 : Int32)), .val (.int (3 : Int32)), .val (.int (0 : Int32))] [(.int (48 : Int32)), (.int d0)])) _
      refine XS.icmpNo X2.here hx rfl (hb hby d_prog_32_method_5_code_14) rfl (teq hc14_4).2 ?_
      show Steps _ _ _ (T2.setTop (mkF m 17 #[.val (.ref a), .val (.int (0 : Int32)), .val (.int (3 : Int32)), .val (.int (0 : Int32))] [])) _
      refine XS.iinc X2.here hx rfl (hb hby d_prog_32_method_5_code_17) rfl (l' := #[.val (.ref a), .val (.int (0 : Int32)), .val (.int (3 : Int32)), .val (.int (1 : Int32))]) rfl ?_
      show Steps _ _ _ (T2.setTop (mkF m 20 #[.val (.ref a), .val (.int (0 : Int32)), .val (.int (3 : Int32)), .val (.int (1 : Int32))] [])) _
      refine XS.goto X2.here hx rfl (pc0 := 20) (pc' := 2) rfl (hb hby d_prog_32_method_5_code_20) (by decide) (by decide) ?_
      show Steps _ _ _ (T2.setTop (mkF m 2 #[.val (.ref a), .val (.int (0 : Int32)), .val (.int (3 : Int32)), .val (.int (1 : Int32))] [])) _
      refine XS.iloadN X2.here hx rfl (hb hby d_prog_32_method_5_code_2) rfl ?_
      show Steps _ _ _ (T2.setTop (mkF m 3 #[.val (.ref a), .val (.int (0 : Int32)), .val (.int (3 : Int32)), .val (.int (1 : Int32))] [(.int (1 : Int32))])) _
      refine XS.iloadN X2.here hx rfl (hb hby d_prog_32_method_5_code_3) rfl ?_
      show Steps _ _ _ (T2.setTop (mkF m 4 #[.val (.ref a), .val (.int (0 : Int32)), .val (.int (3 : Int32)), .val (.int (1 : Int32))] [(.int (3 : Int32)), (.int (1 : Int32))])) _
      refine XS.icmpNo X2.here hx rfl (hb hby d_prog_32_method_5_code_4) rfl (tlt (by decide)).2.1 ?_
      show Steps _ _ _ (T2.setTop (mkF m 7 #[.val (.ref a), .val (.int (0 : Int32)), .val (.int (3 : Int32)), .val (.int (1 : Int32))] [])) _
      refine XS.aloadN X2.here hx rfl (hb hby d_prog_32_method_5_code_7) rfl rfl ?_
      show Steps _ _ _ (T2.setTop (mkF m 8 #[.val (.ref a), .val (.int (0 : Int32)), .val (.int (3 : Int32)), .val (.int (1 : Int32))] [(.ref a)])) _
      refine XS.iloadN X2.here hx rfl (hb hby d_prog_32_method_5_code_8) rfl ?_
      show Steps _ _ _ (T2.setTop (mkF m 9 #[.val (.ref a), .val (.int (0 : Int32)), .val (.int (3 : Int32)), .val (.int (1 : Int32))] [(.int (1 : Int32)), (.ref a)])) _
      exact hq)
    obtain ⟨_, T6, L6, X6, ⟨rfl, Nq6, eq6⟩, k6a⟩ := callV' X2 hx hZ (y := (⟨"java/lang/String", "charAt", "(I)C"⟩ : MethodName)) (z := (⟨"java/lang/String", "charAt", "(I)C"⟩ : MethodName)) hown (hw _ (List.mem_of_getElem? (i := 42) rfl)) (hw _ (List.mem_of_getElem? (i := 43) rfl)) (notFace_of_selects (args := #[]) (mvT hZ (hw _ (List.mem_of_getElem? (i := 45) rfl)))) (hw _ (List.mem_of_getElem? (i := 45) rfl)) (hw _ (List.mem_of_getElem? (i := 44) rfl)) (by decide) P0 (backC (W := 0) (rm_ca4_1 l Z a0 hw zc fm a t kt (nar .byte (d0.toInt8.toInt32)) (nar .byte (d1.toInt8.toInt32)) (nar .byte (d2.toInt8.toInt32)) (nar .byte (d3.toInt8.toInt32)) d1 h0 n0 (by omega) S_c hzc S_f hfm O0 P0 P1 P2 P3 (own_b255 hd1)) hZ (hw _ (List.mem_of_getElem? (i := 46) rfl)) (hw _ (List.mem_of_getElem? (i := 7) rfl)) (by decide) (by decide)) e2 (argsL := [(.int (1 : Int32))]) (rest := []) rfl rfl pd_8 rfl (by rw [hml]; rfl) (hb hby d_prog_32_method_5_code_9) (Nat.le_of_eq rfl) (by decide) (by decide) k5
    have k6 : To p.tables e below S0 (T6.setTop (mkF m 12 #[.val (.ref a), .val (.int (0 : Int32)), .val (.int (3 : Int32)), .val (.int (1 : Int32))] [(.int d1)])) := k6a
    have N6 := N2.app Nq6
    have e6 : T6.heap = h0 := eq6
    have k7 : To p.tables e below S0 (T6.setTop (mkF m 14 #[.val (.ref a), .val (.int (0 : Int32)), .val (.int (3 : Int32)), .val (.int (1 : Int32))] [(.int (48 : Int32)), (.int d1)])) := fun tt hq => k6 tt (by
      show Steps _ _ _ (T6.setTop (mkF m 12 #[.val (.ref a), .val (.int (0 : Int32)), .val (.int (3 : Int32)), .val (.int (1 : Int32))] [(.int d1)])) _
      refine XS.bipush X6.here hx rfl (hb hby d_prog_32_method_5_code_12) ?_
      show Steps _ _ _ (T6.setTop (mkF m 14 #[.val (.ref a), .val (.int (0 : Int32)), .val (.int (3 : Int32)), .val (.int (1 : Int32))] [(.int (48 : Int32)), (.int d1)])) _
      exact hq)
    by_cases hc14_8 : d1 = (48 : Int32)
    · -- pc 14, holds
      have k9 : To p.tables e below S0 (T6.setTop (mkF m 9 #[.val (.ref a), .val (.int (0 : Int32)), .val (.int (3 : Int32)), .val (.int (2 : Int32))] [(.int (2 : Int32)), (.ref a)])) := fun tt hq => k7 tt (by
        show Steps _ _ _ (T6.setTop (mkF m 14 #[.val (.ref a), .val (.int (0 : Int32)), .val (.int (3 : Int32)), .val (.int (1 : Int32))] [(.int (48 : Int32)), (.int d1)])) _
        refine XS.icmpNo X6.here hx rfl (hb hby d_prog_32_method_5_code_14) rfl (teq hc14_8).2 ?_
        show Steps _ _ _ (T6.setTop (mkF m 17 #[.val (.ref a), .val (.int (0 : Int32)), .val (.int (3 : Int32)), .val (.int (1 : Int32))] [])) _
        refine XS.iinc X6.here hx rfl (hb hby d_prog_32_method_5_code_17) rfl (l' := #[.val (.ref a), .val (.int (0 : Int32)), .val (.int (3 : Int32)), .val (.int (2 : Int32))]) rfl ?_
        show Steps _ _ _ (T6.setTop (mkF m 20 #[.val (.ref a), .val (.int (0 : Int32)), .val (.int (3 : Int32)), .val (.int (2 : Int32))] [])) _
        refine XS.goto X6.here hx rfl (pc0 := 20) (pc' := 2) rfl (hb hby d_prog_32_method_5_code_20) (by decide) (by decide) ?_
        show Steps _ _ _ (T6.setTop (mkF m 2 #[.val (.ref a), .val (.int (0 : Int32)), .val (.int (3 : Int32)), .val (.int (2 : Int32))] [])) _
        refine XS.iloadN X6.here hx rfl (hb hby d_prog_32_method_5_code_2) rfl ?_
        show Steps _ _ _ (T6.setTop (mkF m 3 #[.val (.ref a), .val (.int (0 : Int32)), .val (.int (3 : Int32)), .val (.int (2 : Int32))] [(.int (2 : Int32))])) _
        refine XS.iloadN X6.here hx rfl (hb hby d_prog_32_method_5_code_3) rfl ?_
        show Steps _ _ _ (T6.setTop (mkF m 4 #[.val (.ref a), .val (.int (0 : Int32)), .val (.int (3 : Int32)), .val (.int (2 : Int32))] [(.int (3 : Int32)), (.int (2 : Int32))])) _
        refine XS.icmpNo X6.here hx rfl (hb hby d_prog_32_method_5_code_4) rfl (tlt (by decide)).2.1 ?_
        show Steps _ _ _ (T6.setTop (mkF m 7 #[.val (.ref a), .val (.int (0 : Int32)), .val (.int (3 : Int32)), .val (.int (2 : Int32))] [])) _
        refine XS.aloadN X6.here hx rfl (hb hby d_prog_32_method_5_code_7) rfl rfl ?_
        show Steps _ _ _ (T6.setTop (mkF m 8 #[.val (.ref a), .val (.int (0 : Int32)), .val (.int (3 : Int32)), .val (.int (2 : Int32))] [(.ref a)])) _
        refine XS.iloadN X6.here hx rfl (hb hby d_prog_32_method_5_code_8) rfl ?_
        show Steps _ _ _ (T6.setTop (mkF m 9 #[.val (.ref a), .val (.int (0 : Int32)), .val (.int (3 : Int32)), .val (.int (2 : Int32))] [(.int (2 : Int32)), (.ref a)])) _
        exact hq)
      obtain ⟨_, T10, L10, X10, ⟨rfl, Nq10, eq10⟩, k10a⟩ := callV' X6 hx hZ (y := (⟨"java/lang/String", "charAt", "(I)C"⟩ : MethodName)) (z := (⟨"java/lang/String", "charAt", "(I)C"⟩ : MethodName)) hown (hw _ (List.mem_of_getElem? (i := 42) rfl)) (hw _ (List.mem_of_getElem? (i := 43) rfl)) (notFace_of_selects (args := #[]) (mvT hZ (hw _ (List.mem_of_getElem? (i := 45) rfl)))) (hw _ (List.mem_of_getElem? (i := 45) rfl)) (hw _ (List.mem_of_getElem? (i := 44) rfl)) (by decide) P0 (backC (W := 0) (rm_ca4_2 l Z a0 hw zc fm a t kt (nar .byte (d0.toInt8.toInt32)) (nar .byte (d1.toInt8.toInt32)) (nar .byte (d2.toInt8.toInt32)) (nar .byte (d3.toInt8.toInt32)) d2 h0 n0 (by omega) S_c hzc S_f hfm O0 P0 P1 P2 P3 (own_b255 hd2)) hZ (hw _ (List.mem_of_getElem? (i := 46) rfl)) (hw _ (List.mem_of_getElem? (i := 7) rfl)) (by decide) (by decide)) e6 (argsL := [(.int (2 : Int32))]) (rest := []) rfl rfl pd_8 rfl (by rw [hml]; rfl) (hb hby d_prog_32_method_5_code_9) (Nat.le_of_eq rfl) (by decide) (by decide) k9
      have k10 : To p.tables e below S0 (T10.setTop (mkF m 12 #[.val (.ref a), .val (.int (0 : Int32)), .val (.int (3 : Int32)), .val (.int (2 : Int32))] [(.int d2)])) := k10a
      have N10 := N6.app Nq10
      have e10 : T10.heap = h0 := eq10
      have k11 : To p.tables e below S0 (T10.setTop (mkF m 14 #[.val (.ref a), .val (.int (0 : Int32)), .val (.int (3 : Int32)), .val (.int (2 : Int32))] [(.int (48 : Int32)), (.int d2)])) := fun tt hq => k10 tt (by
        show Steps _ _ _ (T10.setTop (mkF m 12 #[.val (.ref a), .val (.int (0 : Int32)), .val (.int (3 : Int32)), .val (.int (2 : Int32))] [(.int d2)])) _
        refine XS.bipush X10.here hx rfl (hb hby d_prog_32_method_5_code_12) ?_
        show Steps _ _ _ (T10.setTop (mkF m 14 #[.val (.ref a), .val (.int (0 : Int32)), .val (.int (3 : Int32)), .val (.int (2 : Int32))] [(.int (48 : Int32)), (.int d2)])) _
        exact hq)
      by_cases hc14_12 : d2 = (48 : Int32)
      · -- pc 14, holds
        have k13 : To p.tables e below S0 (T10.setTop (mkF m 24 #[.val (.ref a), .val (.int (0 : Int32)), .val (.int (3 : Int32)), .val (.int (3 : Int32))] [(.int (3 : Int32))])) := fun tt hq => k11 tt (by
          show Steps _ _ _ (T10.setTop (mkF m 14 #[.val (.ref a), .val (.int (0 : Int32)), .val (.int (3 : Int32)), .val (.int (2 : Int32))] [(.int (48 : Int32)), (.int d2)])) _
          refine XS.icmpNo X10.here hx rfl (hb hby d_prog_32_method_5_code_14) rfl (teq hc14_12).2 ?_
          show Steps _ _ _ (T10.setTop (mkF m 17 #[.val (.ref a), .val (.int (0 : Int32)), .val (.int (3 : Int32)), .val (.int (2 : Int32))] [])) _
          refine XS.iinc X10.here hx rfl (hb hby d_prog_32_method_5_code_17) rfl (l' := #[.val (.ref a), .val (.int (0 : Int32)), .val (.int (3 : Int32)), .val (.int (3 : Int32))]) rfl ?_
          show Steps _ _ _ (T10.setTop (mkF m 20 #[.val (.ref a), .val (.int (0 : Int32)), .val (.int (3 : Int32)), .val (.int (3 : Int32))] [])) _
          refine XS.goto X10.here hx rfl (pc0 := 20) (pc' := 2) rfl (hb hby d_prog_32_method_5_code_20) (by decide) (by decide) ?_
          show Steps _ _ _ (T10.setTop (mkF m 2 #[.val (.ref a), .val (.int (0 : Int32)), .val (.int (3 : Int32)), .val (.int (3 : Int32))] [])) _
          refine XS.iloadN X10.here hx rfl (hb hby d_prog_32_method_5_code_2) rfl ?_
          show Steps _ _ _ (T10.setTop (mkF m 3 #[.val (.ref a), .val (.int (0 : Int32)), .val (.int (3 : Int32)), .val (.int (3 : Int32))] [(.int (3 : Int32))])) _
          refine XS.iloadN X10.here hx rfl (hb hby d_prog_32_method_5_code_3) rfl ?_
          show Steps _ _ _ (T10.setTop (mkF m 4 #[.val (.ref a), .val (.int (0 : Int32)), .val (.int (3 : Int32)), .val (.int (3 : Int32))] [(.int (3 : Int32)), (.int (3 : Int32))])) _
          refine XS.icmpYes X10.here hx rfl (pc0 := 4) (pc' := 23) rfl (hb hby d_prog_32_method_5_code_4) rfl (flt (by decide)).2.1 (by decide) (by decide) ?_
          show Steps _ _ _ (T10.setTop (mkF m 23 #[.val (.ref a), .val (.int (0 : Int32)), .val (.int (3 : Int32)), .val (.int (3 : Int32))] [])) _
          refine XS.iloadN X10.here hx rfl (hb hby d_prog_32_method_5_code_23) rfl ?_
          show Steps _ _ _ (T10.setTop (mkF m 24 #[.val (.ref a), .val (.int (0 : Int32)), .val (.int (3 : Int32)), .val (.int (3 : Int32))] [(.int (3 : Int32))])) _
          exact hq)
        have hE := e10
        refine retInt X10 hx hret hlk (by simp) rfl (hb hby d_prog_32_method_5_code_24) k13 ?_ (by decide) (by decide)
        try rw [hE]
        exact ⟨by rw [← hr, if_pos hc14_4, if_pos hc14_8, if_pos hc14_12], N10, rfl⟩
      · -- pc 14, holds not
        have k14 : To p.tables e below S0 (T10.setTop (mkF m 24 #[.val (.ref a), .val (.int (0 : Int32)), .val (.int (3 : Int32)), .val (.int (2 : Int32))] [(.int (2 : Int32))])) := fun tt hq => k11 tt (by
          show Steps _ _ _ (T10.setTop (mkF m 14 #[.val (.ref a), .val (.int (0 : Int32)), .val (.int (3 : Int32)), .val (.int (2 : Int32))] [(.int (48 : Int32)), (.int d2)])) _
          refine XS.icmpYes X10.here hx rfl (pc0 := 14) (pc' := 23) rfl (hb hby d_prog_32_method_5_code_14) rfl (feq hc14_12).2 (by decide) (by decide) ?_
          show Steps _ _ _ (T10.setTop (mkF m 23 #[.val (.ref a), .val (.int (0 : Int32)), .val (.int (3 : Int32)), .val (.int (2 : Int32))] [])) _
          refine XS.iloadN X10.here hx rfl (hb hby d_prog_32_method_5_code_23) rfl ?_
          show Steps _ _ _ (T10.setTop (mkF m 24 #[.val (.ref a), .val (.int (0 : Int32)), .val (.int (3 : Int32)), .val (.int (2 : Int32))] [(.int (2 : Int32))])) _
          exact hq)
        have hE := e10
        refine retInt X10 hx hret hlk (by simp) rfl (hb hby d_prog_32_method_5_code_24) k14 ?_ (by decide) (by decide)
        try rw [hE]
        exact ⟨by rw [← hr, if_pos hc14_4, if_pos hc14_8, if_neg hc14_12], N10, rfl⟩
    · -- pc 14, holds not
      have k15 : To p.tables e below S0 (T6.setTop (mkF m 24 #[.val (.ref a), .val (.int (0 : Int32)), .val (.int (3 : Int32)), .val (.int (1 : Int32))] [(.int (1 : Int32))])) := fun tt hq => k7 tt (by
        show Steps _ _ _ (T6.setTop (mkF m 14 #[.val (.ref a), .val (.int (0 : Int32)), .val (.int (3 : Int32)), .val (.int (1 : Int32))] [(.int (48 : Int32)), (.int d1)])) _
        refine XS.icmpYes X6.here hx rfl (pc0 := 14) (pc' := 23) rfl (hb hby d_prog_32_method_5_code_14) rfl (feq hc14_8).2 (by decide) (by decide) ?_
        show Steps _ _ _ (T6.setTop (mkF m 23 #[.val (.ref a), .val (.int (0 : Int32)), .val (.int (3 : Int32)), .val (.int (1 : Int32))] [])) _
        refine XS.iloadN X6.here hx rfl (hb hby d_prog_32_method_5_code_23) rfl ?_
        show Steps _ _ _ (T6.setTop (mkF m 24 #[.val (.ref a), .val (.int (0 : Int32)), .val (.int (3 : Int32)), .val (.int (1 : Int32))] [(.int (1 : Int32))])) _
        exact hq)
      have hE := e6
      refine retInt X6 hx hret hlk (by simp) rfl (hb hby d_prog_32_method_5_code_24) k15 ?_ (by decide) (by decide)
      try rw [hE]
      exact ⟨by rw [← hr, if_pos hc14_4, if_neg hc14_8], N6, rfl⟩
  · -- pc 14, holds not
    have k16 : To p.tables e below S0 (T2.setTop (mkF m 24 #[.val (.ref a), .val (.int (0 : Int32)), .val (.int (3 : Int32)), .val (.int (0 : Int32))] [(.int (0 : Int32))])) := fun tt hq => k3 tt (by
      show Steps _ _ _ (T2.setTop (mkF m 14 #[.val (.ref a), .val (.int (0 : Int32)), .val (.int (3 : Int32)), .val (.int (0 : Int32))] [(.int (48 : Int32)), (.int d0)])) _
      refine XS.icmpYes X2.here hx rfl (pc0 := 14) (pc' := 23) rfl (hb hby d_prog_32_method_5_code_14) rfl (feq hc14_4).2 (by decide) (by decide) ?_
      show Steps _ _ _ (T2.setTop (mkF m 23 #[.val (.ref a), .val (.int (0 : Int32)), .val (.int (3 : Int32)), .val (.int (0 : Int32))] [])) _
      refine XS.iloadN X2.here hx rfl (hb hby d_prog_32_method_5_code_23) rfl ?_
      show Steps _ _ _ (T2.setTop (mkF m 24 #[.val (.ref a), .val (.int (0 : Int32)), .val (.int (3 : Int32)), .val (.int (0 : Int32))] [(.int (0 : Int32))])) _
      exact hq)
    have hE := e2
    refine retInt X2 hx hret hlk (by simp) rfl (hb hby d_prog_32_method_5_code_24) k16 ?_ (by decide) (by decide)
    try rw [hE]
    exact ⟨by rw [← hr, if_neg hc14_4], N2, rfl⟩
set_option maxRecDepth 65536 in
set_option maxHeartbeats 40000000 in
theorem rm_fwd0_4 (l : Launch) (Z : State) (a0 : Array Value) (hw : ∀ d ∈ tables_1, d.before a0 Z = true) (zc : Int32) (fm : Value) (a : Addr) (t : Addr) (kt : ClassId) (d0 : Int32) (d1 : Int32) (d2 : Int32) (d3 : Int32) (r : Int32) (h0 : Heap) (n0 : Nat) (hn0 : n0 ≤ h0.size) (S_c : Sta Z Z.heap "java/lang/String" "COMPACT_STRINGS" "Z" (.int zc)) (hzc : ¬ zc = (0 : Int32)) (S_f : Sta Z Z.heap "jdk/internal/util/Preconditions" "SIOOBE_FORMATTER" "Ljava/util/function/BiFunction;" fm) (hfm : fm.isRef = true) (O0 : Old Z n0 h0) (P0 : Exa Z h0 a "java/lang/String") (P1 : Fld Z h0 a "java/lang/String" "value" "[B" (.ref t)) (P2 : Fld Z h0 a "java/lang/String" "coder" "B" (.int (0 : Int32))) (P3 : Arv Z h0 t kt .byte (4 : Int32) [(.int (nar .byte (d0.toInt8.toInt32))), (.int (nar .byte (d1.toInt8.toInt32))), (.int (nar .byte (d2.toInt8.toInt32))), (.int (nar .byte (d3.toInt8.toInt32)))] (.int 0)) (hd0 : ¬ d0 < (0 : Int32) ∧ ¬ (255 : Int32) < d0) (hd1 : ¬ d1 < (0 : Int32) ∧ ¬ (255 : Int32) < d1) (hd2 : ¬ d2 < (0 : Int32) ∧ ¬ (255 : Int32) < d2) (hd3 : ¬ d3 < (0 : Int32) ∧ ¬ (255 : Int32) < d3) (hr : (if d0 = (48 : Int32) then (if d1 = (48 : Int32) then (if d2 = (48 : Int32) then (if d3 = (48 : Int32) then (4 : Int32) else (3 : Int32)) else (2 : Int32)) else (1 : Int32)) else (0 : Int32)) = r) :
    Con l Z (⟨"com/example/apportion/apportion/input/Decimals", "firstWholeDigit", "(Ljava/lang/String;II)I"⟩ : MethodName) prog_32_method_5_code 4 (some .int) [] ({ frames := 4, cells := 0, slots := 0, locals := 53 } : Room) #[(.ref a), (.int (0 : Int32)), (.int (4 : Int32))] h0 (fun v h L => v = some (.int r) ∧ Fr n0 L ∧ h = h0) := by
  refine enter (Ls := #[.val (.ref a), .val (.int (0 : Int32)), .val (.int (4 : Int32)), .unset]) (plainFor_of_name pn_5) (fun m => by exact entry_eq rfl) ?_
  intro p e s m below meth cd_ s₁ S0 hx hby hml hret hlk hnm hown hZ X0 e0 k0
  have N0 := Fr.nil n0
  have k1 : To p.tables e below S0 (s₁.setTop (mkF m 9 #[.val (.ref a), .val (.int (0 : Int32)), .val (.int (4 : Int32)), .val (.int (0 : Int32))] [(.int (0 : Int32)), (.ref a)])) := fun tt hq => k0 tt (by
    show Steps _ _ _ (s₁.setTop (mkF m 0 #[.val (.ref a), .val (.int (0 : Int32)), .val (.int (4 : Int32)), .unset] [])) _
    refine XS.iloadN X0.here hx rfl (hb hby d_prog_32_method_5_code_0) rfl ?_
    show Steps _ _ _ (s₁.setTop (mkF m 1 #[.val (.ref a), .val (.int (0 : Int32)), .val (.int (4 : Int32)), .unset] [(.int (0 : Int32))])) _
    refine XS.istoreN X0.here hx rfl (hb hby d_prog_32_method_5_code_1) rfl (l' := #[.val (.ref a), .val (.int (0 : Int32)), .val (.int (4 : Int32)), .val (.int (0 : Int32))]) rfl ?_
    show Steps _ _ _ (s₁.setTop (mkF m 2 #[.val (.ref a), .val (.int (0 : Int32)), .val (.int (4 : Int32)), .val (.int (0 : Int32))] [])) _
    refine XS.iloadN X0.here hx rfl (hb hby d_prog_32_method_5_code_2) rfl ?_
    show Steps _ _ _ (s₁.setTop (mkF m 3 #[.val (.ref a), .val (.int (0 : Int32)), .val (.int (4 : Int32)), .val (.int (0 : Int32))] [(.int (0 : Int32))])) _
    refine XS.iloadN X0.here hx rfl (hb hby d_prog_32_method_5_code_3) rfl ?_
    show Steps _ _ _ (s₁.setTop (mkF m 4 #[.val (.ref a), .val (.int (0 : Int32)), .val (.int (4 : Int32)), .val (.int (0 : Int32))] [(.int (4 : Int32)), (.int (0 : Int32))])) _
    refine XS.icmpNo X0.here hx rfl (hb hby d_prog_32_method_5_code_4) rfl (tlt (by decide)).2.1 ?_
    show Steps _ _ _ (s₁.setTop (mkF m 7 #[.val (.ref a), .val (.int (0 : Int32)), .val (.int (4 : Int32)), .val (.int (0 : Int32))] [])) _
    refine XS.aloadN X0.here hx rfl (hb hby d_prog_32_method_5_code_7) rfl rfl ?_
    show Steps _ _ _ (s₁.setTop (mkF m 8 #[.val (.ref a), .val (.int (0 : Int32)), .val (.int (4 : Int32)), .val (.int (0 : Int32))] [(.ref a)])) _
    refine XS.iloadN X0.here hx rfl (hb hby d_prog_32_method_5_code_8) rfl ?_
    show Steps _ _ _ (s₁.setTop (mkF m 9 #[.val (.ref a), .val (.int (0 : Int32)), .val (.int (4 : Int32)), .val (.int (0 : Int32))] [(.int (0 : Int32)), (.ref a)])) _
    exact hq)
  obtain ⟨_, T2, L2, X2, ⟨rfl, Nq2, eq2⟩, k2a⟩ := callV' X0 hx hZ (y := (⟨"java/lang/String", "charAt", "(I)C"⟩ : MethodName)) (z := (⟨"java/lang/String", "charAt", "(I)C"⟩ : MethodName)) hown (hw _ (List.mem_of_getElem? (i := 42) rfl)) (hw _ (List.mem_of_getElem? (i := 43) rfl)) (notFace_of_selects (args := #[]) (mvT hZ (hw _ (List.mem_of_getElem? (i := 45) rfl)))) (hw _ (List.mem_of_getElem? (i := 45) rfl)) (hw _ (List.mem_of_getElem? (i := 44) rfl)) (by decide) P0 (backC (W := 0) (rm_ca4_0 l Z a0 hw zc fm a t kt (nar .byte (d0.toInt8.toInt32)) (nar .byte (d1.toInt8.toInt32)) (nar .byte (d2.toInt8.toInt32)) (nar .byte (d3.toInt8.toInt32)) d0 h0 n0 (by omega) S_c hzc S_f hfm O0 P0 P1 P2 P3 (own_b255 hd0)) hZ (hw _ (List.mem_of_getElem? (i := 46) rfl)) (hw _ (List.mem_of_getElem? (i := 7) rfl)) (by decide) (by decide)) e0 (argsL := [(.int (0 : Int32))]) (rest := []) rfl rfl pd_8 rfl (by rw [hml]; rfl) (hb hby d_prog_32_method_5_code_9) (Nat.le_of_eq rfl) (by decide) (by decide) k1
  have k2 : To p.tables e below S0 (T2.setTop (mkF m 12 #[.val (.ref a), .val (.int (0 : Int32)), .val (.int (4 : Int32)), .val (.int (0 : Int32))] [(.int d0)])) := k2a
  have N2 := N0.app Nq2
  have e2 : T2.heap = h0 := eq2
  have k3 : To p.tables e below S0 (T2.setTop (mkF m 14 #[.val (.ref a), .val (.int (0 : Int32)), .val (.int (4 : Int32)), .val (.int (0 : Int32))] [(.int (48 : Int32)), (.int d0)])) := fun tt hq => k2 tt (by
    show Steps _ _ _ (T2.setTop (mkF m 12 #[.val (.ref a), .val (.int (0 : Int32)), .val (.int (4 : Int32)), .val (.int (0 : Int32))] [(.int d0)])) _
    refine XS.bipush X2.here hx rfl (hb hby d_prog_32_method_5_code_12) ?_
    show Steps _ _ _ (T2.setTop (mkF m 14 #[.val (.ref a), .val (.int (0 : Int32)), .val (.int (4 : Int32)), .val (.int (0 : Int32))] [(.int (48 : Int32)), (.int d0)])) _
    exact hq)
  by_cases hc14_4 : d0 = (48 : Int32)
  · -- pc 14, holds
    have k5 : To p.tables e below S0 (T2.setTop (mkF m 9 #[.val (.ref a), .val (.int (0 : Int32)), .val (.int (4 : Int32)), .val (.int (1 : Int32))] [(.int (1 : Int32)), (.ref a)])) := fun tt hq => k3 tt (by
      show Steps _ _ _ (T2.setTop (mkF m 14 #[.val (.ref a), .val (.int (0 : Int32)), .val (.int (4 : Int32)), .val (.int (0 : Int32))] [(.int (48 : Int32)), (.int d0)])) _
      refine XS.icmpNo X2.here hx rfl (hb hby d_prog_32_method_5_code_14) rfl (teq hc14_4).2 ?_
      show Steps _ _ _ (T2.setTop (mkF m 17 #[.val (.ref a), .val (.int (0 : Int32)), .val (.int (4 : Int32)), .val (.int (0 : Int32))] [])) _
      refine XS.iinc X2.here hx rfl (hb hby d_prog_32_method_5_code_17) rfl (l' := #[.val (.ref a), .val (.int (0 : Int32)), .val (.int (4 : Int32)), .val (.int (1 : Int32))]) rfl ?_
      show Steps _ _ _ (T2.setTop (mkF m 20 #[.val (.ref a), .val (.int (0 : Int32)), .val (.int (4 : Int32)), .val (.int (1 : Int32))] [])) _
      refine XS.goto X2.here hx rfl (pc0 := 20) (pc' := 2) rfl (hb hby d_prog_32_method_5_code_20) (by decide) (by decide) ?_
      show Steps _ _ _ (T2.setTop (mkF m 2 #[.val (.ref a), .val (.int (0 : Int32)), .val (.int (4 : Int32)), .val (.int (1 : Int32))] [])) _
      refine XS.iloadN X2.here hx rfl (hb hby d_prog_32_method_5_code_2) rfl ?_
      show Steps _ _ _ (T2.setTop (mkF m 3 #[.val (.ref a), .val (.int (0 : Int32)), .val (.int (4 : Int32)), .val (.int (1 : Int32))] [(.int (1 : Int32))])) _
      refine XS.iloadN X2.here hx rfl (hb hby d_prog_32_method_5_code_3) rfl ?_
      show Steps _ _ _ (T2.setTop (mkF m 4 #[.val (.ref a), .val (.int (0 : Int32)), .val (.int (4 : Int32)), .val (.int (1 : Int32))] [(.int (4 : Int32)), (.int (1 : Int32))])) _
      refine XS.icmpNo X2.here hx rfl (hb hby d_prog_32_method_5_code_4) rfl (tlt (by decide)).2.1 ?_
      show Steps _ _ _ (T2.setTop (mkF m 7 #[.val (.ref a), .val (.int (0 : Int32)), .val (.int (4 : Int32)), .val (.int (1 : Int32))] [])) _
      refine XS.aloadN X2.here hx rfl (hb hby d_prog_32_method_5_code_7) rfl rfl ?_
      show Steps _ _ _ (T2.setTop (mkF m 8 #[.val (.ref a), .val (.int (0 : Int32)), .val (.int (4 : Int32)), .val (.int (1 : Int32))] [(.ref a)])) _
      refine XS.iloadN X2.here hx rfl (hb hby d_prog_32_method_5_code_8) rfl ?_
      show Steps _ _ _ (T2.setTop (mkF m 9 #[.val (.ref a), .val (.int (0 : Int32)), .val (.int (4 : Int32)), .val (.int (1 : Int32))] [(.int (1 : Int32)), (.ref a)])) _
      exact hq)
    obtain ⟨_, T6, L6, X6, ⟨rfl, Nq6, eq6⟩, k6a⟩ := callV' X2 hx hZ (y := (⟨"java/lang/String", "charAt", "(I)C"⟩ : MethodName)) (z := (⟨"java/lang/String", "charAt", "(I)C"⟩ : MethodName)) hown (hw _ (List.mem_of_getElem? (i := 42) rfl)) (hw _ (List.mem_of_getElem? (i := 43) rfl)) (notFace_of_selects (args := #[]) (mvT hZ (hw _ (List.mem_of_getElem? (i := 45) rfl)))) (hw _ (List.mem_of_getElem? (i := 45) rfl)) (hw _ (List.mem_of_getElem? (i := 44) rfl)) (by decide) P0 (backC (W := 0) (rm_ca4_1 l Z a0 hw zc fm a t kt (nar .byte (d0.toInt8.toInt32)) (nar .byte (d1.toInt8.toInt32)) (nar .byte (d2.toInt8.toInt32)) (nar .byte (d3.toInt8.toInt32)) d1 h0 n0 (by omega) S_c hzc S_f hfm O0 P0 P1 P2 P3 (own_b255 hd1)) hZ (hw _ (List.mem_of_getElem? (i := 46) rfl)) (hw _ (List.mem_of_getElem? (i := 7) rfl)) (by decide) (by decide)) e2 (argsL := [(.int (1 : Int32))]) (rest := []) rfl rfl pd_8 rfl (by rw [hml]; rfl) (hb hby d_prog_32_method_5_code_9) (Nat.le_of_eq rfl) (by decide) (by decide) k5
    have k6 : To p.tables e below S0 (T6.setTop (mkF m 12 #[.val (.ref a), .val (.int (0 : Int32)), .val (.int (4 : Int32)), .val (.int (1 : Int32))] [(.int d1)])) := k6a
    have N6 := N2.app Nq6
    have e6 : T6.heap = h0 := eq6
    have k7 : To p.tables e below S0 (T6.setTop (mkF m 14 #[.val (.ref a), .val (.int (0 : Int32)), .val (.int (4 : Int32)), .val (.int (1 : Int32))] [(.int (48 : Int32)), (.int d1)])) := fun tt hq => k6 tt (by
      show Steps _ _ _ (T6.setTop (mkF m 12 #[.val (.ref a), .val (.int (0 : Int32)), .val (.int (4 : Int32)), .val (.int (1 : Int32))] [(.int d1)])) _
      refine XS.bipush X6.here hx rfl (hb hby d_prog_32_method_5_code_12) ?_
      show Steps _ _ _ (T6.setTop (mkF m 14 #[.val (.ref a), .val (.int (0 : Int32)), .val (.int (4 : Int32)), .val (.int (1 : Int32))] [(.int (48 : Int32)), (.int d1)])) _
      exact hq)
    by_cases hc14_8 : d1 = (48 : Int32)
    · -- pc 14, holds
      have k9 : To p.tables e below S0 (T6.setTop (mkF m 9 #[.val (.ref a), .val (.int (0 : Int32)), .val (.int (4 : Int32)), .val (.int (2 : Int32))] [(.int (2 : Int32)), (.ref a)])) := fun tt hq => k7 tt (by
        show Steps _ _ _ (T6.setTop (mkF m 14 #[.val (.ref a), .val (.int (0 : Int32)), .val (.int (4 : Int32)), .val (.int (1 : Int32))] [(.int (48 : Int32)), (.int d1)])) _
        refine XS.icmpNo X6.here hx rfl (hb hby d_prog_32_method_5_code_14) rfl (teq hc14_8).2 ?_
        show Steps _ _ _ (T6.setTop (mkF m 17 #[.val (.ref a), .val (.int (0 : Int32)), .val (.int (4 : Int32)), .val (.int (1 : Int32))] [])) _
        refine XS.iinc X6.here hx rfl (hb hby d_prog_32_method_5_code_17) rfl (l' := #[.val (.ref a), .val (.int (0 : Int32)), .val (.int (4 : Int32)), .val (.int (2 : Int32))]) rfl ?_
        show Steps _ _ _ (T6.setTop (mkF m 20 #[.val (.ref a), .val (.int (0 : Int32)), .val (.int (4 : Int32)), .val (.int (2 : Int32))] [])) _
        refine XS.goto X6.here hx rfl (pc0 := 20) (pc' := 2) rfl (hb hby d_prog_32_method_5_code_20) (by decide) (by decide) ?_
        show Steps _ _ _ (T6.setTop (mkF m 2 #[.val (.ref a), .val (.int (0 : Int32)), .val (.int (4 : Int32)), .val (.int (2 : Int32))] [])) _
        refine XS.iloadN X6.here hx rfl (hb hby d_prog_32_method_5_code_2) rfl ?_
        show Steps _ _ _ (T6.setTop (mkF m 3 #[.val (.ref a), .val (.int (0 : Int32)), .val (.int (4 : Int32)), .val (.int (2 : Int32))] [(.int (2 : Int32))])) _
        refine XS.iloadN X6.here hx rfl (hb hby d_prog_32_method_5_code_3) rfl ?_
        show Steps _ _ _ (T6.setTop (mkF m 4 #[.val (.ref a), .val (.int (0 : Int32)), .val (.int (4 : Int32)), .val (.int (2 : Int32))] [(.int (4 : Int32)), (.int (2 : Int32))])) _
        refine XS.icmpNo X6.here hx rfl (hb hby d_prog_32_method_5_code_4) rfl (tlt (by decide)).2.1 ?_
        show Steps _ _ _ (T6.setTop (mkF m 7 #[.val (.ref a), .val (.int (0 : Int32)), .val (.int (4 : Int32)), .val (.int (2 : Int32))] [])) _
        refine XS.aloadN X6.here hx rfl (hb hby d_prog_32_method_5_code_7) rfl rfl ?_
        show Steps _ _ _ (T6.setTop (mkF m 8 #[.val (.ref a), .val (.int (0 : Int32)), .val (.int (4 : Int32)), .val (.int (2 : Int32))] [(.ref a)])) _
        refine XS.iloadN X6.here hx rfl (hb hby d_prog_32_method_5_code_8) rfl ?_
        show Steps _ _ _ (T6.setTop (mkF m 9 #[.val (.ref a), .val (.int (0 : Int32)), .val (.int (4 : Int32)), .val (.int (2 : Int32))] [(.int (2 : Int32)), (.ref a)])) _
        exact hq)
      obtain ⟨_, T10, L10, X10, ⟨rfl, Nq10, eq10⟩, k10a⟩ := callV' X6 hx hZ (y := (⟨"java/lang/String", "charAt", "(I)C"⟩ : MethodName)) (z := (⟨"java/lang/String", "charAt", "(I)C"⟩ : MethodName)) hown (hw _ (List.mem_of_getElem? (i := 42) rfl)) (hw _ (List.mem_of_getElem? (i := 43) rfl)) (notFace_of_selects (args := #[]) (mvT hZ (hw _ (List.mem_of_getElem? (i := 45) rfl)))) (hw _ (List.mem_of_getElem? (i := 45) rfl)) (hw _ (List.mem_of_getElem? (i := 44) rfl)) (by decide) P0 (backC (W := 0) (rm_ca4_2 l Z a0 hw zc fm a t kt (nar .byte (d0.toInt8.toInt32)) (nar .byte (d1.toInt8.toInt32)) (nar .byte (d2.toInt8.toInt32)) (nar .byte (d3.toInt8.toInt32)) d2 h0 n0 (by omega) S_c hzc S_f hfm O0 P0 P1 P2 P3 (own_b255 hd2)) hZ (hw _ (List.mem_of_getElem? (i := 46) rfl)) (hw _ (List.mem_of_getElem? (i := 7) rfl)) (by decide) (by decide)) e6 (argsL := [(.int (2 : Int32))]) (rest := []) rfl rfl pd_8 rfl (by rw [hml]; rfl) (hb hby d_prog_32_method_5_code_9) (Nat.le_of_eq rfl) (by decide) (by decide) k9
      have k10 : To p.tables e below S0 (T10.setTop (mkF m 12 #[.val (.ref a), .val (.int (0 : Int32)), .val (.int (4 : Int32)), .val (.int (2 : Int32))] [(.int d2)])) := k10a
      have N10 := N6.app Nq10
      have e10 : T10.heap = h0 := eq10
      have k11 : To p.tables e below S0 (T10.setTop (mkF m 14 #[.val (.ref a), .val (.int (0 : Int32)), .val (.int (4 : Int32)), .val (.int (2 : Int32))] [(.int (48 : Int32)), (.int d2)])) := fun tt hq => k10 tt (by
        show Steps _ _ _ (T10.setTop (mkF m 12 #[.val (.ref a), .val (.int (0 : Int32)), .val (.int (4 : Int32)), .val (.int (2 : Int32))] [(.int d2)])) _
        refine XS.bipush X10.here hx rfl (hb hby d_prog_32_method_5_code_12) ?_
        show Steps _ _ _ (T10.setTop (mkF m 14 #[.val (.ref a), .val (.int (0 : Int32)), .val (.int (4 : Int32)), .val (.int (2 : Int32))] [(.int (48 : Int32)), (.int d2)])) _
        exact hq)
      by_cases hc14_12 : d2 = (48 : Int32)
      · -- pc 14, holds
        have k13 : To p.tables e below S0 (T10.setTop (mkF m 9 #[.val (.ref a), .val (.int (0 : Int32)), .val (.int (4 : Int32)), .val (.int (3 : Int32))] [(.int (3 : Int32)), (.ref a)])) := fun tt hq => k11 tt (by
          show Steps _ _ _ (T10.setTop (mkF m 14 #[.val (.ref a), .val (.int (0 : Int32)), .val (.int (4 : Int32)), .val (.int (2 : Int32))] [(.int (48 : Int32)), (.int d2)])) _
          refine XS.icmpNo X10.here hx rfl (hb hby d_prog_32_method_5_code_14) rfl (teq hc14_12).2 ?_
          show Steps _ _ _ (T10.setTop (mkF m 17 #[.val (.ref a), .val (.int (0 : Int32)), .val (.int (4 : Int32)), .val (.int (2 : Int32))] [])) _
          refine XS.iinc X10.here hx rfl (hb hby d_prog_32_method_5_code_17) rfl (l' := #[.val (.ref a), .val (.int (0 : Int32)), .val (.int (4 : Int32)), .val (.int (3 : Int32))]) rfl ?_
          show Steps _ _ _ (T10.setTop (mkF m 20 #[.val (.ref a), .val (.int (0 : Int32)), .val (.int (4 : Int32)), .val (.int (3 : Int32))] [])) _
          refine XS.goto X10.here hx rfl (pc0 := 20) (pc' := 2) rfl (hb hby d_prog_32_method_5_code_20) (by decide) (by decide) ?_
          show Steps _ _ _ (T10.setTop (mkF m 2 #[.val (.ref a), .val (.int (0 : Int32)), .val (.int (4 : Int32)), .val (.int (3 : Int32))] [])) _
          refine XS.iloadN X10.here hx rfl (hb hby d_prog_32_method_5_code_2) rfl ?_
          show Steps _ _ _ (T10.setTop (mkF m 3 #[.val (.ref a), .val (.int (0 : Int32)), .val (.int (4 : Int32)), .val (.int (3 : Int32))] [(.int (3 : Int32))])) _
          refine XS.iloadN X10.here hx rfl (hb hby d_prog_32_method_5_code_3) rfl ?_
          show Steps _ _ _ (T10.setTop (mkF m 4 #[.val (.ref a), .val (.int (0 : Int32)), .val (.int (4 : Int32)), .val (.int (3 : Int32))] [(.int (4 : Int32)), (.int (3 : Int32))])) _
          refine XS.icmpNo X10.here hx rfl (hb hby d_prog_32_method_5_code_4) rfl (tlt (by decide)).2.1 ?_
          show Steps _ _ _ (T10.setTop (mkF m 7 #[.val (.ref a), .val (.int (0 : Int32)), .val (.int (4 : Int32)), .val (.int (3 : Int32))] [])) _
          refine XS.aloadN X10.here hx rfl (hb hby d_prog_32_method_5_code_7) rfl rfl ?_
          show Steps _ _ _ (T10.setTop (mkF m 8 #[.val (.ref a), .val (.int (0 : Int32)), .val (.int (4 : Int32)), .val (.int (3 : Int32))] [(.ref a)])) _
          refine XS.iloadN X10.here hx rfl (hb hby d_prog_32_method_5_code_8) rfl ?_
          show Steps _ _ _ (T10.setTop (mkF m 9 #[.val (.ref a), .val (.int (0 : Int32)), .val (.int (4 : Int32)), .val (.int (3 : Int32))] [(.int (3 : Int32)), (.ref a)])) _
          exact hq)
        obtain ⟨_, T14, L14, X14, ⟨rfl, Nq14, eq14⟩, k14a⟩ := callV' X10 hx hZ (y := (⟨"java/lang/String", "charAt", "(I)C"⟩ : MethodName)) (z := (⟨"java/lang/String", "charAt", "(I)C"⟩ : MethodName)) hown (hw _ (List.mem_of_getElem? (i := 42) rfl)) (hw _ (List.mem_of_getElem? (i := 43) rfl)) (notFace_of_selects (args := #[]) (mvT hZ (hw _ (List.mem_of_getElem? (i := 45) rfl)))) (hw _ (List.mem_of_getElem? (i := 45) rfl)) (hw _ (List.mem_of_getElem? (i := 44) rfl)) (by decide) P0 (backC (W := 0) (rm_ca4_3 l Z a0 hw zc fm a t kt (nar .byte (d0.toInt8.toInt32)) (nar .byte (d1.toInt8.toInt32)) (nar .byte (d2.toInt8.toInt32)) (nar .byte (d3.toInt8.toInt32)) d3 h0 n0 (by omega) S_c hzc S_f hfm O0 P0 P1 P2 P3 (own_b255 hd3)) hZ (hw _ (List.mem_of_getElem? (i := 46) rfl)) (hw _ (List.mem_of_getElem? (i := 7) rfl)) (by decide) (by decide)) e10 (argsL := [(.int (3 : Int32))]) (rest := []) rfl rfl pd_8 rfl (by rw [hml]; rfl) (hb hby d_prog_32_method_5_code_9) (Nat.le_of_eq rfl) (by decide) (by decide) k13
        have k14 : To p.tables e below S0 (T14.setTop (mkF m 12 #[.val (.ref a), .val (.int (0 : Int32)), .val (.int (4 : Int32)), .val (.int (3 : Int32))] [(.int d3)])) := k14a
        have N14 := N10.app Nq14
        have e14 : T14.heap = h0 := eq14
        have k15 : To p.tables e below S0 (T14.setTop (mkF m 14 #[.val (.ref a), .val (.int (0 : Int32)), .val (.int (4 : Int32)), .val (.int (3 : Int32))] [(.int (48 : Int32)), (.int d3)])) := fun tt hq => k14 tt (by
          show Steps _ _ _ (T14.setTop (mkF m 12 #[.val (.ref a), .val (.int (0 : Int32)), .val (.int (4 : Int32)), .val (.int (3 : Int32))] [(.int d3)])) _
          refine XS.bipush X14.here hx rfl (hb hby d_prog_32_method_5_code_12) ?_
          show Steps _ _ _ (T14.setTop (mkF m 14 #[.val (.ref a), .val (.int (0 : Int32)), .val (.int (4 : Int32)), .val (.int (3 : Int32))] [(.int (48 : Int32)), (.int d3)])) _
          exact hq)
        by_cases hc14_16 : d3 = (48 : Int32)
        · -- pc 14, holds
          have k17 : To p.tables e below S0 (T14.setTop (mkF m 24 #[.val (.ref a), .val (.int (0 : Int32)), .val (.int (4 : Int32)), .val (.int (4 : Int32))] [(.int (4 : Int32))])) := fun tt hq => k15 tt (by
            show Steps _ _ _ (T14.setTop (mkF m 14 #[.val (.ref a), .val (.int (0 : Int32)), .val (.int (4 : Int32)), .val (.int (3 : Int32))] [(.int (48 : Int32)), (.int d3)])) _
            refine XS.icmpNo X14.here hx rfl (hb hby d_prog_32_method_5_code_14) rfl (teq hc14_16).2 ?_
            show Steps _ _ _ (T14.setTop (mkF m 17 #[.val (.ref a), .val (.int (0 : Int32)), .val (.int (4 : Int32)), .val (.int (3 : Int32))] [])) _
            refine XS.iinc X14.here hx rfl (hb hby d_prog_32_method_5_code_17) rfl (l' := #[.val (.ref a), .val (.int (0 : Int32)), .val (.int (4 : Int32)), .val (.int (4 : Int32))]) rfl ?_
            show Steps _ _ _ (T14.setTop (mkF m 20 #[.val (.ref a), .val (.int (0 : Int32)), .val (.int (4 : Int32)), .val (.int (4 : Int32))] [])) _
            refine XS.goto X14.here hx rfl (pc0 := 20) (pc' := 2) rfl (hb hby d_prog_32_method_5_code_20) (by decide) (by decide) ?_
            show Steps _ _ _ (T14.setTop (mkF m 2 #[.val (.ref a), .val (.int (0 : Int32)), .val (.int (4 : Int32)), .val (.int (4 : Int32))] [])) _
            refine XS.iloadN X14.here hx rfl (hb hby d_prog_32_method_5_code_2) rfl ?_
            show Steps _ _ _ (T14.setTop (mkF m 3 #[.val (.ref a), .val (.int (0 : Int32)), .val (.int (4 : Int32)), .val (.int (4 : Int32))] [(.int (4 : Int32))])) _
            refine XS.iloadN X14.here hx rfl (hb hby d_prog_32_method_5_code_3) rfl ?_
            show Steps _ _ _ (T14.setTop (mkF m 4 #[.val (.ref a), .val (.int (0 : Int32)), .val (.int (4 : Int32)), .val (.int (4 : Int32))] [(.int (4 : Int32)), (.int (4 : Int32))])) _
            refine XS.icmpYes X14.here hx rfl (pc0 := 4) (pc' := 23) rfl (hb hby d_prog_32_method_5_code_4) rfl (flt (by decide)).2.1 (by decide) (by decide) ?_
            show Steps _ _ _ (T14.setTop (mkF m 23 #[.val (.ref a), .val (.int (0 : Int32)), .val (.int (4 : Int32)), .val (.int (4 : Int32))] [])) _
            refine XS.iloadN X14.here hx rfl (hb hby d_prog_32_method_5_code_23) rfl ?_
            show Steps _ _ _ (T14.setTop (mkF m 24 #[.val (.ref a), .val (.int (0 : Int32)), .val (.int (4 : Int32)), .val (.int (4 : Int32))] [(.int (4 : Int32))])) _
            exact hq)
          have hE := e14
          refine retInt X14 hx hret hlk (by simp) rfl (hb hby d_prog_32_method_5_code_24) k17 ?_ (by decide) (by decide)
          try rw [hE]
          exact ⟨by rw [← hr, if_pos hc14_4, if_pos hc14_8, if_pos hc14_12, if_pos hc14_16], N14, rfl⟩
        · -- pc 14, holds not
          have k18 : To p.tables e below S0 (T14.setTop (mkF m 24 #[.val (.ref a), .val (.int (0 : Int32)), .val (.int (4 : Int32)), .val (.int (3 : Int32))] [(.int (3 : Int32))])) := fun tt hq => k15 tt (by
            show Steps _ _ _ (T14.setTop (mkF m 14 #[.val (.ref a), .val (.int (0 : Int32)), .val (.int (4 : Int32)), .val (.int (3 : Int32))] [(.int (48 : Int32)), (.int d3)])) _
            refine XS.icmpYes X14.here hx rfl (pc0 := 14) (pc' := 23) rfl (hb hby d_prog_32_method_5_code_14) rfl (feq hc14_16).2 (by decide) (by decide) ?_
            show Steps _ _ _ (T14.setTop (mkF m 23 #[.val (.ref a), .val (.int (0 : Int32)), .val (.int (4 : Int32)), .val (.int (3 : Int32))] [])) _
            refine XS.iloadN X14.here hx rfl (hb hby d_prog_32_method_5_code_23) rfl ?_
            show Steps _ _ _ (T14.setTop (mkF m 24 #[.val (.ref a), .val (.int (0 : Int32)), .val (.int (4 : Int32)), .val (.int (3 : Int32))] [(.int (3 : Int32))])) _
            exact hq)
          have hE := e14
          refine retInt X14 hx hret hlk (by simp) rfl (hb hby d_prog_32_method_5_code_24) k18 ?_ (by decide) (by decide)
          try rw [hE]
          exact ⟨by rw [← hr, if_pos hc14_4, if_pos hc14_8, if_pos hc14_12, if_neg hc14_16], N14, rfl⟩
      · -- pc 14, holds not
        have k19 : To p.tables e below S0 (T10.setTop (mkF m 24 #[.val (.ref a), .val (.int (0 : Int32)), .val (.int (4 : Int32)), .val (.int (2 : Int32))] [(.int (2 : Int32))])) := fun tt hq => k11 tt (by
          show Steps _ _ _ (T10.setTop (mkF m 14 #[.val (.ref a), .val (.int (0 : Int32)), .val (.int (4 : Int32)), .val (.int (2 : Int32))] [(.int (48 : Int32)), (.int d2)])) _
          refine XS.icmpYes X10.here hx rfl (pc0 := 14) (pc' := 23) rfl (hb hby d_prog_32_method_5_code_14) rfl (feq hc14_12).2 (by decide) (by decide) ?_
          show Steps _ _ _ (T10.setTop (mkF m 23 #[.val (.ref a), .val (.int (0 : Int32)), .val (.int (4 : Int32)), .val (.int (2 : Int32))] [])) _
          refine XS.iloadN X10.here hx rfl (hb hby d_prog_32_method_5_code_23) rfl ?_
          show Steps _ _ _ (T10.setTop (mkF m 24 #[.val (.ref a), .val (.int (0 : Int32)), .val (.int (4 : Int32)), .val (.int (2 : Int32))] [(.int (2 : Int32))])) _
          exact hq)
        have hE := e10
        refine retInt X10 hx hret hlk (by simp) rfl (hb hby d_prog_32_method_5_code_24) k19 ?_ (by decide) (by decide)
        try rw [hE]
        exact ⟨by rw [← hr, if_pos hc14_4, if_pos hc14_8, if_neg hc14_12], N10, rfl⟩
    · -- pc 14, holds not
      have k20 : To p.tables e below S0 (T6.setTop (mkF m 24 #[.val (.ref a), .val (.int (0 : Int32)), .val (.int (4 : Int32)), .val (.int (1 : Int32))] [(.int (1 : Int32))])) := fun tt hq => k7 tt (by
        show Steps _ _ _ (T6.setTop (mkF m 14 #[.val (.ref a), .val (.int (0 : Int32)), .val (.int (4 : Int32)), .val (.int (1 : Int32))] [(.int (48 : Int32)), (.int d1)])) _
        refine XS.icmpYes X6.here hx rfl (pc0 := 14) (pc' := 23) rfl (hb hby d_prog_32_method_5_code_14) rfl (feq hc14_8).2 (by decide) (by decide) ?_
        show Steps _ _ _ (T6.setTop (mkF m 23 #[.val (.ref a), .val (.int (0 : Int32)), .val (.int (4 : Int32)), .val (.int (1 : Int32))] [])) _
        refine XS.iloadN X6.here hx rfl (hb hby d_prog_32_method_5_code_23) rfl ?_
        show Steps _ _ _ (T6.setTop (mkF m 24 #[.val (.ref a), .val (.int (0 : Int32)), .val (.int (4 : Int32)), .val (.int (1 : Int32))] [(.int (1 : Int32))])) _
        exact hq)
      have hE := e6
      refine retInt X6 hx hret hlk (by simp) rfl (hb hby d_prog_32_method_5_code_24) k20 ?_ (by decide) (by decide)
      try rw [hE]
      exact ⟨by rw [← hr, if_pos hc14_4, if_neg hc14_8], N6, rfl⟩
  · -- pc 14, holds not
    have k21 : To p.tables e below S0 (T2.setTop (mkF m 24 #[.val (.ref a), .val (.int (0 : Int32)), .val (.int (4 : Int32)), .val (.int (0 : Int32))] [(.int (0 : Int32))])) := fun tt hq => k3 tt (by
      show Steps _ _ _ (T2.setTop (mkF m 14 #[.val (.ref a), .val (.int (0 : Int32)), .val (.int (4 : Int32)), .val (.int (0 : Int32))] [(.int (48 : Int32)), (.int d0)])) _
      refine XS.icmpYes X2.here hx rfl (pc0 := 14) (pc' := 23) rfl (hb hby d_prog_32_method_5_code_14) rfl (feq hc14_4).2 (by decide) (by decide) ?_
      show Steps _ _ _ (T2.setTop (mkF m 23 #[.val (.ref a), .val (.int (0 : Int32)), .val (.int (4 : Int32)), .val (.int (0 : Int32))] [])) _
      refine XS.iloadN X2.here hx rfl (hb hby d_prog_32_method_5_code_23) rfl ?_
      show Steps _ _ _ (T2.setTop (mkF m 24 #[.val (.ref a), .val (.int (0 : Int32)), .val (.int (4 : Int32)), .val (.int (0 : Int32))] [(.int (0 : Int32))])) _
      exact hq)
    have hE := e2
    refine retInt X2 hx hret hlk (by simp) rfl (hb hby d_prog_32_method_5_code_24) k21 ?_ (by decide) (by decide)
    try rw [hE]
    exact ⟨by rw [← hr, if_neg hc14_4], N2, rfl⟩
set_option maxRecDepth 65536 in
set_option maxHeartbeats 40000000 in
theorem rm_fwd1_1 (l : Launch) (Z : State) (a0 : Array Value) (hw : ∀ d ∈ tables_1, d.before a0 Z = true) (zc : Int32) (fm : Value) (a : Addr) (t : Addr) (kt : ClassId) (d0 : Int32) (d1 : Int32) (d2 : Int32) (d3 : Int32) (r : Int32) (h0 : Heap) (n0 : Nat) (hn0 : n0 ≤ h0.size) (S_c : Sta Z Z.heap "java/lang/String" "COMPACT_STRINGS" "Z" (.int zc)) (hzc : ¬ zc = (0 : Int32)) (S_f : Sta Z Z.heap "jdk/internal/util/Preconditions" "SIOOBE_FORMATTER" "Ljava/util/function/BiFunction;" fm) (hfm : fm.isRef = true) (O0 : Old Z n0 h0) (P0 : Exa Z h0 a "java/lang/String") (P1 : Fld Z h0 a "java/lang/String" "value" "[B" (.ref t)) (P2 : Fld Z h0 a "java/lang/String" "coder" "B" (.int (0 : Int32))) (P3 : Arv Z h0 t kt .byte (4 : Int32) [(.int (nar .byte (d0.toInt8.toInt32))), (.int (nar .byte (d1.toInt8.toInt32))), (.int (nar .byte (d2.toInt8.toInt32))), (.int (nar .byte (d3.toInt8.toInt32)))] (.int 0)) (hd0 : ¬ d0 < (0 : Int32) ∧ ¬ (255 : Int32) < d0) (hd1 : ¬ d1 < (0 : Int32) ∧ ¬ (255 : Int32) < d1) (hd2 : ¬ d2 < (0 : Int32) ∧ ¬ (255 : Int32) < d2) (hd3 : ¬ d3 < (0 : Int32) ∧ ¬ (255 : Int32) < d3) (hr : (1 : Int32) = r) :
    Con l Z (⟨"com/example/apportion/apportion/input/Decimals", "firstWholeDigit", "(Ljava/lang/String;II)I"⟩ : MethodName) prog_32_method_5_code 4 (some .int) [] ({ frames := 0, cells := 0, slots := 0, locals := 0 } : Room) #[(.ref a), (.int (1 : Int32)), (.int (1 : Int32))] h0 (fun v h L => v = some (.int r) ∧ Fr n0 L ∧ h = h0) := by
  refine enter (Ls := #[.val (.ref a), .val (.int (1 : Int32)), .val (.int (1 : Int32)), .unset]) (plainFor_of_name pn_5) (fun m => by exact entry_eq rfl) ?_
  intro p e s m below meth cd_ s₁ S0 hx hby hml hret hlk hnm hown hZ X0 e0 k0
  have N0 := Fr.nil n0
  have k1 : To p.tables e below S0 (s₁.setTop (mkF m 24 #[.val (.ref a), .val (.int (1 : Int32)), .val (.int (1 : Int32)), .val (.int (1 : Int32))] [(.int (1 : Int32))])) := fun tt hq => k0 tt (by
    show Steps _ _ _ (s₁.setTop (mkF m 0 #[.val (.ref a), .val (.int (1 : Int32)), .val (.int (1 : Int32)), .unset] [])) _
    refine XS.iloadN X0.here hx rfl (hb hby d_prog_32_method_5_code_0) rfl ?_
    show Steps _ _ _ (s₁.setTop (mkF m 1 #[.val (.ref a), .val (.int (1 : Int32)), .val (.int (1 : Int32)), .unset] [(.int (1 : Int32))])) _
    refine XS.istoreN X0.here hx rfl (hb hby d_prog_32_method_5_code_1) rfl (l' := #[.val (.ref a), .val (.int (1 : Int32)), .val (.int (1 : Int32)), .val (.int (1 : Int32))]) rfl ?_
    show Steps _ _ _ (s₁.setTop (mkF m 2 #[.val (.ref a), .val (.int (1 : Int32)), .val (.int (1 : Int32)), .val (.int (1 : Int32))] [])) _
    refine XS.iloadN X0.here hx rfl (hb hby d_prog_32_method_5_code_2) rfl ?_
    show Steps _ _ _ (s₁.setTop (mkF m 3 #[.val (.ref a), .val (.int (1 : Int32)), .val (.int (1 : Int32)), .val (.int (1 : Int32))] [(.int (1 : Int32))])) _
    refine XS.iloadN X0.here hx rfl (hb hby d_prog_32_method_5_code_3) rfl ?_
    show Steps _ _ _ (s₁.setTop (mkF m 4 #[.val (.ref a), .val (.int (1 : Int32)), .val (.int (1 : Int32)), .val (.int (1 : Int32))] [(.int (1 : Int32)), (.int (1 : Int32))])) _
    refine XS.icmpYes X0.here hx rfl (pc0 := 4) (pc' := 23) rfl (hb hby d_prog_32_method_5_code_4) rfl (flt (by decide)).2.1 (by decide) (by decide) ?_
    show Steps _ _ _ (s₁.setTop (mkF m 23 #[.val (.ref a), .val (.int (1 : Int32)), .val (.int (1 : Int32)), .val (.int (1 : Int32))] [])) _
    refine XS.iloadN X0.here hx rfl (hb hby d_prog_32_method_5_code_23) rfl ?_
    show Steps _ _ _ (s₁.setTop (mkF m 24 #[.val (.ref a), .val (.int (1 : Int32)), .val (.int (1 : Int32)), .val (.int (1 : Int32))] [(.int (1 : Int32))])) _
    exact hq)
  have hE := e0
  refine retInt X0 hx hret hlk (by simp) rfl (hb hby d_prog_32_method_5_code_24) k1 ?_ (by decide) (by decide)
  try rw [hE]
  exact ⟨by rw [← hr], N0, rfl⟩
set_option maxRecDepth 65536 in
set_option maxHeartbeats 40000000 in
theorem rm_fwd1_2 (l : Launch) (Z : State) (a0 : Array Value) (hw : ∀ d ∈ tables_1, d.before a0 Z = true) (zc : Int32) (fm : Value) (a : Addr) (t : Addr) (kt : ClassId) (d0 : Int32) (d1 : Int32) (d2 : Int32) (d3 : Int32) (r : Int32) (h0 : Heap) (n0 : Nat) (hn0 : n0 ≤ h0.size) (S_c : Sta Z Z.heap "java/lang/String" "COMPACT_STRINGS" "Z" (.int zc)) (hzc : ¬ zc = (0 : Int32)) (S_f : Sta Z Z.heap "jdk/internal/util/Preconditions" "SIOOBE_FORMATTER" "Ljava/util/function/BiFunction;" fm) (hfm : fm.isRef = true) (O0 : Old Z n0 h0) (P0 : Exa Z h0 a "java/lang/String") (P1 : Fld Z h0 a "java/lang/String" "value" "[B" (.ref t)) (P2 : Fld Z h0 a "java/lang/String" "coder" "B" (.int (0 : Int32))) (P3 : Arv Z h0 t kt .byte (4 : Int32) [(.int (nar .byte (d0.toInt8.toInt32))), (.int (nar .byte (d1.toInt8.toInt32))), (.int (nar .byte (d2.toInt8.toInt32))), (.int (nar .byte (d3.toInt8.toInt32)))] (.int 0)) (hd0 : ¬ d0 < (0 : Int32) ∧ ¬ (255 : Int32) < d0) (hd1 : ¬ d1 < (0 : Int32) ∧ ¬ (255 : Int32) < d1) (hd2 : ¬ d2 < (0 : Int32) ∧ ¬ (255 : Int32) < d2) (hd3 : ¬ d3 < (0 : Int32) ∧ ¬ (255 : Int32) < d3) (hr : (if d1 = (48 : Int32) then (2 : Int32) else (1 : Int32)) = r) :
    Con l Z (⟨"com/example/apportion/apportion/input/Decimals", "firstWholeDigit", "(Ljava/lang/String;II)I"⟩ : MethodName) prog_32_method_5_code 4 (some .int) [] ({ frames := 4, cells := 0, slots := 0, locals := 53 } : Room) #[(.ref a), (.int (1 : Int32)), (.int (2 : Int32))] h0 (fun v h L => v = some (.int r) ∧ Fr n0 L ∧ h = h0) := by
  refine enter (Ls := #[.val (.ref a), .val (.int (1 : Int32)), .val (.int (2 : Int32)), .unset]) (plainFor_of_name pn_5) (fun m => by exact entry_eq rfl) ?_
  intro p e s m below meth cd_ s₁ S0 hx hby hml hret hlk hnm hown hZ X0 e0 k0
  have N0 := Fr.nil n0
  have k1 : To p.tables e below S0 (s₁.setTop (mkF m 9 #[.val (.ref a), .val (.int (1 : Int32)), .val (.int (2 : Int32)), .val (.int (1 : Int32))] [(.int (1 : Int32)), (.ref a)])) := fun tt hq => k0 tt (by
    show Steps _ _ _ (s₁.setTop (mkF m 0 #[.val (.ref a), .val (.int (1 : Int32)), .val (.int (2 : Int32)), .unset] [])) _
    refine XS.iloadN X0.here hx rfl (hb hby d_prog_32_method_5_code_0) rfl ?_
    show Steps _ _ _ (s₁.setTop (mkF m 1 #[.val (.ref a), .val (.int (1 : Int32)), .val (.int (2 : Int32)), .unset] [(.int (1 : Int32))])) _
    refine XS.istoreN X0.here hx rfl (hb hby d_prog_32_method_5_code_1) rfl (l' := #[.val (.ref a), .val (.int (1 : Int32)), .val (.int (2 : Int32)), .val (.int (1 : Int32))]) rfl ?_
    show Steps _ _ _ (s₁.setTop (mkF m 2 #[.val (.ref a), .val (.int (1 : Int32)), .val (.int (2 : Int32)), .val (.int (1 : Int32))] [])) _
    refine XS.iloadN X0.here hx rfl (hb hby d_prog_32_method_5_code_2) rfl ?_
    show Steps _ _ _ (s₁.setTop (mkF m 3 #[.val (.ref a), .val (.int (1 : Int32)), .val (.int (2 : Int32)), .val (.int (1 : Int32))] [(.int (1 : Int32))])) _
    refine XS.iloadN X0.here hx rfl (hb hby d_prog_32_method_5_code_3) rfl ?_
    show Steps _ _ _ (s₁.setTop (mkF m 4 #[.val (.ref a), .val (.int (1 : Int32)), .val (.int (2 : Int32)), .val (.int (1 : Int32))] [(.int (2 : Int32)), (.int (1 : Int32))])) _
    refine XS.icmpNo X0.here hx rfl (hb hby d_prog_32_method_5_code_4) rfl (tlt (by decide)).2.1 ?_
    show Steps _ _ _ (s₁.setTop (mkF m 7 #[.val (.ref a), .val (.int (1 : Int32)), .val (.int (2 : Int32)), .val (.int (1 : Int32))] [])) _
    refine XS.aloadN X0.here hx rfl (hb hby d_prog_32_method_5_code_7) rfl rfl ?_
    show Steps _ _ _ (s₁.setTop (mkF m 8 #[.val (.ref a), .val (.int (1 : Int32)), .val (.int (2 : Int32)), .val (.int (1 : Int32))] [(.ref a)])) _
    refine XS.iloadN X0.here hx rfl (hb hby d_prog_32_method_5_code_8) rfl ?_
    show Steps _ _ _ (s₁.setTop (mkF m 9 #[.val (.ref a), .val (.int (1 : Int32)), .val (.int (2 : Int32)), .val (.int (1 : Int32))] [(.int (1 : Int32)), (.ref a)])) _
    exact hq)
  obtain ⟨_, T2, L2, X2, ⟨rfl, Nq2, eq2⟩, k2a⟩ := callV' X0 hx hZ (y := (⟨"java/lang/String", "charAt", "(I)C"⟩ : MethodName)) (z := (⟨"java/lang/String", "charAt", "(I)C"⟩ : MethodName)) hown (hw _ (List.mem_of_getElem? (i := 42) rfl)) (hw _ (List.mem_of_getElem? (i := 43) rfl)) (notFace_of_selects (args := #[]) (mvT hZ (hw _ (List.mem_of_getElem? (i := 45) rfl)))) (hw _ (List.mem_of_getElem? (i := 45) rfl)) (hw _ (List.mem_of_getElem? (i := 44) rfl)) (by decide) P0 (backC (W := 0) (rm_ca4_1 l Z a0 hw zc fm a t kt (nar .byte (d0.toInt8.toInt32)) (nar .byte (d1.toInt8.toInt32)) (nar .byte (d2.toInt8.toInt32)) (nar .byte (d3.toInt8.toInt32)) d1 h0 n0 (by omega) S_c hzc S_f hfm O0 P0 P1 P2 P3 (own_b255 hd1)) hZ (hw _ (List.mem_of_getElem? (i := 46) rfl)) (hw _ (List.mem_of_getElem? (i := 7) rfl)) (by decide) (by decide)) e0 (argsL := [(.int (1 : Int32))]) (rest := []) rfl rfl pd_8 rfl (by rw [hml]; rfl) (hb hby d_prog_32_method_5_code_9) (Nat.le_of_eq rfl) (by decide) (by decide) k1
  have k2 : To p.tables e below S0 (T2.setTop (mkF m 12 #[.val (.ref a), .val (.int (1 : Int32)), .val (.int (2 : Int32)), .val (.int (1 : Int32))] [(.int d1)])) := k2a
  have N2 := N0.app Nq2
  have e2 : T2.heap = h0 := eq2
  have k3 : To p.tables e below S0 (T2.setTop (mkF m 14 #[.val (.ref a), .val (.int (1 : Int32)), .val (.int (2 : Int32)), .val (.int (1 : Int32))] [(.int (48 : Int32)), (.int d1)])) := fun tt hq => k2 tt (by
    show Steps _ _ _ (T2.setTop (mkF m 12 #[.val (.ref a), .val (.int (1 : Int32)), .val (.int (2 : Int32)), .val (.int (1 : Int32))] [(.int d1)])) _
    refine XS.bipush X2.here hx rfl (hb hby d_prog_32_method_5_code_12) ?_
    show Steps _ _ _ (T2.setTop (mkF m 14 #[.val (.ref a), .val (.int (1 : Int32)), .val (.int (2 : Int32)), .val (.int (1 : Int32))] [(.int (48 : Int32)), (.int d1)])) _
    exact hq)
  by_cases hc14_4 : d1 = (48 : Int32)
  · -- pc 14, holds
    have k5 : To p.tables e below S0 (T2.setTop (mkF m 24 #[.val (.ref a), .val (.int (1 : Int32)), .val (.int (2 : Int32)), .val (.int (2 : Int32))] [(.int (2 : Int32))])) := fun tt hq => k3 tt (by
      show Steps _ _ _ (T2.setTop (mkF m 14 #[.val (.ref a), .val (.int (1 : Int32)), .val (.int (2 : Int32)), .val (.int (1 : Int32))] [(.int (48 : Int32)), (.int d1)])) _
      refine XS.icmpNo X2.here hx rfl (hb hby d_prog_32_method_5_code_14) rfl (teq hc14_4).2 ?_
      show Steps _ _ _ (T2.setTop (mkF m 17 #[.val (.ref a), .val (.int (1 : Int32)), .val (.int (2 : Int32)), .val (.int (1 : Int32))] [])) _
      refine XS.iinc X2.here hx rfl (hb hby d_prog_32_method_5_code_17) rfl (l' := #[.val (.ref a), .val (.int (1 : Int32)), .val (.int (2 : Int32)), .val (.int (2 : Int32))]) rfl ?_
      show Steps _ _ _ (T2.setTop (mkF m 20 #[.val (.ref a), .val (.int (1 : Int32)), .val (.int (2 : Int32)), .val (.int (2 : Int32))] [])) _
      refine XS.goto X2.here hx rfl (pc0 := 20) (pc' := 2) rfl (hb hby d_prog_32_method_5_code_20) (by decide) (by decide) ?_
      show Steps _ _ _ (T2.setTop (mkF m 2 #[.val (.ref a), .val (.int (1 : Int32)), .val (.int (2 : Int32)), .val (.int (2 : Int32))] [])) _
      refine XS.iloadN X2.here hx rfl (hb hby d_prog_32_method_5_code_2) rfl ?_
      show Steps _ _ _ (T2.setTop (mkF m 3 #[.val (.ref a), .val (.int (1 : Int32)), .val (.int (2 : Int32)), .val (.int (2 : Int32))] [(.int (2 : Int32))])) _
      refine XS.iloadN X2.here hx rfl (hb hby d_prog_32_method_5_code_3) rfl ?_
      show Steps _ _ _ (T2.setTop (mkF m 4 #[.val (.ref a), .val (.int (1 : Int32)), .val (.int (2 : Int32)), .val (.int (2 : Int32))] [(.int (2 : Int32)), (.int (2 : Int32))])) _
      refine XS.icmpYes X2.here hx rfl (pc0 := 4) (pc' := 23) rfl (hb hby d_prog_32_method_5_code_4) rfl (flt (by decide)).2.1 (by decide) (by decide) ?_
      show Steps _ _ _ (T2.setTop (mkF m 23 #[.val (.ref a), .val (.int (1 : Int32)), .val (.int (2 : Int32)), .val (.int (2 : Int32))] [])) _
      refine XS.iloadN X2.here hx rfl (hb hby d_prog_32_method_5_code_23) rfl ?_
      show Steps _ _ _ (T2.setTop (mkF m 24 #[.val (.ref a), .val (.int (1 : Int32)), .val (.int (2 : Int32)), .val (.int (2 : Int32))] [(.int (2 : Int32))])) _
      exact hq)
    have hE := e2
    refine retInt X2 hx hret hlk (by simp) rfl (hb hby d_prog_32_method_5_code_24) k5 ?_ (by decide) (by decide)
    try rw [hE]
    exact ⟨by rw [← hr, if_pos hc14_4], N2, rfl⟩
  · -- pc 14, holds not
    have k6 : To p.tables e below S0 (T2.setTop (mkF m 24 #[.val (.ref a), .val (.int (1 : Int32)), .val (.int (2 : Int32)), .val (.int (1 : Int32))] [(.int (1 : Int32))])) := fun tt hq => k3 tt (by
      show Steps _ _ _ (T2.setTop (mkF m 14 #[.val (.ref a), .val (.int (1 : Int32)), .val (.int (2 : Int32)), .val (.int (1 : Int32))] [(.int (48 : Int32)), (.int d1)])) _
      refine XS.icmpYes X2.here hx rfl (pc0 := 14) (pc' := 23) rfl (hb hby d_prog_32_method_5_code_14) rfl (feq hc14_4).2 (by decide) (by decide) ?_
      show Steps _ _ _ (T2.setTop (mkF m 23 #[.val (.ref a), .val (.int (1 : Int32)), .val (.int (2 : Int32)), .val (.int (1 : Int32))] [])) _
      refine XS.iloadN X2.here hx rfl (hb hby d_prog_32_method_5_code_23) rfl ?_
      show Steps _ _ _ (T2.setTop (mkF m 24 #[.val (.ref a), .val (.int (1 : Int32)), .val (.int (2 : Int32)), .val (.int (1 : Int32))] [(.int (1 : Int32))])) _
      exact hq)
    have hE := e2
    refine retInt X2 hx hret hlk (by simp) rfl (hb hby d_prog_32_method_5_code_24) k6 ?_ (by decide) (by decide)
    try rw [hE]
    exact ⟨by rw [← hr, if_neg hc14_4], N2, rfl⟩
set_option maxRecDepth 65536 in
set_option maxHeartbeats 40000000 in
theorem rm_fwd1_3 (l : Launch) (Z : State) (a0 : Array Value) (hw : ∀ d ∈ tables_1, d.before a0 Z = true) (zc : Int32) (fm : Value) (a : Addr) (t : Addr) (kt : ClassId) (d0 : Int32) (d1 : Int32) (d2 : Int32) (d3 : Int32) (r : Int32) (h0 : Heap) (n0 : Nat) (hn0 : n0 ≤ h0.size) (S_c : Sta Z Z.heap "java/lang/String" "COMPACT_STRINGS" "Z" (.int zc)) (hzc : ¬ zc = (0 : Int32)) (S_f : Sta Z Z.heap "jdk/internal/util/Preconditions" "SIOOBE_FORMATTER" "Ljava/util/function/BiFunction;" fm) (hfm : fm.isRef = true) (O0 : Old Z n0 h0) (P0 : Exa Z h0 a "java/lang/String") (P1 : Fld Z h0 a "java/lang/String" "value" "[B" (.ref t)) (P2 : Fld Z h0 a "java/lang/String" "coder" "B" (.int (0 : Int32))) (P3 : Arv Z h0 t kt .byte (4 : Int32) [(.int (nar .byte (d0.toInt8.toInt32))), (.int (nar .byte (d1.toInt8.toInt32))), (.int (nar .byte (d2.toInt8.toInt32))), (.int (nar .byte (d3.toInt8.toInt32)))] (.int 0)) (hd0 : ¬ d0 < (0 : Int32) ∧ ¬ (255 : Int32) < d0) (hd1 : ¬ d1 < (0 : Int32) ∧ ¬ (255 : Int32) < d1) (hd2 : ¬ d2 < (0 : Int32) ∧ ¬ (255 : Int32) < d2) (hd3 : ¬ d3 < (0 : Int32) ∧ ¬ (255 : Int32) < d3) (hr : (if d1 = (48 : Int32) then (if d2 = (48 : Int32) then (3 : Int32) else (2 : Int32)) else (1 : Int32)) = r) :
    Con l Z (⟨"com/example/apportion/apportion/input/Decimals", "firstWholeDigit", "(Ljava/lang/String;II)I"⟩ : MethodName) prog_32_method_5_code 4 (some .int) [] ({ frames := 4, cells := 0, slots := 0, locals := 53 } : Room) #[(.ref a), (.int (1 : Int32)), (.int (3 : Int32))] h0 (fun v h L => v = some (.int r) ∧ Fr n0 L ∧ h = h0) := by
  refine enter (Ls := #[.val (.ref a), .val (.int (1 : Int32)), .val (.int (3 : Int32)), .unset]) (plainFor_of_name pn_5) (fun m => by exact entry_eq rfl) ?_
  intro p e s m below meth cd_ s₁ S0 hx hby hml hret hlk hnm hown hZ X0 e0 k0
  have N0 := Fr.nil n0
  have k1 : To p.tables e below S0 (s₁.setTop (mkF m 9 #[.val (.ref a), .val (.int (1 : Int32)), .val (.int (3 : Int32)), .val (.int (1 : Int32))] [(.int (1 : Int32)), (.ref a)])) := fun tt hq => k0 tt (by
    show Steps _ _ _ (s₁.setTop (mkF m 0 #[.val (.ref a), .val (.int (1 : Int32)), .val (.int (3 : Int32)), .unset] [])) _
    refine XS.iloadN X0.here hx rfl (hb hby d_prog_32_method_5_code_0) rfl ?_
    show Steps _ _ _ (s₁.setTop (mkF m 1 #[.val (.ref a), .val (.int (1 : Int32)), .val (.int (3 : Int32)), .unset] [(.int (1 : Int32))])) _
    refine XS.istoreN X0.here hx rfl (hb hby d_prog_32_method_5_code_1) rfl (l' := #[.val (.ref a), .val (.int (1 : Int32)), .val (.int (3 : Int32)), .val (.int (1 : Int32))]) rfl ?_
    show Steps _ _ _ (s₁.setTop (mkF m 2 #[.val (.ref a), .val (.int (1 : Int32)), .val (.int (3 : Int32)), .val (.int (1 : Int32))] [])) _
    refine XS.iloadN X0.here hx rfl (hb hby d_prog_32_method_5_code_2) rfl ?_
    show Steps _ _ _ (s₁.setTop (mkF m 3 #[.val (.ref a), .val (.int (1 : Int32)), .val (.int (3 : Int32)), .val (.int (1 : Int32))] [(.int (1 : Int32))])) _
    refine XS.iloadN X0.here hx rfl (hb hby d_prog_32_method_5_code_3) rfl ?_
    show Steps _ _ _ (s₁.setTop (mkF m 4 #[.val (.ref a), .val (.int (1 : Int32)), .val (.int (3 : Int32)), .val (.int (1 : Int32))] [(.int (3 : Int32)), (.int (1 : Int32))])) _
    refine XS.icmpNo X0.here hx rfl (hb hby d_prog_32_method_5_code_4) rfl (tlt (by decide)).2.1 ?_
    show Steps _ _ _ (s₁.setTop (mkF m 7 #[.val (.ref a), .val (.int (1 : Int32)), .val (.int (3 : Int32)), .val (.int (1 : Int32))] [])) _
    refine XS.aloadN X0.here hx rfl (hb hby d_prog_32_method_5_code_7) rfl rfl ?_
    show Steps _ _ _ (s₁.setTop (mkF m 8 #[.val (.ref a), .val (.int (1 : Int32)), .val (.int (3 : Int32)), .val (.int (1 : Int32))] [(.ref a)])) _
    refine XS.iloadN X0.here hx rfl (hb hby d_prog_32_method_5_code_8) rfl ?_
    show Steps _ _ _ (s₁.setTop (mkF m 9 #[.val (.ref a), .val (.int (1 : Int32)), .val (.int (3 : Int32)), .val (.int (1 : Int32))] [(.int (1 : Int32)), (.ref a)])) _
    exact hq)
  obtain ⟨_, T2, L2, X2, ⟨rfl, Nq2, eq2⟩, k2a⟩ := callV' X0 hx hZ (y := (⟨"java/lang/String", "charAt", "(I)C"⟩ : MethodName)) (z := (⟨"java/lang/String", "charAt", "(I)C"⟩ : MethodName)) hown (hw _ (List.mem_of_getElem? (i := 42) rfl)) (hw _ (List.mem_of_getElem? (i := 43) rfl)) (notFace_of_selects (args := #[]) (mvT hZ (hw _ (List.mem_of_getElem? (i := 45) rfl)))) (hw _ (List.mem_of_getElem? (i := 45) rfl)) (hw _ (List.mem_of_getElem? (i := 44) rfl)) (by decide) P0 (backC (W := 0) (rm_ca4_1 l Z a0 hw zc fm a t kt (nar .byte (d0.toInt8.toInt32)) (nar .byte (d1.toInt8.toInt32)) (nar .byte (d2.toInt8.toInt32)) (nar .byte (d3.toInt8.toInt32)) d1 h0 n0 (by omega) S_c hzc S_f hfm O0 P0 P1 P2 P3 (own_b255 hd1)) hZ (hw _ (List.mem_of_getElem? (i := 46) rfl)) (hw _ (List.mem_of_getElem? (i := 7) rfl)) (by decide) (by decide)) e0 (argsL := [(.int (1 : Int32))]) (rest := []) rfl rfl pd_8 rfl (by rw [hml]; rfl) (hb hby d_prog_32_method_5_code_9) (Nat.le_of_eq rfl) (by decide) (by decide) k1
  have k2 : To p.tables e below S0 (T2.setTop (mkF m 12 #[.val (.ref a), .val (.int (1 : Int32)), .val (.int (3 : Int32)), .val (.int (1 : Int32))] [(.int d1)])) := k2a
  have N2 := N0.app Nq2
  have e2 : T2.heap = h0 := eq2
  have k3 : To p.tables e below S0 (T2.setTop (mkF m 14 #[.val (.ref a), .val (.int (1 : Int32)), .val (.int (3 : Int32)), .val (.int (1 : Int32))] [(.int (48 : Int32)), (.int d1)])) := fun tt hq => k2 tt (by
    show Steps _ _ _ (T2.setTop (mkF m 12 #[.val (.ref a), .val (.int (1 : Int32)), .val (.int (3 : Int32)), .val (.int (1 : Int32))] [(.int d1)])) _
    refine XS.bipush X2.here hx rfl (hb hby d_prog_32_method_5_code_12) ?_
    show Steps _ _ _ (T2.setTop (mkF m 14 #[.val (.ref a), .val (.int (1 : Int32)), .val (.int (3 : Int32)), .val (.int (1 : Int32))] [(.int (48 : Int32)), (.int d1)])) _
    exact hq)
  by_cases hc14_4 : d1 = (48 : Int32)
  · -- pc 14, holds
    have k5 : To p.tables e below S0 (T2.setTop (mkF m 9 #[.val (.ref a), .val (.int (1 : Int32)), .val (.int (3 : Int32)), .val (.int (2 : Int32))] [(.int (2 : Int32)), (.ref a)])) := fun tt hq => k3 tt (by
      show Steps _ _ _ (T2.setTop (mkF m 14 #[.val (.ref a), .val (.int (1 : Int32)), .val (.int (3 : Int32)), .val (.int (1 : Int32))] [(.int (48 : Int32)), (.int d1)])) _
      refine XS.icmpNo X2.here hx rfl (hb hby d_prog_32_method_5_code_14) rfl (teq hc14_4).2 ?_
      show Steps _ _ _ (T2.setTop (mkF m 17 #[.val (.ref a), .val (.int (1 : Int32)), .val (.int (3 : Int32)), .val (.int (1 : Int32))] [])) _
      refine XS.iinc X2.here hx rfl (hb hby d_prog_32_method_5_code_17) rfl (l' := #[.val (.ref a), .val (.int (1 : Int32)), .val (.int (3 : Int32)), .val (.int (2 : Int32))]) rfl ?_
      show Steps _ _ _ (T2.setTop (mkF m 20 #[.val (.ref a), .val (.int (1 : Int32)), .val (.int (3 : Int32)), .val (.int (2 : Int32))] [])) _
      refine XS.goto X2.here hx rfl (pc0 := 20) (pc' := 2) rfl (hb hby d_prog_32_method_5_code_20) (by decide) (by decide) ?_
      show Steps _ _ _ (T2.setTop (mkF m 2 #[.val (.ref a), .val (.int (1 : Int32)), .val (.int (3 : Int32)), .val (.int (2 : Int32))] [])) _
      refine XS.iloadN X2.here hx rfl (hb hby d_prog_32_method_5_code_2) rfl ?_
      show Steps _ _ _ (T2.setTop (mkF m 3 #[.val (.ref a), .val (.int (1 : Int32)), .val (.int (3 : Int32)), .val (.int (2 : Int32))] [(.int (2 : Int32))])) _
      refine XS.iloadN X2.here hx rfl (hb hby d_prog_32_method_5_code_3) rfl ?_
      show Steps _ _ _ (T2.setTop (mkF m 4 #[.val (.ref a), .val (.int (1 : Int32)), .val (.int (3 : Int32)), .val (.int (2 : Int32))] [(.int (3 : Int32)), (.int (2 : Int32))])) _
      refine XS.icmpNo X2.here hx rfl (hb hby d_prog_32_method_5_code_4) rfl (tlt (by decide)).2.1 ?_
      show Steps _ _ _ (T2.setTop (mkF m 7 #[.val (.ref a), .val (.int (1 : Int32)), .val (.int (3 : Int32)), .val (.int (2 : Int32))] [])) _
      refine XS.aloadN X2.here hx rfl (hb hby d_prog_32_method_5_code_7) rfl rfl ?_
      show Steps _ _ _ (T2.setTop (mkF m 8 #[.val (.ref a), .val (.int (1 : Int32)), .val (.int (3 : Int32)), .val (.int (2 : Int32))] [(.ref a)])) _
      refine XS.iloadN X2.here hx rfl (hb hby d_prog_32_method_5_code_8) rfl ?_
      show Steps _ _ _ (T2.setTop (mkF m 9 #[.val (.ref a), .val (.int (1 : Int32)), .val (.int (3 : Int32)), .val (.int (2 : Int32))] [(.int (2 : Int32)), (.ref a)])) _
      exact hq)
    obtain ⟨_, T6, L6, X6, ⟨rfl, Nq6, eq6⟩, k6a⟩ := callV' X2 hx hZ (y := (⟨"java/lang/String", "charAt", "(I)C"⟩ : MethodName)) (z := (⟨"java/lang/String", "charAt", "(I)C"⟩ : MethodName)) hown (hw _ (List.mem_of_getElem? (i := 42) rfl)) (hw _ (List.mem_of_getElem? (i := 43) rfl)) (notFace_of_selects (args := #[]) (mvT hZ (hw _ (List.mem_of_getElem? (i := 45) rfl)))) (hw _ (List.mem_of_getElem? (i := 45) rfl)) (hw _ (List.mem_of_getElem? (i := 44) rfl)) (by decide) P0 (backC (W := 0) (rm_ca4_2 l Z a0 hw zc fm a t kt (nar .byte (d0.toInt8.toInt32)) (nar .byte (d1.toInt8.toInt32)) (nar .byte (d2.toInt8.toInt32)) (nar .byte (d3.toInt8.toInt32)) d2 h0 n0 (by omega) S_c hzc S_f hfm O0 P0 P1 P2 P3 (own_b255 hd2)) hZ (hw _ (List.mem_of_getElem? (i := 46) rfl)) (hw _ (List.mem_of_getElem? (i := 7) rfl)) (by decide) (by decide)) e2 (argsL := [(.int (2 : Int32))]) (rest := []) rfl rfl pd_8 rfl (by rw [hml]; rfl) (hb hby d_prog_32_method_5_code_9) (Nat.le_of_eq rfl) (by decide) (by decide) k5
    have k6 : To p.tables e below S0 (T6.setTop (mkF m 12 #[.val (.ref a), .val (.int (1 : Int32)), .val (.int (3 : Int32)), .val (.int (2 : Int32))] [(.int d2)])) := k6a
    have N6 := N2.app Nq6
    have e6 : T6.heap = h0 := eq6
    have k7 : To p.tables e below S0 (T6.setTop (mkF m 14 #[.val (.ref a), .val (.int (1 : Int32)), .val (.int (3 : Int32)), .val (.int (2 : Int32))] [(.int (48 : Int32)), (.int d2)])) := fun tt hq => k6 tt (by
      show Steps _ _ _ (T6.setTop (mkF m 12 #[.val (.ref a), .val (.int (1 : Int32)), .val (.int (3 : Int32)), .val (.int (2 : Int32))] [(.int d2)])) _
      refine XS.bipush X6.here hx rfl (hb hby d_prog_32_method_5_code_12) ?_
      show Steps _ _ _ (T6.setTop (mkF m 14 #[.val (.ref a), .val (.int (1 : Int32)), .val (.int (3 : Int32)), .val (.int (2 : Int32))] [(.int (48 : Int32)), (.int d2)])) _
      exact hq)
    by_cases hc14_8 : d2 = (48 : Int32)
    · -- pc 14, holds
      have k9 : To p.tables e below S0 (T6.setTop (mkF m 24 #[.val (.ref a), .val (.int (1 : Int32)), .val (.int (3 : Int32)), .val (.int (3 : Int32))] [(.int (3 : Int32))])) := fun tt hq => k7 tt (by
        show Steps _ _ _ (T6.setTop (mkF m 14 #[.val (.ref a), .val (.int (1 : Int32)), .val (.int (3 : Int32)), .val (.int (2 : Int32))] [(.int (48 : Int32)), (.int d2)])) _
        refine XS.icmpNo X6.here hx rfl (hb hby d_prog_32_method_5_code_14) rfl (teq hc14_8).2 ?_
        show Steps _ _ _ (T6.setTop (mkF m 17 #[.val (.ref a), .val (.int (1 : Int32)), .val (.int (3 : Int32)), .val (.int (2 : Int32))] [])) _
        refine XS.iinc X6.here hx rfl (hb hby d_prog_32_method_5_code_17) rfl (l' := #[.val (.ref a), .val (.int (1 : Int32)), .val (.int (3 : Int32)), .val (.int (3 : Int32))]) rfl ?_
        show Steps _ _ _ (T6.setTop (mkF m 20 #[.val (.ref a), .val (.int (1 : Int32)), .val (.int (3 : Int32)), .val (.int (3 : Int32))] [])) _
        refine XS.goto X6.here hx rfl (pc0 := 20) (pc' := 2) rfl (hb hby d_prog_32_method_5_code_20) (by decide) (by decide) ?_
        show Steps _ _ _ (T6.setTop (mkF m 2 #[.val (.ref a), .val (.int (1 : Int32)), .val (.int (3 : Int32)), .val (.int (3 : Int32))] [])) _
        refine XS.iloadN X6.here hx rfl (hb hby d_prog_32_method_5_code_2) rfl ?_
        show Steps _ _ _ (T6.setTop (mkF m 3 #[.val (.ref a), .val (.int (1 : Int32)), .val (.int (3 : Int32)), .val (.int (3 : Int32))] [(.int (3 : Int32))])) _
        refine XS.iloadN X6.here hx rfl (hb hby d_prog_32_method_5_code_3) rfl ?_
        show Steps _ _ _ (T6.setTop (mkF m 4 #[.val (.ref a), .val (.int (1 : Int32)), .val (.int (3 : Int32)), .val (.int (3 : Int32))] [(.int (3 : Int32)), (.int (3 : Int32))])) _
        refine XS.icmpYes X6.here hx rfl (pc0 := 4) (pc' := 23) rfl (hb hby d_prog_32_method_5_code_4) rfl (flt (by decide)).2.1 (by decide) (by decide) ?_
        show Steps _ _ _ (T6.setTop (mkF m 23 #[.val (.ref a), .val (.int (1 : Int32)), .val (.int (3 : Int32)), .val (.int (3 : Int32))] [])) _
        refine XS.iloadN X6.here hx rfl (hb hby d_prog_32_method_5_code_23) rfl ?_
        show Steps _ _ _ (T6.setTop (mkF m 24 #[.val (.ref a), .val (.int (1 : Int32)), .val (.int (3 : Int32)), .val (.int (3 : Int32))] [(.int (3 : Int32))])) _
        exact hq)
      have hE := e6
      refine retInt X6 hx hret hlk (by simp) rfl (hb hby d_prog_32_method_5_code_24) k9 ?_ (by decide) (by decide)
      try rw [hE]
      exact ⟨by rw [← hr, if_pos hc14_4, if_pos hc14_8], N6, rfl⟩
    · -- pc 14, holds not
      have k10 : To p.tables e below S0 (T6.setTop (mkF m 24 #[.val (.ref a), .val (.int (1 : Int32)), .val (.int (3 : Int32)), .val (.int (2 : Int32))] [(.int (2 : Int32))])) := fun tt hq => k7 tt (by
        show Steps _ _ _ (T6.setTop (mkF m 14 #[.val (.ref a), .val (.int (1 : Int32)), .val (.int (3 : Int32)), .val (.int (2 : Int32))] [(.int (48 : Int32)), (.int d2)])) _
        refine XS.icmpYes X6.here hx rfl (pc0 := 14) (pc' := 23) rfl (hb hby d_prog_32_method_5_code_14) rfl (feq hc14_8).2 (by decide) (by decide) ?_
        show Steps _ _ _ (T6.setTop (mkF m 23 #[.val (.ref a), .val (.int (1 : Int32)), .val (.int (3 : Int32)), .val (.int (2 : Int32))] [])) _
        refine XS.iloadN X6.here hx rfl (hb hby d_prog_32_method_5_code_23) rfl ?_
        show Steps _ _ _ (T6.setTop (mkF m 24 #[.val (.ref a), .val (.int (1 : Int32)), .val (.int (3 : Int32)), .val (.int (2 : Int32))] [(.int (2 : Int32))])) _
        exact hq)
      have hE := e6
      refine retInt X6 hx hret hlk (by simp) rfl (hb hby d_prog_32_method_5_code_24) k10 ?_ (by decide) (by decide)
      try rw [hE]
      exact ⟨by rw [← hr, if_pos hc14_4, if_neg hc14_8], N6, rfl⟩
  · -- pc 14, holds not
    have k11 : To p.tables e below S0 (T2.setTop (mkF m 24 #[.val (.ref a), .val (.int (1 : Int32)), .val (.int (3 : Int32)), .val (.int (1 : Int32))] [(.int (1 : Int32))])) := fun tt hq => k3 tt (by
      show Steps _ _ _ (T2.setTop (mkF m 14 #[.val (.ref a), .val (.int (1 : Int32)), .val (.int (3 : Int32)), .val (.int (1 : Int32))] [(.int (48 : Int32)), (.int d1)])) _
      refine XS.icmpYes X2.here hx rfl (pc0 := 14) (pc' := 23) rfl (hb hby d_prog_32_method_5_code_14) rfl (feq hc14_4).2 (by decide) (by decide) ?_
      show Steps _ _ _ (T2.setTop (mkF m 23 #[.val (.ref a), .val (.int (1 : Int32)), .val (.int (3 : Int32)), .val (.int (1 : Int32))] [])) _
      refine XS.iloadN X2.here hx rfl (hb hby d_prog_32_method_5_code_23) rfl ?_
      show Steps _ _ _ (T2.setTop (mkF m 24 #[.val (.ref a), .val (.int (1 : Int32)), .val (.int (3 : Int32)), .val (.int (1 : Int32))] [(.int (1 : Int32))])) _
      exact hq)
    have hE := e2
    refine retInt X2 hx hret hlk (by simp) rfl (hb hby d_prog_32_method_5_code_24) k11 ?_ (by decide) (by decide)
    try rw [hE]
    exact ⟨by rw [← hr, if_neg hc14_4], N2, rfl⟩
set_option maxRecDepth 65536 in
set_option maxHeartbeats 40000000 in
theorem rm_fwd1_4 (l : Launch) (Z : State) (a0 : Array Value) (hw : ∀ d ∈ tables_1, d.before a0 Z = true) (zc : Int32) (fm : Value) (a : Addr) (t : Addr) (kt : ClassId) (d0 : Int32) (d1 : Int32) (d2 : Int32) (d3 : Int32) (r : Int32) (h0 : Heap) (n0 : Nat) (hn0 : n0 ≤ h0.size) (S_c : Sta Z Z.heap "java/lang/String" "COMPACT_STRINGS" "Z" (.int zc)) (hzc : ¬ zc = (0 : Int32)) (S_f : Sta Z Z.heap "jdk/internal/util/Preconditions" "SIOOBE_FORMATTER" "Ljava/util/function/BiFunction;" fm) (hfm : fm.isRef = true) (O0 : Old Z n0 h0) (P0 : Exa Z h0 a "java/lang/String") (P1 : Fld Z h0 a "java/lang/String" "value" "[B" (.ref t)) (P2 : Fld Z h0 a "java/lang/String" "coder" "B" (.int (0 : Int32))) (P3 : Arv Z h0 t kt .byte (4 : Int32) [(.int (nar .byte (d0.toInt8.toInt32))), (.int (nar .byte (d1.toInt8.toInt32))), (.int (nar .byte (d2.toInt8.toInt32))), (.int (nar .byte (d3.toInt8.toInt32)))] (.int 0)) (hd0 : ¬ d0 < (0 : Int32) ∧ ¬ (255 : Int32) < d0) (hd1 : ¬ d1 < (0 : Int32) ∧ ¬ (255 : Int32) < d1) (hd2 : ¬ d2 < (0 : Int32) ∧ ¬ (255 : Int32) < d2) (hd3 : ¬ d3 < (0 : Int32) ∧ ¬ (255 : Int32) < d3) (hr : (if d1 = (48 : Int32) then (if d2 = (48 : Int32) then (if d3 = (48 : Int32) then (4 : Int32) else (3 : Int32)) else (2 : Int32)) else (1 : Int32)) = r) :
    Con l Z (⟨"com/example/apportion/apportion/input/Decimals", "firstWholeDigit", "(Ljava/lang/String;II)I"⟩ : MethodName) prog_32_method_5_code 4 (some .int) [] ({ frames := 4, cells := 0, slots := 0, locals := 53 } : Room) #[(.ref a), (.int (1 : Int32)), (.int (4 : Int32))] h0 (fun v h L => v = some (.int r) ∧ Fr n0 L ∧ h = h0) := by
  refine enter (Ls := #[.val (.ref a), .val (.int (1 : Int32)), .val (.int (4 : Int32)), .unset]) (plainFor_of_name pn_5) (fun m => by exact entry_eq rfl) ?_
  intro p e s m below meth cd_ s₁ S0 hx hby hml hret hlk hnm hown hZ X0 e0 k0
  have N0 := Fr.nil n0
  have k1 : To p.tables e below S0 (s₁.setTop (mkF m 9 #[.val (.ref a), .val (.int (1 : Int32)), .val (.int (4 : Int32)), .val (.int (1 : Int32))] [(.int (1 : Int32)), (.ref a)])) := fun tt hq => k0 tt (by
    show Steps _ _ _ (s₁.setTop (mkF m 0 #[.val (.ref a), .val (.int (1 : Int32)), .val (.int (4 : Int32)), .unset] [])) _
    refine XS.iloadN X0.here hx rfl (hb hby d_prog_32_method_5_code_0) rfl ?_
    show Steps _ _ _ (s₁.setTop (mkF m 1 #[.val (.ref a), .val (.int (1 : Int32)), .val (.int (4 : Int32)), .unset] [(.int (1 : Int32))])) _
    refine XS.istoreN X0.here hx rfl (hb hby d_prog_32_method_5_code_1) rfl (l' := #[.val (.ref a), .val (.int (1 : Int32)), .val (.int (4 : Int32)), .val (.int (1 : Int32))]) rfl ?_
    show Steps _ _ _ (s₁.setTop (mkF m 2 #[.val (.ref a), .val (.int (1 : Int32)), .val (.int (4 : Int32)), .val (.int (1 : Int32))] [])) _
    refine XS.iloadN X0.here hx rfl (hb hby d_prog_32_method_5_code_2) rfl ?_
    show Steps _ _ _ (s₁.setTop (mkF m 3 #[.val (.ref a), .val (.int (1 : Int32)), .val (.int (4 : Int32)), .val (.int (1 : Int32))] [(.int (1 : Int32))])) _
    refine XS.iloadN X0.here hx rfl (hb hby d_prog_32_method_5_code_3) rfl ?_
    show Steps _ _ _ (s₁.setTop (mkF m 4 #[.val (.ref a), .val (.int (1 : Int32)), .val (.int (4 : Int32)), .val (.int (1 : Int32))] [(.int (4 : Int32)), (.int (1 : Int32))])) _
    refine XS.icmpNo X0.here hx rfl (hb hby d_prog_32_method_5_code_4) rfl (tlt (by decide)).2.1 ?_
    show Steps _ _ _ (s₁.setTop (mkF m 7 #[.val (.ref a), .val (.int (1 : Int32)), .val (.int (4 : Int32)), .val (.int (1 : Int32))] [])) _
    refine XS.aloadN X0.here hx rfl (hb hby d_prog_32_method_5_code_7) rfl rfl ?_
    show Steps _ _ _ (s₁.setTop (mkF m 8 #[.val (.ref a), .val (.int (1 : Int32)), .val (.int (4 : Int32)), .val (.int (1 : Int32))] [(.ref a)])) _
    refine XS.iloadN X0.here hx rfl (hb hby d_prog_32_method_5_code_8) rfl ?_
    show Steps _ _ _ (s₁.setTop (mkF m 9 #[.val (.ref a), .val (.int (1 : Int32)), .val (.int (4 : Int32)), .val (.int (1 : Int32))] [(.int (1 : Int32)), (.ref a)])) _
    exact hq)
  obtain ⟨_, T2, L2, X2, ⟨rfl, Nq2, eq2⟩, k2a⟩ := callV' X0 hx hZ (y := (⟨"java/lang/String", "charAt", "(I)C"⟩ : MethodName)) (z := (⟨"java/lang/String", "charAt", "(I)C"⟩ : MethodName)) hown (hw _ (List.mem_of_getElem? (i := 42) rfl)) (hw _ (List.mem_of_getElem? (i := 43) rfl)) (notFace_of_selects (args := #[]) (mvT hZ (hw _ (List.mem_of_getElem? (i := 45) rfl)))) (hw _ (List.mem_of_getElem? (i := 45) rfl)) (hw _ (List.mem_of_getElem? (i := 44) rfl)) (by decide) P0 (backC (W := 0) (rm_ca4_1 l Z a0 hw zc fm a t kt (nar .byte (d0.toInt8.toInt32)) (nar .byte (d1.toInt8.toInt32)) (nar .byte (d2.toInt8.toInt32)) (nar .byte (d3.toInt8.toInt32)) d1 h0 n0 (by omega) S_c hzc S_f hfm O0 P0 P1 P2 P3 (own_b255 hd1)) hZ (hw _ (List.mem_of_getElem? (i := 46) rfl)) (hw _ (List.mem_of_getElem? (i := 7) rfl)) (by decide) (by decide)) e0 (argsL := [(.int (1 : Int32))]) (rest := []) rfl rfl pd_8 rfl (by rw [hml]; rfl) (hb hby d_prog_32_method_5_code_9) (Nat.le_of_eq rfl) (by decide) (by decide) k1
  have k2 : To p.tables e below S0 (T2.setTop (mkF m 12 #[.val (.ref a), .val (.int (1 : Int32)), .val (.int (4 : Int32)), .val (.int (1 : Int32))] [(.int d1)])) := k2a
  have N2 := N0.app Nq2
  have e2 : T2.heap = h0 := eq2
  have k3 : To p.tables e below S0 (T2.setTop (mkF m 14 #[.val (.ref a), .val (.int (1 : Int32)), .val (.int (4 : Int32)), .val (.int (1 : Int32))] [(.int (48 : Int32)), (.int d1)])) := fun tt hq => k2 tt (by
    show Steps _ _ _ (T2.setTop (mkF m 12 #[.val (.ref a), .val (.int (1 : Int32)), .val (.int (4 : Int32)), .val (.int (1 : Int32))] [(.int d1)])) _
    refine XS.bipush X2.here hx rfl (hb hby d_prog_32_method_5_code_12) ?_
    show Steps _ _ _ (T2.setTop (mkF m 14 #[.val (.ref a), .val (.int (1 : Int32)), .val (.int (4 : Int32)), .val (.int (1 : Int32))] [(.int (48 : Int32)), (.int d1)])) _
    exact hq)
  by_cases hc14_4 : d1 = (48 : Int32)
  · -- pc 14, holds
    have k5 : To p.tables e below S0 (T2.setTop (mkF m 9 #[.val (.ref a), .val (.int (1 : Int32)), .val (.int (4 : Int32)), .val (.int (2 : Int32))] [(.int (2 : Int32)), (.ref a)])) := fun tt hq => k3 tt (by
      show Steps _ _ _ (T2.setTop (mkF m 14 #[.val (.ref a), .val (.int (1 : Int32)), .val (.int (4 : Int32)), .val (.int (1 : Int32))] [(.int (48 : Int32)), (.int d1)])) _
      refine XS.icmpNo X2.here hx rfl (hb hby d_prog_32_method_5_code_14) rfl (teq hc14_4).2 ?_
      show Steps _ _ _ (T2.setTop (mkF m 17 #[.val (.ref a), .val (.int (1 : Int32)), .val (.int (4 : Int32)), .val (.int (1 : Int32))] [])) _
      refine XS.iinc X2.here hx rfl (hb hby d_prog_32_method_5_code_17) rfl (l' := #[.val (.ref a), .val (.int (1 : Int32)), .val (.int (4 : Int32)), .val (.int (2 : Int32))]) rfl ?_
      show Steps _ _ _ (T2.setTop (mkF m 20 #[.val (.ref a), .val (.int (1 : Int32)), .val (.int (4 : Int32)), .val (.int (2 : Int32))] [])) _
      refine XS.goto X2.here hx rfl (pc0 := 20) (pc' := 2) rfl (hb hby d_prog_32_method_5_code_20) (by decide) (by decide) ?_
      show Steps _ _ _ (T2.setTop (mkF m 2 #[.val (.ref a), .val (.int (1 : Int32)), .val (.int (4 : Int32)), .val (.int (2 : Int32))] [])) _
      refine XS.iloadN X2.here hx rfl (hb hby d_prog_32_method_5_code_2) rfl ?_
      show Steps _ _ _ (T2.setTop (mkF m 3 #[.val (.ref a), .val (.int (1 : Int32)), .val (.int (4 : Int32)), .val (.int (2 : Int32))] [(.int (2 : Int32))])) _
      refine XS.iloadN X2.here hx rfl (hb hby d_prog_32_method_5_code_3) rfl ?_
      show Steps _ _ _ (T2.setTop (mkF m 4 #[.val (.ref a), .val (.int (1 : Int32)), .val (.int (4 : Int32)), .val (.int (2 : Int32))] [(.int (4 : Int32)), (.int (2 : Int32))])) _
      refine XS.icmpNo X2.here hx rfl (hb hby d_prog_32_method_5_code_4) rfl (tlt (by decide)).2.1 ?_
      show Steps _ _ _ (T2.setTop (mkF m 7 #[.val (.ref a), .val (.int (1 : Int32)), .val (.int (4 : Int32)), .val (.int (2 : Int32))] [])) _
      refine XS.aloadN X2.here hx rfl (hb hby d_prog_32_method_5_code_7) rfl rfl ?_
      show Steps _ _ _ (T2.setTop (mkF m 8 #[.val (.ref a), .val (.int (1 : Int32)), .val (.int (4 : Int32)), .val (.int (2 : Int32))] [(.ref a)])) _
      refine XS.iloadN X2.here hx rfl (hb hby d_prog_32_method_5_code_8) rfl ?_
      show Steps _ _ _ (T2.setTop (mkF m 9 #[.val (.ref a), .val (.int (1 : Int32)), .val (.int (4 : Int32)), .val (.int (2 : Int32))] [(.int (2 : Int32)), (.ref a)])) _
      exact hq)
    obtain ⟨_, T6, L6, X6, ⟨rfl, Nq6, eq6⟩, k6a⟩ := callV' X2 hx hZ (y := (⟨"java/lang/String", "charAt", "(I)C"⟩ : MethodName)) (z := (⟨"java/lang/String", "charAt", "(I)C"⟩ : MethodName)) hown (hw _ (List.mem_of_getElem? (i := 42) rfl)) (hw _ (List.mem_of_getElem? (i := 43) rfl)) (notFace_of_selects (args := #[]) (mvT hZ (hw _ (List.mem_of_getElem? (i := 45) rfl)))) (hw _ (List.mem_of_getElem? (i := 45) rfl)) (hw _ (List.mem_of_getElem? (i := 44) rfl)) (by decide) P0 (backC (W := 0) (rm_ca4_2 l Z a0 hw zc fm a t kt (nar .byte (d0.toInt8.toInt32)) (nar .byte (d1.toInt8.toInt32)) (nar .byte (d2.toInt8.toInt32)) (nar .byte (d3.toInt8.toInt32)) d2 h0 n0 (by omega) S_c hzc S_f hfm O0 P0 P1 P2 P3 (own_b255 hd2)) hZ (hw _ (List.mem_of_getElem? (i := 46) rfl)) (hw _ (List.mem_of_getElem? (i := 7) rfl)) (by decide) (by decide)) e2 (argsL := [(.int (2 : Int32))]) (rest := []) rfl rfl pd_8 rfl (by rw [hml]; rfl) (hb hby d_prog_32_method_5_code_9) (Nat.le_of_eq rfl) (by decide) (by decide) k5
    have k6 : To p.tables e below S0 (T6.setTop (mkF m 12 #[.val (.ref a), .val (.int (1 : Int32)), .val (.int (4 : Int32)), .val (.int (2 : Int32))] [(.int d2)])) := k6a
    have N6 := N2.app Nq6
    have e6 : T6.heap = h0 := eq6
    have k7 : To p.tables e below S0 (T6.setTop (mkF m 14 #[.val (.ref a), .val (.int (1 : Int32)), .val (.int (4 : Int32)), .val (.int (2 : Int32))] [(.int (48 : Int32)), (.int d2)])) := fun tt hq => k6 tt (by
      show Steps _ _ _ (T6.setTop (mkF m 12 #[.val (.ref a), .val (.int (1 : Int32)), .val (.int (4 : Int32)), .val (.int (2 : Int32))] [(.int d2)])) _
      refine XS.bipush X6.here hx rfl (hb hby d_prog_32_method_5_code_12) ?_
      show Steps _ _ _ (T6.setTop (mkF m 14 #[.val (.ref a), .val (.int (1 : Int32)), .val (.int (4 : Int32)), .val (.int (2 : Int32))] [(.int (48 : Int32)), (.int d2)])) _
      exact hq)
    by_cases hc14_8 : d2 = (48 : Int32)
    · -- pc 14, holds
      have k9 : To p.tables e below S0 (T6.setTop (mkF m 9 #[.val (.ref a), .val (.int (1 : Int32)), .val (.int (4 : Int32)), .val (.int (3 : Int32))] [(.int (3 : Int32)), (.ref a)])) := fun tt hq => k7 tt (by
        show Steps _ _ _ (T6.setTop (mkF m 14 #[.val (.ref a), .val (.int (1 : Int32)), .val (.int (4 : Int32)), .val (.int (2 : Int32))] [(.int (48 : Int32)), (.int d2)])) _
        refine XS.icmpNo X6.here hx rfl (hb hby d_prog_32_method_5_code_14) rfl (teq hc14_8).2 ?_
        show Steps _ _ _ (T6.setTop (mkF m 17 #[.val (.ref a), .val (.int (1 : Int32)), .val (.int (4 : Int32)), .val (.int (2 : Int32))] [])) _
        refine XS.iinc X6.here hx rfl (hb hby d_prog_32_method_5_code_17) rfl (l' := #[.val (.ref a), .val (.int (1 : Int32)), .val (.int (4 : Int32)), .val (.int (3 : Int32))]) rfl ?_
        show Steps _ _ _ (T6.setTop (mkF m 20 #[.val (.ref a), .val (.int (1 : Int32)), .val (.int (4 : Int32)), .val (.int (3 : Int32))] [])) _
        refine XS.goto X6.here hx rfl (pc0 := 20) (pc' := 2) rfl (hb hby d_prog_32_method_5_code_20) (by decide) (by decide) ?_
        show Steps _ _ _ (T6.setTop (mkF m 2 #[.val (.ref a), .val (.int (1 : Int32)), .val (.int (4 : Int32)), .val (.int (3 : Int32))] [])) _
        refine XS.iloadN X6.here hx rfl (hb hby d_prog_32_method_5_code_2) rfl ?_
        show Steps _ _ _ (T6.setTop (mkF m 3 #[.val (.ref a), .val (.int (1 : Int32)), .val (.int (4 : Int32)), .val (.int (3 : Int32))] [(.int (3 : Int32))])) _
        refine XS.iloadN X6.here hx rfl (hb hby d_prog_32_method_5_code_3) rfl ?_
        show Steps _ _ _ (T6.setTop (mkF m 4 #[.val (.ref a), .val (.int (1 : Int32)), .val (.int (4 : Int32)), .val (.int (3 : Int32))] [(.int (4 : Int32)), (.int (3 : Int32))])) _
        refine XS.icmpNo X6.here hx rfl (hb hby d_prog_32_method_5_code_4) rfl (tlt (by decide)).2.1 ?_
        show Steps _ _ _ (T6.setTop (mkF m 7 #[.val (.ref a), .val (.int (1 : Int32)), .val (.int (4 : Int32)), .val (.int (3 : Int32))] [])) _
        refine XS.aloadN X6.here hx rfl (hb hby d_prog_32_method_5_code_7) rfl rfl ?_
        show Steps _ _ _ (T6.setTop (mkF m 8 #[.val (.ref a), .val (.int (1 : Int32)), .val (.int (4 : Int32)), .val (.int (3 : Int32))] [(.ref a)])) _
        refine XS.iloadN X6.here hx rfl (hb hby d_prog_32_method_5_code_8) rfl ?_
        show Steps _ _ _ (T6.setTop (mkF m 9 #[.val (.ref a), .val (.int (1 : Int32)), .val (.int (4 : Int32)), .val (.int (3 : Int32))] [(.int (3 : Int32)), (.ref a)])) _
        exact hq)
      obtain ⟨_, T10, L10, X10, ⟨rfl, Nq10, eq10⟩, k10a⟩ := callV' X6 hx hZ (y := (⟨"java/lang/String", "charAt", "(I)C"⟩ : MethodName)) (z := (⟨"java/lang/String", "charAt", "(I)C"⟩ : MethodName)) hown (hw _ (List.mem_of_getElem? (i := 42) rfl)) (hw _ (List.mem_of_getElem? (i := 43) rfl)) (notFace_of_selects (args := #[]) (mvT hZ (hw _ (List.mem_of_getElem? (i := 45) rfl)))) (hw _ (List.mem_of_getElem? (i := 45) rfl)) (hw _ (List.mem_of_getElem? (i := 44) rfl)) (by decide) P0 (backC (W := 0) (rm_ca4_3 l Z a0 hw zc fm a t kt (nar .byte (d0.toInt8.toInt32)) (nar .byte (d1.toInt8.toInt32)) (nar .byte (d2.toInt8.toInt32)) (nar .byte (d3.toInt8.toInt32)) d3 h0 n0 (by omega) S_c hzc S_f hfm O0 P0 P1 P2 P3 (own_b255 hd3)) hZ (hw _ (List.mem_of_getElem? (i := 46) rfl)) (hw _ (List.mem_of_getElem? (i := 7) rfl)) (by decide) (by decide)) e6 (argsL := [(.int (3 : Int32))]) (rest := []) rfl rfl pd_8 rfl (by rw [hml]; rfl) (hb hby d_prog_32_method_5_code_9) (Nat.le_of_eq rfl) (by decide) (by decide) k9
      have k10 : To p.tables e below S0 (T10.setTop (mkF m 12 #[.val (.ref a), .val (.int (1 : Int32)), .val (.int (4 : Int32)), .val (.int (3 : Int32))] [(.int d3)])) := k10a
      have N10 := N6.app Nq10
      have e10 : T10.heap = h0 := eq10
      have k11 : To p.tables e below S0 (T10.setTop (mkF m 14 #[.val (.ref a), .val (.int (1 : Int32)), .val (.int (4 : Int32)), .val (.int (3 : Int32))] [(.int (48 : Int32)), (.int d3)])) := fun tt hq => k10 tt (by
        show Steps _ _ _ (T10.setTop (mkF m 12 #[.val (.ref a), .val (.int (1 : Int32)), .val (.int (4 : Int32)), .val (.int (3 : Int32))] [(.int d3)])) _
        refine XS.bipush X10.here hx rfl (hb hby d_prog_32_method_5_code_12) ?_
        show Steps _ _ _ (T10.setTop (mkF m 14 #[.val (.ref a), .val (.int (1 : Int32)), .val (.int (4 : Int32)), .val (.int (3 : Int32))] [(.int (48 : Int32)), (.int d3)])) _
        exact hq)
      by_cases hc14_12 : d3 = (48 : Int32)
      · -- pc 14, holds
        have k13 : To p.tables e below S0 (T10.setTop (mkF m 24 #[.val (.ref a), .val (.int (1 : Int32)), .val (.int (4 : Int32)), .val (.int (4 : Int32))] [(.int (4 : Int32))])) := fun tt hq => k11 tt (by
          show Steps _ _ _ (T10.setTop (mkF m 14 #[.val (.ref a), .val (.int (1 : Int32)), .val (.int (4 : Int32)), .val (.int (3 : Int32))] [(.int (48 : Int32)), (.int d3)])) _
          refine XS.icmpNo X10.here hx rfl (hb hby d_prog_32_method_5_code_14) rfl (teq hc14_12).2 ?_
          show Steps _ _ _ (T10.setTop (mkF m 17 #[.val (.ref a), .val (.int (1 : Int32)), .val (.int (4 : Int32)), .val (.int (3 : Int32))] [])) _
          refine XS.iinc X10.here hx rfl (hb hby d_prog_32_method_5_code_17) rfl (l' := #[.val (.ref a), .val (.int (1 : Int32)), .val (.int (4 : Int32)), .val (.int (4 : Int32))]) rfl ?_
          show Steps _ _ _ (T10.setTop (mkF m 20 #[.val (.ref a), .val (.int (1 : Int32)), .val (.int (4 : Int32)), .val (.int (4 : Int32))] [])) _
          refine XS.goto X10.here hx rfl (pc0 := 20) (pc' := 2) rfl (hb hby d_prog_32_method_5_code_20) (by decide) (by decide) ?_
          show Steps _ _ _ (T10.setTop (mkF m 2 #[.val (.ref a), .val (.int (1 : Int32)), .val (.int (4 : Int32)), .val (.int (4 : Int32))] [])) _
          refine XS.iloadN X10.here hx rfl (hb hby d_prog_32_method_5_code_2) rfl ?_
          show Steps _ _ _ (T10.setTop (mkF m 3 #[.val (.ref a), .val (.int (1 : Int32)), .val (.int (4 : Int32)), .val (.int (4 : Int32))] [(.int (4 : Int32))])) _
          refine XS.iloadN X10.here hx rfl (hb hby d_prog_32_method_5_code_3) rfl ?_
          show Steps _ _ _ (T10.setTop (mkF m 4 #[.val (.ref a), .val (.int (1 : Int32)), .val (.int (4 : Int32)), .val (.int (4 : Int32))] [(.int (4 : Int32)), (.int (4 : Int32))])) _
          refine XS.icmpYes X10.here hx rfl (pc0 := 4) (pc' := 23) rfl (hb hby d_prog_32_method_5_code_4) rfl (flt (by decide)).2.1 (by decide) (by decide) ?_
          show Steps _ _ _ (T10.setTop (mkF m 23 #[.val (.ref a), .val (.int (1 : Int32)), .val (.int (4 : Int32)), .val (.int (4 : Int32))] [])) _
          refine XS.iloadN X10.here hx rfl (hb hby d_prog_32_method_5_code_23) rfl ?_
          show Steps _ _ _ (T10.setTop (mkF m 24 #[.val (.ref a), .val (.int (1 : Int32)), .val (.int (4 : Int32)), .val (.int (4 : Int32))] [(.int (4 : Int32))])) _
          exact hq)
        have hE := e10
        refine retInt X10 hx hret hlk (by simp) rfl (hb hby d_prog_32_method_5_code_24) k13 ?_ (by decide) (by decide)
        try rw [hE]
        exact ⟨by rw [← hr, if_pos hc14_4, if_pos hc14_8, if_pos hc14_12], N10, rfl⟩
      · -- pc 14, holds not
        have k14 : To p.tables e below S0 (T10.setTop (mkF m 24 #[.val (.ref a), .val (.int (1 : Int32)), .val (.int (4 : Int32)), .val (.int (3 : Int32))] [(.int (3 : Int32))])) := fun tt hq => k11 tt (by
          show Steps _ _ _ (T10.setTop (mkF m 14 #[.val (.ref a), .val (.int (1 : Int32)), .val (.int (4 : Int32)), .val (.int (3 : Int32))] [(.int (48 : Int32)), (.int d3)])) _
          refine XS.icmpYes X10.here hx rfl (pc0 := 14) (pc' := 23) rfl (hb hby d_prog_32_method_5_code_14) rfl (feq hc14_12).2 (by decide) (by decide) ?_
          show Steps _ _ _ (T10.setTop (mkF m 23 #[.val (.ref a), .val (.int (1 : Int32)), .val (.int (4 : Int32)), .val (.int (3 : Int32))] [])) _
          refine XS.iloadN X10.here hx rfl (hb hby d_prog_32_method_5_code_23) rfl ?_
          show Steps _ _ _ (T10.setTop (mkF m 24 #[.val (.ref a), .val (.int (1 : Int32)), .val (.int (4 : Int32)), .val (.int (3 : Int32))] [(.int (3 : Int32))])) _
          exact hq)
        have hE := e10
        refine retInt X10 hx hret hlk (by simp) rfl (hb hby d_prog_32_method_5_code_24) k14 ?_ (by decide) (by decide)
        try rw [hE]
        exact ⟨by rw [← hr, if_pos hc14_4, if_pos hc14_8, if_neg hc14_12], N10, rfl⟩
    · -- pc 14, holds not
      have k15 : To p.tables e below S0 (T6.setTop (mkF m 24 #[.val (.ref a), .val (.int (1 : Int32)), .val (.int (4 : Int32)), .val (.int (2 : Int32))] [(.int (2 : Int32))])) := fun tt hq => k7 tt (by
        show Steps _ _ _ (T6.setTop (mkF m 14 #[.val (.ref a), .val (.int (1 : Int32)), .val (.int (4 : Int32)), .val (.int (2 : Int32))] [(.int (48 : Int32)), (.int d2)])) _
        refine XS.icmpYes X6.here hx rfl (pc0 := 14) (pc' := 23) rfl (hb hby d_prog_32_method_5_code_14) rfl (feq hc14_8).2 (by decide) (by decide) ?_
        show Steps _ _ _ (T6.setTop (mkF m 23 #[.val (.ref a), .val (.int (1 : Int32)), .val (.int (4 : Int32)), .val (.int (2 : Int32))] [])) _
        refine XS.iloadN X6.here hx rfl (hb hby d_prog_32_method_5_code_23) rfl ?_
        show Steps _ _ _ (T6.setTop (mkF m 24 #[.val (.ref a), .val (.int (1 : Int32)), .val (.int (4 : Int32)), .val (.int (2 : Int32))] [(.int (2 : Int32))])) _
        exact hq)
      have hE := e6
      refine retInt X6 hx hret hlk (by simp) rfl (hb hby d_prog_32_method_5_code_24) k15 ?_ (by decide) (by decide)
      try rw [hE]
      exact ⟨by rw [← hr, if_pos hc14_4, if_neg hc14_8], N6, rfl⟩
  · -- pc 14, holds not
    have k16 : To p.tables e below S0 (T2.setTop (mkF m 24 #[.val (.ref a), .val (.int (1 : Int32)), .val (.int (4 : Int32)), .val (.int (1 : Int32))] [(.int (1 : Int32))])) := fun tt hq => k3 tt (by
      show Steps _ _ _ (T2.setTop (mkF m 14 #[.val (.ref a), .val (.int (1 : Int32)), .val (.int (4 : Int32)), .val (.int (1 : Int32))] [(.int (48 : Int32)), (.int d1)])) _
      refine XS.icmpYes X2.here hx rfl (pc0 := 14) (pc' := 23) rfl (hb hby d_prog_32_method_5_code_14) rfl (feq hc14_4).2 (by decide) (by decide) ?_
      show Steps _ _ _ (T2.setTop (mkF m 23 #[.val (.ref a), .val (.int (1 : Int32)), .val (.int (4 : Int32)), .val (.int (1 : Int32))] [])) _
      refine XS.iloadN X2.here hx rfl (hb hby d_prog_32_method_5_code_23) rfl ?_
      show Steps _ _ _ (T2.setTop (mkF m 24 #[.val (.ref a), .val (.int (1 : Int32)), .val (.int (4 : Int32)), .val (.int (1 : Int32))] [(.int (1 : Int32))])) _
      exact hq)
    have hE := e2
    refine retInt X2 hx hret hlk (by simp) rfl (hb hby d_prog_32_method_5_code_24) k16 ?_ (by decide) (by decide)
    try rw [hE]
    exact ⟨by rw [← hr, if_neg hc14_4], N2, rfl⟩
set_option maxRecDepth 65536 in
set_option maxHeartbeats 40000000 in
theorem rm_fwd2_2 (l : Launch) (Z : State) (a0 : Array Value) (hw : ∀ d ∈ tables_1, d.before a0 Z = true) (zc : Int32) (fm : Value) (a : Addr) (t : Addr) (kt : ClassId) (d0 : Int32) (d1 : Int32) (d2 : Int32) (d3 : Int32) (r : Int32) (h0 : Heap) (n0 : Nat) (hn0 : n0 ≤ h0.size) (S_c : Sta Z Z.heap "java/lang/String" "COMPACT_STRINGS" "Z" (.int zc)) (hzc : ¬ zc = (0 : Int32)) (S_f : Sta Z Z.heap "jdk/internal/util/Preconditions" "SIOOBE_FORMATTER" "Ljava/util/function/BiFunction;" fm) (hfm : fm.isRef = true) (O0 : Old Z n0 h0) (P0 : Exa Z h0 a "java/lang/String") (P1 : Fld Z h0 a "java/lang/String" "value" "[B" (.ref t)) (P2 : Fld Z h0 a "java/lang/String" "coder" "B" (.int (0 : Int32))) (P3 : Arv Z h0 t kt .byte (4 : Int32) [(.int (nar .byte (d0.toInt8.toInt32))), (.int (nar .byte (d1.toInt8.toInt32))), (.int (nar .byte (d2.toInt8.toInt32))), (.int (nar .byte (d3.toInt8.toInt32)))] (.int 0)) (hd0 : ¬ d0 < (0 : Int32) ∧ ¬ (255 : Int32) < d0) (hd1 : ¬ d1 < (0 : Int32) ∧ ¬ (255 : Int32) < d1) (hd2 : ¬ d2 < (0 : Int32) ∧ ¬ (255 : Int32) < d2) (hd3 : ¬ d3 < (0 : Int32) ∧ ¬ (255 : Int32) < d3) (hr : (2 : Int32) = r) :
    Con l Z (⟨"com/example/apportion/apportion/input/Decimals", "firstWholeDigit", "(Ljava/lang/String;II)I"⟩ : MethodName) prog_32_method_5_code 4 (some .int) [] ({ frames := 0, cells := 0, slots := 0, locals := 0 } : Room) #[(.ref a), (.int (2 : Int32)), (.int (2 : Int32))] h0 (fun v h L => v = some (.int r) ∧ Fr n0 L ∧ h = h0) := by
  refine enter (Ls := #[.val (.ref a), .val (.int (2 : Int32)), .val (.int (2 : Int32)), .unset]) (plainFor_of_name pn_5) (fun m => by exact entry_eq rfl) ?_
  intro p e s m below meth cd_ s₁ S0 hx hby hml hret hlk hnm hown hZ X0 e0 k0
  have N0 := Fr.nil n0
  have k1 : To p.tables e below S0 (s₁.setTop (mkF m 24 #[.val (.ref a), .val (.int (2 : Int32)), .val (.int (2 : Int32)), .val (.int (2 : Int32))] [(.int (2 : Int32))])) := fun tt hq => k0 tt (by
    show Steps _ _ _ (s₁.setTop (mkF m 0 #[.val (.ref a), .val (.int (2 : Int32)), .val (.int (2 : Int32)), .unset] [])) _
    refine XS.iloadN X0.here hx rfl (hb hby d_prog_32_method_5_code_0) rfl ?_
    show Steps _ _ _ (s₁.setTop (mkF m 1 #[.val (.ref a), .val (.int (2 : Int32)), .val (.int (2 : Int32)), .unset] [(.int (2 : Int32))])) _
    refine XS.istoreN X0.here hx rfl (hb hby d_prog_32_method_5_code_1) rfl (l' := #[.val (.ref a), .val (.int (2 : Int32)), .val (.int (2 : Int32)), .val (.int (2 : Int32))]) rfl ?_
    show Steps _ _ _ (s₁.setTop (mkF m 2 #[.val (.ref a), .val (.int (2 : Int32)), .val (.int (2 : Int32)), .val (.int (2 : Int32))] [])) _
    refine XS.iloadN X0.here hx rfl (hb hby d_prog_32_method_5_code_2) rfl ?_
    show Steps _ _ _ (s₁.setTop (mkF m 3 #[.val (.ref a), .val (.int (2 : Int32)), .val (.int (2 : Int32)), .val (.int (2 : Int32))] [(.int (2 : Int32))])) _
    refine XS.iloadN X0.here hx rfl (hb hby d_prog_32_method_5_code_3) rfl ?_
    show Steps _ _ _ (s₁.setTop (mkF m 4 #[.val (.ref a), .val (.int (2 : Int32)), .val (.int (2 : Int32)), .val (.int (2 : Int32))] [(.int (2 : Int32)), (.int (2 : Int32))])) _
    refine XS.icmpYes X0.here hx rfl (pc0 := 4) (pc' := 23) rfl (hb hby d_prog_32_method_5_code_4) rfl (flt (by decide)).2.1 (by decide) (by decide) ?_
    show Steps _ _ _ (s₁.setTop (mkF m 23 #[.val (.ref a), .val (.int (2 : Int32)), .val (.int (2 : Int32)), .val (.int (2 : Int32))] [])) _
    refine XS.iloadN X0.here hx rfl (hb hby d_prog_32_method_5_code_23) rfl ?_
    show Steps _ _ _ (s₁.setTop (mkF m 24 #[.val (.ref a), .val (.int (2 : Int32)), .val (.int (2 : Int32)), .val (.int (2 : Int32))] [(.int (2 : Int32))])) _
    exact hq)
  have hE := e0
  refine retInt X0 hx hret hlk (by simp) rfl (hb hby d_prog_32_method_5_code_24) k1 ?_ (by decide) (by decide)
  try rw [hE]
  exact ⟨by rw [← hr], N0, rfl⟩
set_option maxRecDepth 65536 in
set_option maxHeartbeats 40000000 in
theorem rm_fwd2_3 (l : Launch) (Z : State) (a0 : Array Value) (hw : ∀ d ∈ tables_1, d.before a0 Z = true) (zc : Int32) (fm : Value) (a : Addr) (t : Addr) (kt : ClassId) (d0 : Int32) (d1 : Int32) (d2 : Int32) (d3 : Int32) (r : Int32) (h0 : Heap) (n0 : Nat) (hn0 : n0 ≤ h0.size) (S_c : Sta Z Z.heap "java/lang/String" "COMPACT_STRINGS" "Z" (.int zc)) (hzc : ¬ zc = (0 : Int32)) (S_f : Sta Z Z.heap "jdk/internal/util/Preconditions" "SIOOBE_FORMATTER" "Ljava/util/function/BiFunction;" fm) (hfm : fm.isRef = true) (O0 : Old Z n0 h0) (P0 : Exa Z h0 a "java/lang/String") (P1 : Fld Z h0 a "java/lang/String" "value" "[B" (.ref t)) (P2 : Fld Z h0 a "java/lang/String" "coder" "B" (.int (0 : Int32))) (P3 : Arv Z h0 t kt .byte (4 : Int32) [(.int (nar .byte (d0.toInt8.toInt32))), (.int (nar .byte (d1.toInt8.toInt32))), (.int (nar .byte (d2.toInt8.toInt32))), (.int (nar .byte (d3.toInt8.toInt32)))] (.int 0)) (hd0 : ¬ d0 < (0 : Int32) ∧ ¬ (255 : Int32) < d0) (hd1 : ¬ d1 < (0 : Int32) ∧ ¬ (255 : Int32) < d1) (hd2 : ¬ d2 < (0 : Int32) ∧ ¬ (255 : Int32) < d2) (hd3 : ¬ d3 < (0 : Int32) ∧ ¬ (255 : Int32) < d3) (hr : (if d2 = (48 : Int32) then (3 : Int32) else (2 : Int32)) = r) :
    Con l Z (⟨"com/example/apportion/apportion/input/Decimals", "firstWholeDigit", "(Ljava/lang/String;II)I"⟩ : MethodName) prog_32_method_5_code 4 (some .int) [] ({ frames := 4, cells := 0, slots := 0, locals := 53 } : Room) #[(.ref a), (.int (2 : Int32)), (.int (3 : Int32))] h0 (fun v h L => v = some (.int r) ∧ Fr n0 L ∧ h = h0) := by
  refine enter (Ls := #[.val (.ref a), .val (.int (2 : Int32)), .val (.int (3 : Int32)), .unset]) (plainFor_of_name pn_5) (fun m => by exact entry_eq rfl) ?_
  intro p e s m below meth cd_ s₁ S0 hx hby hml hret hlk hnm hown hZ X0 e0 k0
  have N0 := Fr.nil n0
  have k1 : To p.tables e below S0 (s₁.setTop (mkF m 9 #[.val (.ref a), .val (.int (2 : Int32)), .val (.int (3 : Int32)), .val (.int (2 : Int32))] [(.int (2 : Int32)), (.ref a)])) := fun tt hq => k0 tt (by
    show Steps _ _ _ (s₁.setTop (mkF m 0 #[.val (.ref a), .val (.int (2 : Int32)), .val (.int (3 : Int32)), .unset] [])) _
    refine XS.iloadN X0.here hx rfl (hb hby d_prog_32_method_5_code_0) rfl ?_
    show Steps _ _ _ (s₁.setTop (mkF m 1 #[.val (.ref a), .val (.int (2 : Int32)), .val (.int (3 : Int32)), .unset] [(.int (2 : Int32))])) _
    refine XS.istoreN X0.here hx rfl (hb hby d_prog_32_method_5_code_1) rfl (l' := #[.val (.ref a), .val (.int (2 : Int32)), .val (.int (3 : Int32)), .val (.int (2 : Int32))]) rfl ?_
    show Steps _ _ _ (s₁.setTop (mkF m 2 #[.val (.ref a), .val (.int (2 : Int32)), .val (.int (3 : Int32)), .val (.int (2 : Int32))] [])) _
    refine XS.iloadN X0.here hx rfl (hb hby d_prog_32_method_5_code_2) rfl ?_
    show Steps _ _ _ (s₁.setTop (mkF m 3 #[.val (.ref a), .val (.int (2 : Int32)), .val (.int (3 : Int32)), .val (.int (2 : Int32))] [(.int (2 : Int32))])) _
    refine XS.iloadN X0.here hx rfl (hb hby d_prog_32_method_5_code_3) rfl ?_
    show Steps _ _ _ (s₁.setTop (mkF m 4 #[.val (.ref a), .val (.int (2 : Int32)), .val (.int (3 : Int32)), .val (.int (2 : Int32))] [(.int (3 : Int32)), (.int (2 : Int32))])) _
    refine XS.icmpNo X0.here hx rfl (hb hby d_prog_32_method_5_code_4) rfl (tlt (by decide)).2.1 ?_
    show Steps _ _ _ (s₁.setTop (mkF m 7 #[.val (.ref a), .val (.int (2 : Int32)), .val (.int (3 : Int32)), .val (.int (2 : Int32))] [])) _
    refine XS.aloadN X0.here hx rfl (hb hby d_prog_32_method_5_code_7) rfl rfl ?_
    show Steps _ _ _ (s₁.setTop (mkF m 8 #[.val (.ref a), .val (.int (2 : Int32)), .val (.int (3 : Int32)), .val (.int (2 : Int32))] [(.ref a)])) _
    refine XS.iloadN X0.here hx rfl (hb hby d_prog_32_method_5_code_8) rfl ?_
    show Steps _ _ _ (s₁.setTop (mkF m 9 #[.val (.ref a), .val (.int (2 : Int32)), .val (.int (3 : Int32)), .val (.int (2 : Int32))] [(.int (2 : Int32)), (.ref a)])) _
    exact hq)
  obtain ⟨_, T2, L2, X2, ⟨rfl, Nq2, eq2⟩, k2a⟩ := callV' X0 hx hZ (y := (⟨"java/lang/String", "charAt", "(I)C"⟩ : MethodName)) (z := (⟨"java/lang/String", "charAt", "(I)C"⟩ : MethodName)) hown (hw _ (List.mem_of_getElem? (i := 42) rfl)) (hw _ (List.mem_of_getElem? (i := 43) rfl)) (notFace_of_selects (args := #[]) (mvT hZ (hw _ (List.mem_of_getElem? (i := 45) rfl)))) (hw _ (List.mem_of_getElem? (i := 45) rfl)) (hw _ (List.mem_of_getElem? (i := 44) rfl)) (by decide) P0 (backC (W := 0) (rm_ca4_2 l Z a0 hw zc fm a t kt (nar .byte (d0.toInt8.toInt32)) (nar .byte (d1.toInt8.toInt32)) (nar .byte (d2.toInt8.toInt32)) (nar .byte (d3.toInt8.toInt32)) d2 h0 n0 (by omega) S_c hzc S_f hfm O0 P0 P1 P2 P3 (own_b255 hd2)) hZ (hw _ (List.mem_of_getElem? (i := 46) rfl)) (hw _ (List.mem_of_getElem? (i := 7) rfl)) (by decide) (by decide)) e0 (argsL := [(.int (2 : Int32))]) (rest := []) rfl rfl pd_8 rfl (by rw [hml]; rfl) (hb hby d_prog_32_method_5_code_9) (Nat.le_of_eq rfl) (by decide) (by decide) k1
  have k2 : To p.tables e below S0 (T2.setTop (mkF m 12 #[.val (.ref a), .val (.int (2 : Int32)), .val (.int (3 : Int32)), .val (.int (2 : Int32))] [(.int d2)])) := k2a
  have N2 := N0.app Nq2
  have e2 : T2.heap = h0 := eq2
  have k3 : To p.tables e below S0 (T2.setTop (mkF m 14 #[.val (.ref a), .val (.int (2 : Int32)), .val (.int (3 : Int32)), .val (.int (2 : Int32))] [(.int (48 : Int32)), (.int d2)])) := fun tt hq => k2 tt (by
    show Steps _ _ _ (T2.setTop (mkF m 12 #[.val (.ref a), .val (.int (2 : Int32)), .val (.int (3 : Int32)), .val (.int (2 : Int32))] [(.int d2)])) _
    refine XS.bipush X2.here hx rfl (hb hby d_prog_32_method_5_code_12) ?_
    show Steps _ _ _ (T2.setTop (mkF m 14 #[.val (.ref a), .val (.int (2 : Int32)), .val (.int (3 : Int32)), .val (.int (2 : Int32))] [(.int (48 : Int32)), (.int d2)])) _
    exact hq)
  by_cases hc14_4 : d2 = (48 : Int32)
  · -- pc 14, holds
    have k5 : To p.tables e below S0 (T2.setTop (mkF m 24 #[.val (.ref a), .val (.int (2 : Int32)), .val (.int (3 : Int32)), .val (.int (3 : Int32))] [(.int (3 : Int32))])) := fun tt hq => k3 tt (by
      show Steps _ _ _ (T2.setTop (mkF m 14 #[.val (.ref a), .val (.int (2 : Int32)), .val (.int (3 : Int32)), .val (.int (2 : Int32))] [(.int (48 : Int32)), (.int d2)])) _
      refine XS.icmpNo X2.here hx rfl (hb hby d_prog_32_method_5_code_14) rfl (teq hc14_4).2 ?_
      show Steps _ _ _ (T2.setTop (mkF m 17 #[.val (.ref a), .val (.int (2 : Int32)), .val (.int (3 : Int32)), .val (.int (2 : Int32))] [])) _
      refine XS.iinc X2.here hx rfl (hb hby d_prog_32_method_5_code_17) rfl (l' := #[.val (.ref a), .val (.int (2 : Int32)), .val (.int (3 : Int32)), .val (.int (3 : Int32))]) rfl ?_
      show Steps _ _ _ (T2.setTop (mkF m 20 #[.val (.ref a), .val (.int (2 : Int32)), .val (.int (3 : Int32)), .val (.int (3 : Int32))] [])) _
      refine XS.goto X2.here hx rfl (pc0 := 20) (pc' := 2) rfl (hb hby d_prog_32_method_5_code_20) (by decide) (by decide) ?_
      show Steps _ _ _ (T2.setTop (mkF m 2 #[.val (.ref a), .val (.int (2 : Int32)), .val (.int (3 : Int32)), .val (.int (3 : Int32))] [])) _
      refine XS.iloadN X2.here hx rfl (hb hby d_prog_32_method_5_code_2) rfl ?_
      show Steps _ _ _ (T2.setTop (mkF m 3 #[.val (.ref a), .val (.int (2 : Int32)), .val (.int (3 : Int32)), .val (.int (3 : Int32))] [(.int (3 : Int32))])) _
      refine XS.iloadN X2.here hx rfl (hb hby d_prog_32_method_5_code_3) rfl ?_
      show Steps _ _ _ (T2.setTop (mkF m 4 #[.val (.ref a), .val (.int (2 : Int32)), .val (.int (3 : Int32)), .val (.int (3 : Int32))] [(.int (3 : Int32)), (.int (3 : Int32))])) _
      refine XS.icmpYes X2.here hx rfl (pc0 := 4) (pc' := 23) rfl (hb hby d_prog_32_method_5_code_4) rfl (flt (by decide)).2.1 (by decide) (by decide) ?_
      show Steps _ _ _ (T2.setTop (mkF m 23 #[.val (.ref a), .val (.int (2 : Int32)), .val (.int (3 : Int32)), .val (.int (3 : Int32))] [])) _
      refine XS.iloadN X2.here hx rfl (hb hby d_prog_32_method_5_code_23) rfl ?_
      show Steps _ _ _ (T2.setTop (mkF m 24 #[.val (.ref a), .val (.int (2 : Int32)), .val (.int (3 : Int32)), .val (.int (3 : Int32))] [(.int (3 : Int32))])) _
      exact hq)
    have hE := e2
    refine retInt X2 hx hret hlk (by simp) rfl (hb hby d_prog_32_method_5_code_24) k5 ?_ (by decide) (by decide)
    try rw [hE]
    exact ⟨by rw [← hr, if_pos hc14_4], N2, rfl⟩
  · -- pc 14, holds not
    have k6 : To p.tables e below S0 (T2.setTop (mkF m 24 #[.val (.ref a), .val (.int (2 : Int32)), .val (.int (3 : Int32)), .val (.int (2 : Int32))] [(.int (2 : Int32))])) := fun tt hq => k3 tt (by
      show Steps _ _ _ (T2.setTop (mkF m 14 #[.val (.ref a), .val (.int (2 : Int32)), .val (.int (3 : Int32)), .val (.int (2 : Int32))] [(.int (48 : Int32)), (.int d2)])) _
      refine XS.icmpYes X2.here hx rfl (pc0 := 14) (pc' := 23) rfl (hb hby d_prog_32_method_5_code_14) rfl (feq hc14_4).2 (by decide) (by decide) ?_
      show Steps _ _ _ (T2.setTop (mkF m 23 #[.val (.ref a), .val (.int (2 : Int32)), .val (.int (3 : Int32)), .val (.int (2 : Int32))] [])) _
      refine XS.iloadN X2.here hx rfl (hb hby d_prog_32_method_5_code_23) rfl ?_
      show Steps _ _ _ (T2.setTop (mkF m 24 #[.val (.ref a), .val (.int (2 : Int32)), .val (.int (3 : Int32)), .val (.int (2 : Int32))] [(.int (2 : Int32))])) _
      exact hq)
    have hE := e2
    refine retInt X2 hx hret hlk (by simp) rfl (hb hby d_prog_32_method_5_code_24) k6 ?_ (by decide) (by decide)
    try rw [hE]
    exact ⟨by rw [← hr, if_neg hc14_4], N2, rfl⟩
set_option maxRecDepth 65536 in
set_option maxHeartbeats 40000000 in
theorem rm_fwd2_4 (l : Launch) (Z : State) (a0 : Array Value) (hw : ∀ d ∈ tables_1, d.before a0 Z = true) (zc : Int32) (fm : Value) (a : Addr) (t : Addr) (kt : ClassId) (d0 : Int32) (d1 : Int32) (d2 : Int32) (d3 : Int32) (r : Int32) (h0 : Heap) (n0 : Nat) (hn0 : n0 ≤ h0.size) (S_c : Sta Z Z.heap "java/lang/String" "COMPACT_STRINGS" "Z" (.int zc)) (hzc : ¬ zc = (0 : Int32)) (S_f : Sta Z Z.heap "jdk/internal/util/Preconditions" "SIOOBE_FORMATTER" "Ljava/util/function/BiFunction;" fm) (hfm : fm.isRef = true) (O0 : Old Z n0 h0) (P0 : Exa Z h0 a "java/lang/String") (P1 : Fld Z h0 a "java/lang/String" "value" "[B" (.ref t)) (P2 : Fld Z h0 a "java/lang/String" "coder" "B" (.int (0 : Int32))) (P3 : Arv Z h0 t kt .byte (4 : Int32) [(.int (nar .byte (d0.toInt8.toInt32))), (.int (nar .byte (d1.toInt8.toInt32))), (.int (nar .byte (d2.toInt8.toInt32))), (.int (nar .byte (d3.toInt8.toInt32)))] (.int 0)) (hd0 : ¬ d0 < (0 : Int32) ∧ ¬ (255 : Int32) < d0) (hd1 : ¬ d1 < (0 : Int32) ∧ ¬ (255 : Int32) < d1) (hd2 : ¬ d2 < (0 : Int32) ∧ ¬ (255 : Int32) < d2) (hd3 : ¬ d3 < (0 : Int32) ∧ ¬ (255 : Int32) < d3) (hr : (if d2 = (48 : Int32) then (if d3 = (48 : Int32) then (4 : Int32) else (3 : Int32)) else (2 : Int32)) = r) :
    Con l Z (⟨"com/example/apportion/apportion/input/Decimals", "firstWholeDigit", "(Ljava/lang/String;II)I"⟩ : MethodName) prog_32_method_5_code 4 (some .int) [] ({ frames := 4, cells := 0, slots := 0, locals := 53 } : Room) #[(.ref a), (.int (2 : Int32)), (.int (4 : Int32))] h0 (fun v h L => v = some (.int r) ∧ Fr n0 L ∧ h = h0) := by
  refine enter (Ls := #[.val (.ref a), .val (.int (2 : Int32)), .val (.int (4 : Int32)), .unset]) (plainFor_of_name pn_5) (fun m => by exact entry_eq rfl) ?_
  intro p e s m below meth cd_ s₁ S0 hx hby hml hret hlk hnm hown hZ X0 e0 k0
  have N0 := Fr.nil n0
  have k1 : To p.tables e below S0 (s₁.setTop (mkF m 9 #[.val (.ref a), .val (.int (2 : Int32)), .val (.int (4 : Int32)), .val (.int (2 : Int32))] [(.int (2 : Int32)), (.ref a)])) := fun tt hq => k0 tt (by
    show Steps _ _ _ (s₁.setTop (mkF m 0 #[.val (.ref a), .val (.int (2 : Int32)), .val (.int (4 : Int32)), .unset] [])) _
    refine XS.iloadN X0.here hx rfl (hb hby d_prog_32_method_5_code_0) rfl ?_
    show Steps _ _ _ (s₁.setTop (mkF m 1 #[.val (.ref a), .val (.int (2 : Int32)), .val (.int (4 : Int32)), .unset] [(.int (2 : Int32))])) _
    refine XS.istoreN X0.here hx rfl (hb hby d_prog_32_method_5_code_1) rfl (l' := #[.val (.ref a), .val (.int (2 : Int32)), .val (.int (4 : Int32)), .val (.int (2 : Int32))]) rfl ?_
    show Steps _ _ _ (s₁.setTop (mkF m 2 #[.val (.ref a), .val (.int (2 : Int32)), .val (.int (4 : Int32)), .val (.int (2 : Int32))] [])) _
    refine XS.iloadN X0.here hx rfl (hb hby d_prog_32_method_5_code_2) rfl ?_
    show Steps _ _ _ (s₁.setTop (mkF m 3 #[.val (.ref a), .val (.int (2 : Int32)), .val (.int (4 : Int32)), .val (.int (2 : Int32))] [(.int (2 : Int32))])) _
    refine XS.iloadN X0.here hx rfl (hb hby d_prog_32_method_5_code_3) rfl ?_
    show Steps _ _ _ (s₁.setTop (mkF m 4 #[.val (.ref a), .val (.int (2 : Int32)), .val (.int (4 : Int32)), .val (.int (2 : Int32))] [(.int (4 : Int32)), (.int (2 : Int32))])) _
    refine XS.icmpNo X0.here hx rfl (hb hby d_prog_32_method_5_code_4) rfl (tlt (by decide)).2.1 ?_
    show Steps _ _ _ (s₁.setTop (mkF m 7 #[.val (.ref a), .val (.int (2 : Int32)), .val (.int (4 : Int32)), .val (.int (2 : Int32))] [])) _
    refine XS.aloadN X0.here hx rfl (hb hby d_prog_32_method_5_code_7) rfl rfl ?_
    show Steps _ _ _ (s₁.setTop (mkF m 8 #[.val (.ref a), .val (.int (2 : Int32)), .val (.int (4 : Int32)), .val (.int (2 : Int32))] [(.ref a)])) _
    refine XS.iloadN X0.here hx rfl (hb hby d_prog_32_method_5_code_8) rfl ?_
    show Steps _ _ _ (s₁.setTop (mkF m 9 #[.val (.ref a), .val (.int (2 : Int32)), .val (.int (4 : Int32)), .val (.int (2 : Int32))] [(.int (2 : Int32)), (.ref a)])) _
    exact hq)
  obtain ⟨_, T2, L2, X2, ⟨rfl, Nq2, eq2⟩, k2a⟩ := callV' X0 hx hZ (y := (⟨"java/lang/String", "charAt", "(I)C"⟩ : MethodName)) (z := (⟨"java/lang/String", "charAt", "(I)C"⟩ : MethodName)) hown (hw _ (List.mem_of_getElem? (i := 42) rfl)) (hw _ (List.mem_of_getElem? (i := 43) rfl)) (notFace_of_selects (args := #[]) (mvT hZ (hw _ (List.mem_of_getElem? (i := 45) rfl)))) (hw _ (List.mem_of_getElem? (i := 45) rfl)) (hw _ (List.mem_of_getElem? (i := 44) rfl)) (by decide) P0 (backC (W := 0) (rm_ca4_2 l Z a0 hw zc fm a t kt (nar .byte (d0.toInt8.toInt32)) (nar .byte (d1.toInt8.toInt32)) (nar .byte (d2.toInt8.toInt32)) (nar .byte (d3.toInt8.toInt32)) d2 h0 n0 (by omega) S_c hzc S_f hfm O0 P0 P1 P2 P3 (own_b255 hd2)) hZ (hw _ (List.mem_of_getElem? (i := 46) rfl)) (hw _ (List.mem_of_getElem? (i := 7) rfl)) (by decide) (by decide)) e0 (argsL := [(.int (2 : Int32))]) (rest := []) rfl rfl pd_8 rfl (by rw [hml]; rfl) (hb hby d_prog_32_method_5_code_9) (Nat.le_of_eq rfl) (by decide) (by decide) k1
  have k2 : To p.tables e below S0 (T2.setTop (mkF m 12 #[.val (.ref a), .val (.int (2 : Int32)), .val (.int (4 : Int32)), .val (.int (2 : Int32))] [(.int d2)])) := k2a
  have N2 := N0.app Nq2
  have e2 : T2.heap = h0 := eq2
  have k3 : To p.tables e below S0 (T2.setTop (mkF m 14 #[.val (.ref a), .val (.int (2 : Int32)), .val (.int (4 : Int32)), .val (.int (2 : Int32))] [(.int (48 : Int32)), (.int d2)])) := fun tt hq => k2 tt (by
    show Steps _ _ _ (T2.setTop (mkF m 12 #[.val (.ref a), .val (.int (2 : Int32)), .val (.int (4 : Int32)), .val (.int (2 : Int32))] [(.int d2)])) _
    refine XS.bipush X2.here hx rfl (hb hby d_prog_32_method_5_code_12) ?_
    show Steps _ _ _ (T2.setTop (mkF m 14 #[.val (.ref a), .val (.int (2 : Int32)), .val (.int (4 : Int32)), .val (.int (2 : Int32))] [(.int (48 : Int32)), (.int d2)])) _
    exact hq)
  by_cases hc14_4 : d2 = (48 : Int32)
  · -- pc 14, holds
    have k5 : To p.tables e below S0 (T2.setTop (mkF m 9 #[.val (.ref a), .val (.int (2 : Int32)), .val (.int (4 : Int32)), .val (.int (3 : Int32))] [(.int (3 : Int32)), (.ref a)])) := fun tt hq => k3 tt (by
      show Steps _ _ _ (T2.setTop (mkF m 14 #[.val (.ref a), .val (.int (2 : Int32)), .val (.int (4 : Int32)), .val (.int (2 : Int32))] [(.int (48 : Int32)), (.int d2)])) _
      refine XS.icmpNo X2.here hx rfl (hb hby d_prog_32_method_5_code_14) rfl (teq hc14_4).2 ?_
      show Steps _ _ _ (T2.setTop (mkF m 17 #[.val (.ref a), .val (.int (2 : Int32)), .val (.int (4 : Int32)), .val (.int (2 : Int32))] [])) _
      refine XS.iinc X2.here hx rfl (hb hby d_prog_32_method_5_code_17) rfl (l' := #[.val (.ref a), .val (.int (2 : Int32)), .val (.int (4 : Int32)), .val (.int (3 : Int32))]) rfl ?_
      show Steps _ _ _ (T2.setTop (mkF m 20 #[.val (.ref a), .val (.int (2 : Int32)), .val (.int (4 : Int32)), .val (.int (3 : Int32))] [])) _
      refine XS.goto X2.here hx rfl (pc0 := 20) (pc' := 2) rfl (hb hby d_prog_32_method_5_code_20) (by decide) (by decide) ?_
      show Steps _ _ _ (T2.setTop (mkF m 2 #[.val (.ref a), .val (.int (2 : Int32)), .val (.int (4 : Int32)), .val (.int (3 : Int32))] [])) _
      refine XS.iloadN X2.here hx rfl (hb hby d_prog_32_method_5_code_2) rfl ?_
      show Steps _ _ _ (T2.setTop (mkF m 3 #[.val (.ref a), .val (.int (2 : Int32)), .val (.int (4 : Int32)), .val (.int (3 : Int32))] [(.int (3 : Int32))])) _
      refine XS.iloadN X2.here hx rfl (hb hby d_prog_32_method_5_code_3) rfl ?_
      show Steps _ _ _ (T2.setTop (mkF m 4 #[.val (.ref a), .val (.int (2 : Int32)), .val (.int (4 : Int32)), .val (.int (3 : Int32))] [(.int (4 : Int32)), (.int (3 : Int32))])) _
      refine XS.icmpNo X2.here hx rfl (hb hby d_prog_32_method_5_code_4) rfl (tlt (by decide)).2.1 ?_
      show Steps _ _ _ (T2.setTop (mkF m 7 #[.val (.ref a), .val (.int (2 : Int32)), .val (.int (4 : Int32)), .val (.int (3 : Int32))] [])) _
      refine XS.aloadN X2.here hx rfl (hb hby d_prog_32_method_5_code_7) rfl rfl ?_
      show Steps _ _ _ (T2.setTop (mkF m 8 #[.val (.ref a), .val (.int (2 : Int32)), .val (.int (4 : Int32)), .val (.int (3 : Int32))] [(.ref a)])) _
      refine XS.iloadN X2.here hx rfl (hb hby d_prog_32_method_5_code_8) rfl ?_
      show Steps _ _ _ (T2.setTop (mkF m 9 #[.val (.ref a), .val (.int (2 : Int32)), .val (.int (4 : Int32)), .val (.int (3 : Int32))] [(.int (3 : Int32)), (.ref a)])) _
      exact hq)
    obtain ⟨_, T6, L6, X6, ⟨rfl, Nq6, eq6⟩, k6a⟩ := callV' X2 hx hZ (y := (⟨"java/lang/String", "charAt", "(I)C"⟩ : MethodName)) (z := (⟨"java/lang/String", "charAt", "(I)C"⟩ : MethodName)) hown (hw _ (List.mem_of_getElem? (i := 42) rfl)) (hw _ (List.mem_of_getElem? (i := 43) rfl)) (notFace_of_selects (args := #[]) (mvT hZ (hw _ (List.mem_of_getElem? (i := 45) rfl)))) (hw _ (List.mem_of_getElem? (i := 45) rfl)) (hw _ (List.mem_of_getElem? (i := 44) rfl)) (by decide) P0 (backC (W := 0) (rm_ca4_3 l Z a0 hw zc fm a t kt (nar .byte (d0.toInt8.toInt32)) (nar .byte (d1.toInt8.toInt32)) (nar .byte (d2.toInt8.toInt32)) (nar .byte (d3.toInt8.toInt32)) d3 h0 n0 (by omega) S_c hzc S_f hfm O0 P0 P1 P2 P3 (own_b255 hd3)) hZ (hw _ (List.mem_of_getElem? (i := 46) rfl)) (hw _ (List.mem_of_getElem? (i := 7) rfl)) (by decide) (by decide)) e2 (argsL := [(.int (3 : Int32))]) (rest := []) rfl rfl pd_8 rfl (by rw [hml]; rfl) (hb hby d_prog_32_method_5_code_9) (Nat.le_of_eq rfl) (by decide) (by decide) k5
    have k6 : To p.tables e below S0 (T6.setTop (mkF m 12 #[.val (.ref a), .val (.int (2 : Int32)), .val (.int (4 : Int32)), .val (.int (3 : Int32))] [(.int d3)])) := k6a
    have N6 := N2.app Nq6
    have e6 : T6.heap = h0 := eq6
    have k7 : To p.tables e below S0 (T6.setTop (mkF m 14 #[.val (.ref a), .val (.int (2 : Int32)), .val (.int (4 : Int32)), .val (.int (3 : Int32))] [(.int (48 : Int32)), (.int d3)])) := fun tt hq => k6 tt (by
      show Steps _ _ _ (T6.setTop (mkF m 12 #[.val (.ref a), .val (.int (2 : Int32)), .val (.int (4 : Int32)), .val (.int (3 : Int32))] [(.int d3)])) _
      refine XS.bipush X6.here hx rfl (hb hby d_prog_32_method_5_code_12) ?_
      show Steps _ _ _ (T6.setTop (mkF m 14 #[.val (.ref a), .val (.int (2 : Int32)), .val (.int (4 : Int32)), .val (.int (3 : Int32))] [(.int (48 : Int32)), (.int d3)])) _
      exact hq)
    by_cases hc14_8 : d3 = (48 : Int32)
    · -- pc 14, holds
      have k9 : To p.tables e below S0 (T6.setTop (mkF m 24 #[.val (.ref a), .val (.int (2 : Int32)), .val (.int (4 : Int32)), .val (.int (4 : Int32))] [(.int (4 : Int32))])) := fun tt hq => k7 tt (by
        show Steps _ _ _ (T6.setTop (mkF m 14 #[.val (.ref a), .val (.int (2 : Int32)), .val (.int (4 : Int32)), .val (.int (3 : Int32))] [(.int (48 : Int32)), (.int d3)])) _
        refine XS.icmpNo X6.here hx rfl (hb hby d_prog_32_method_5_code_14) rfl (teq hc14_8).2 ?_
        show Steps _ _ _ (T6.setTop (mkF m 17 #[.val (.ref a), .val (.int (2 : Int32)), .val (.int (4 : Int32)), .val (.int (3 : Int32))] [])) _
        refine XS.iinc X6.here hx rfl (hb hby d_prog_32_method_5_code_17) rfl (l' := #[.val (.ref a), .val (.int (2 : Int32)), .val (.int (4 : Int32)), .val (.int (4 : Int32))]) rfl ?_
        show Steps _ _ _ (T6.setTop (mkF m 20 #[.val (.ref a), .val (.int (2 : Int32)), .val (.int (4 : Int32)), .val (.int (4 : Int32))] [])) _
        refine XS.goto X6.here hx rfl (pc0 := 20) (pc' := 2) rfl (hb hby d_prog_32_method_5_code_20) (by decide) (by decide) ?_
        show Steps _ _ _ (T6.setTop (mkF m 2 #[.val (.ref a), .val (.int (2 : Int32)), .val (.int (4 : Int32)), .val (.int (4 : Int32))] [])) _
        refine XS.iloadN X6.here hx rfl (hb hby d_prog_32_method_5_code_2) rfl ?_
        show Steps _ _ _ (T6.setTop (mkF m 3 #[.val (.ref a), .val (.int (2 : Int32)), .val (.int (4 : Int32)), .val (.int (4 : Int32))] [(.int (4 : Int32))])) _
        refine XS.iloadN X6.here hx rfl (hb hby d_prog_32_method_5_code_3) rfl ?_
        show Steps _ _ _ (T6.setTop (mkF m 4 #[.val (.ref a), .val (.int (2 : Int32)), .val (.int (4 : Int32)), .val (.int (4 : Int32))] [(.int (4 : Int32)), (.int (4 : Int32))])) _
        refine XS.icmpYes X6.here hx rfl (pc0 := 4) (pc' := 23) rfl (hb hby d_prog_32_method_5_code_4) rfl (flt (by decide)).2.1 (by decide) (by decide) ?_
        show Steps _ _ _ (T6.setTop (mkF m 23 #[.val (.ref a), .val (.int (2 : Int32)), .val (.int (4 : Int32)), .val (.int (4 : Int32))] [])) _
        refine XS.iloadN X6.here hx rfl (hb hby d_prog_32_method_5_code_23) rfl ?_
        show Steps _ _ _ (T6.setTop (mkF m 24 #[.val (.ref a), .val (.int (2 : Int32)), .val (.int (4 : Int32)), .val (.int (4 : Int32))] [(.int (4 : Int32))])) _
        exact hq)
      have hE := e6
      refine retInt X6 hx hret hlk (by simp) rfl (hb hby d_prog_32_method_5_code_24) k9 ?_ (by decide) (by decide)
      try rw [hE]
      exact ⟨by rw [← hr, if_pos hc14_4, if_pos hc14_8], N6, rfl⟩
    · -- pc 14, holds not
      have k10 : To p.tables e below S0 (T6.setTop (mkF m 24 #[.val (.ref a), .val (.int (2 : Int32)), .val (.int (4 : Int32)), .val (.int (3 : Int32))] [(.int (3 : Int32))])) := fun tt hq => k7 tt (by
        show Steps _ _ _ (T6.setTop (mkF m 14 #[.val (.ref a), .val (.int (2 : Int32)), .val (.int (4 : Int32)), .val (.int (3 : Int32))] [(.int (48 : Int32)), (.int d3)])) _
        refine XS.icmpYes X6.here hx rfl (pc0 := 14) (pc' := 23) rfl (hb hby d_prog_32_method_5_code_14) rfl (feq hc14_8).2 (by decide) (by decide) ?_
        show Steps _ _ _ (T6.setTop (mkF m 23 #[.val (.ref a), .val (.int (2 : Int32)), .val (.int (4 : Int32)), .val (.int (3 : Int32))] [])) _
        refine XS.iloadN X6.here hx rfl (hb hby d_prog_32_method_5_code_23) rfl ?_
        show Steps _ _ _ (T6.setTop (mkF m 24 #[.val (.ref a), .val (.int (2 : Int32)), .val (.int (4 : Int32)), .val (.int (3 : Int32))] [(.int (3 : Int32))])) _
        exact hq)
      have hE := e6
      refine retInt X6 hx hret hlk (by simp) rfl (hb hby d_prog_32_method_5_code_24) k10 ?_ (by decide) (by decide)
      try rw [hE]
      exact ⟨by rw [← hr, if_pos hc14_4, if_neg hc14_8], N6, rfl⟩
  · -- pc 14, holds not
    have k11 : To p.tables e below S0 (T2.setTop (mkF m 24 #[.val (.ref a), .val (.int (2 : Int32)), .val (.int (4 : Int32)), .val (.int (2 : Int32))] [(.int (2 : Int32))])) := fun tt hq => k3 tt (by
      show Steps _ _ _ (T2.setTop (mkF m 14 #[.val (.ref a), .val (.int (2 : Int32)), .val (.int (4 : Int32)), .val (.int (2 : Int32))] [(.int (48 : Int32)), (.int d2)])) _
      refine XS.icmpYes X2.here hx rfl (pc0 := 14) (pc' := 23) rfl (hb hby d_prog_32_method_5_code_14) rfl (feq hc14_4).2 (by decide) (by decide) ?_
      show Steps _ _ _ (T2.setTop (mkF m 23 #[.val (.ref a), .val (.int (2 : Int32)), .val (.int (4 : Int32)), .val (.int (2 : Int32))] [])) _
      refine XS.iloadN X2.here hx rfl (hb hby d_prog_32_method_5_code_23) rfl ?_
      show Steps _ _ _ (T2.setTop (mkF m 24 #[.val (.ref a), .val (.int (2 : Int32)), .val (.int (4 : Int32)), .val (.int (2 : Int32))] [(.int (2 : Int32))])) _
      exact hq)
    have hE := e2
    refine retInt X2 hx hret hlk (by simp) rfl (hb hby d_prog_32_method_5_code_24) k11 ?_ (by decide) (by decide)
    try rw [hE]
    exact ⟨by rw [← hr, if_neg hc14_4], N2, rfl⟩
set_option maxRecDepth 65536 in
set_option maxHeartbeats 40000000 in
theorem rm_fwd3_3 (l : Launch) (Z : State) (a0 : Array Value) (hw : ∀ d ∈ tables_1, d.before a0 Z = true) (zc : Int32) (fm : Value) (a : Addr) (t : Addr) (kt : ClassId) (d0 : Int32) (d1 : Int32) (d2 : Int32) (d3 : Int32) (r : Int32) (h0 : Heap) (n0 : Nat) (hn0 : n0 ≤ h0.size) (S_c : Sta Z Z.heap "java/lang/String" "COMPACT_STRINGS" "Z" (.int zc)) (hzc : ¬ zc = (0 : Int32)) (S_f : Sta Z Z.heap "jdk/internal/util/Preconditions" "SIOOBE_FORMATTER" "Ljava/util/function/BiFunction;" fm) (hfm : fm.isRef = true) (O0 : Old Z n0 h0) (P0 : Exa Z h0 a "java/lang/String") (P1 : Fld Z h0 a "java/lang/String" "value" "[B" (.ref t)) (P2 : Fld Z h0 a "java/lang/String" "coder" "B" (.int (0 : Int32))) (P3 : Arv Z h0 t kt .byte (4 : Int32) [(.int (nar .byte (d0.toInt8.toInt32))), (.int (nar .byte (d1.toInt8.toInt32))), (.int (nar .byte (d2.toInt8.toInt32))), (.int (nar .byte (d3.toInt8.toInt32)))] (.int 0)) (hd0 : ¬ d0 < (0 : Int32) ∧ ¬ (255 : Int32) < d0) (hd1 : ¬ d1 < (0 : Int32) ∧ ¬ (255 : Int32) < d1) (hd2 : ¬ d2 < (0 : Int32) ∧ ¬ (255 : Int32) < d2) (hd3 : ¬ d3 < (0 : Int32) ∧ ¬ (255 : Int32) < d3) (hr : (3 : Int32) = r) :
    Con l Z (⟨"com/example/apportion/apportion/input/Decimals", "firstWholeDigit", "(Ljava/lang/String;II)I"⟩ : MethodName) prog_32_method_5_code 4 (some .int) [] ({ frames := 0, cells := 0, slots := 0, locals := 0 } : Room) #[(.ref a), (.int (3 : Int32)), (.int (3 : Int32))] h0 (fun v h L => v = some (.int r) ∧ Fr n0 L ∧ h = h0) := by
  refine enter (Ls := #[.val (.ref a), .val (.int (3 : Int32)), .val (.int (3 : Int32)), .unset]) (plainFor_of_name pn_5) (fun m => by exact entry_eq rfl) ?_
  intro p e s m below meth cd_ s₁ S0 hx hby hml hret hlk hnm hown hZ X0 e0 k0
  have N0 := Fr.nil n0
  have k1 : To p.tables e below S0 (s₁.setTop (mkF m 24 #[.val (.ref a), .val (.int (3 : Int32)), .val (.int (3 : Int32)), .val (.int (3 : Int32))] [(.int (3 : Int32))])) := fun tt hq => k0 tt (by
    show Steps _ _ _ (s₁.setTop (mkF m 0 #[.val (.ref a), .val (.int (3 : Int32)), .val (.int (3 : Int32)), .unset] [])) _
    refine XS.iloadN X0.here hx rfl (hb hby d_prog_32_method_5_code_0) rfl ?_
    show Steps _ _ _ (s₁.setTop (mkF m 1 #[.val (.ref a), .val (.int (3 : Int32)), .val (.int (3 : Int32)), .unset] [(.int (3 : Int32))])) _
    refine XS.istoreN X0.here hx rfl (hb hby d_prog_32_method_5_code_1) rfl (l' := #[.val (.ref a), .val (.int (3 : Int32)), .val (.int (3 : Int32)), .val (.int (3 : Int32))]) rfl ?_
    show Steps _ _ _ (s₁.setTop (mkF m 2 #[.val (.ref a), .val (.int (3 : Int32)), .val (.int (3 : Int32)), .val (.int (3 : Int32))] [])) _
    refine XS.iloadN X0.here hx rfl (hb hby d_prog_32_method_5_code_2) rfl ?_
    show Steps _ _ _ (s₁.setTop (mkF m 3 #[.val (.ref a), .val (.int (3 : Int32)), .val (.int (3 : Int32)), .val (.int (3 : Int32))] [(.int (3 : Int32))])) _
    refine XS.iloadN X0.here hx rfl (hb hby d_prog_32_method_5_code_3) rfl ?_
    show Steps _ _ _ (s₁.setTop (mkF m 4 #[.val (.ref a), .val (.int (3 : Int32)), .val (.int (3 : Int32)), .val (.int (3 : Int32))] [(.int (3 : Int32)), (.int (3 : Int32))])) _
    refine XS.icmpYes X0.here hx rfl (pc0 := 4) (pc' := 23) rfl (hb hby d_prog_32_method_5_code_4) rfl (flt (by decide)).2.1 (by decide) (by decide) ?_
    show Steps _ _ _ (s₁.setTop (mkF m 23 #[.val (.ref a), .val (.int (3 : Int32)), .val (.int (3 : Int32)), .val (.int (3 : Int32))] [])) _
    refine XS.iloadN X0.here hx rfl (hb hby d_prog_32_method_5_code_23) rfl ?_
    show Steps _ _ _ (s₁.setTop (mkF m 24 #[.val (.ref a), .val (.int (3 : Int32)), .val (.int (3 : Int32)), .val (.int (3 : Int32))] [(.int (3 : Int32))])) _
    exact hq)
  have hE := e0
  refine retInt X0 hx hret hlk (by simp) rfl (hb hby d_prog_32_method_5_code_24) k1 ?_ (by decide) (by decide)
  try rw [hE]
  exact ⟨by rw [← hr], N0, rfl⟩
set_option maxRecDepth 65536 in
set_option maxHeartbeats 40000000 in
theorem rm_fwd3_4 (l : Launch) (Z : State) (a0 : Array Value) (hw : ∀ d ∈ tables_1, d.before a0 Z = true) (zc : Int32) (fm : Value) (a : Addr) (t : Addr) (kt : ClassId) (d0 : Int32) (d1 : Int32) (d2 : Int32) (d3 : Int32) (r : Int32) (h0 : Heap) (n0 : Nat) (hn0 : n0 ≤ h0.size) (S_c : Sta Z Z.heap "java/lang/String" "COMPACT_STRINGS" "Z" (.int zc)) (hzc : ¬ zc = (0 : Int32)) (S_f : Sta Z Z.heap "jdk/internal/util/Preconditions" "SIOOBE_FORMATTER" "Ljava/util/function/BiFunction;" fm) (hfm : fm.isRef = true) (O0 : Old Z n0 h0) (P0 : Exa Z h0 a "java/lang/String") (P1 : Fld Z h0 a "java/lang/String" "value" "[B" (.ref t)) (P2 : Fld Z h0 a "java/lang/String" "coder" "B" (.int (0 : Int32))) (P3 : Arv Z h0 t kt .byte (4 : Int32) [(.int (nar .byte (d0.toInt8.toInt32))), (.int (nar .byte (d1.toInt8.toInt32))), (.int (nar .byte (d2.toInt8.toInt32))), (.int (nar .byte (d3.toInt8.toInt32)))] (.int 0)) (hd0 : ¬ d0 < (0 : Int32) ∧ ¬ (255 : Int32) < d0) (hd1 : ¬ d1 < (0 : Int32) ∧ ¬ (255 : Int32) < d1) (hd2 : ¬ d2 < (0 : Int32) ∧ ¬ (255 : Int32) < d2) (hd3 : ¬ d3 < (0 : Int32) ∧ ¬ (255 : Int32) < d3) (hr : (if d3 = (48 : Int32) then (4 : Int32) else (3 : Int32)) = r) :
    Con l Z (⟨"com/example/apportion/apportion/input/Decimals", "firstWholeDigit", "(Ljava/lang/String;II)I"⟩ : MethodName) prog_32_method_5_code 4 (some .int) [] ({ frames := 4, cells := 0, slots := 0, locals := 53 } : Room) #[(.ref a), (.int (3 : Int32)), (.int (4 : Int32))] h0 (fun v h L => v = some (.int r) ∧ Fr n0 L ∧ h = h0) := by
  refine enter (Ls := #[.val (.ref a), .val (.int (3 : Int32)), .val (.int (4 : Int32)), .unset]) (plainFor_of_name pn_5) (fun m => by exact entry_eq rfl) ?_
  intro p e s m below meth cd_ s₁ S0 hx hby hml hret hlk hnm hown hZ X0 e0 k0
  have N0 := Fr.nil n0
  have k1 : To p.tables e below S0 (s₁.setTop (mkF m 9 #[.val (.ref a), .val (.int (3 : Int32)), .val (.int (4 : Int32)), .val (.int (3 : Int32))] [(.int (3 : Int32)), (.ref a)])) := fun tt hq => k0 tt (by
    show Steps _ _ _ (s₁.setTop (mkF m 0 #[.val (.ref a), .val (.int (3 : Int32)), .val (.int (4 : Int32)), .unset] [])) _
    refine XS.iloadN X0.here hx rfl (hb hby d_prog_32_method_5_code_0) rfl ?_
    show Steps _ _ _ (s₁.setTop (mkF m 1 #[.val (.ref a), .val (.int (3 : Int32)), .val (.int (4 : Int32)), .unset] [(.int (3 : Int32))])) _
    refine XS.istoreN X0.here hx rfl (hb hby d_prog_32_method_5_code_1) rfl (l' := #[.val (.ref a), .val (.int (3 : Int32)), .val (.int (4 : Int32)), .val (.int (3 : Int32))]) rfl ?_
    show Steps _ _ _ (s₁.setTop (mkF m 2 #[.val (.ref a), .val (.int (3 : Int32)), .val (.int (4 : Int32)), .val (.int (3 : Int32))] [])) _
    refine XS.iloadN X0.here hx rfl (hb hby d_prog_32_method_5_code_2) rfl ?_
    show Steps _ _ _ (s₁.setTop (mkF m 3 #[.val (.ref a), .val (.int (3 : Int32)), .val (.int (4 : Int32)), .val (.int (3 : Int32))] [(.int (3 : Int32))])) _
    refine XS.iloadN X0.here hx rfl (hb hby d_prog_32_method_5_code_3) rfl ?_
    show Steps _ _ _ (s₁.setTop (mkF m 4 #[.val (.ref a), .val (.int (3 : Int32)), .val (.int (4 : Int32)), .val (.int (3 : Int32))] [(.int (4 : Int32)), (.int (3 : Int32))])) _
    refine XS.icmpNo X0.here hx rfl (hb hby d_prog_32_method_5_code_4) rfl (tlt (by decide)).2.1 ?_
    show Steps _ _ _ (s₁.setTop (mkF m 7 #[.val (.ref a), .val (.int (3 : Int32)), .val (.int (4 : Int32)), .val (.int (3 : Int32))] [])) _
    refine XS.aloadN X0.here hx rfl (hb hby d_prog_32_method_5_code_7) rfl rfl ?_
    show Steps _ _ _ (s₁.setTop (mkF m 8 #[.val (.ref a), .val (.int (3 : Int32)), .val (.int (4 : Int32)), .val (.int (3 : Int32))] [(.ref a)])) _
    refine XS.iloadN X0.here hx rfl (hb hby d_prog_32_method_5_code_8) rfl ?_
    show Steps _ _ _ (s₁.setTop (mkF m 9 #[.val (.ref a), .val (.int (3 : Int32)), .val (.int (4 : Int32)), .val (.int (3 : Int32))] [(.int (3 : Int32)), (.ref a)])) _
    exact hq)
  obtain ⟨_, T2, L2, X2, ⟨rfl, Nq2, eq2⟩, k2a⟩ := callV' X0 hx hZ (y := (⟨"java/lang/String", "charAt", "(I)C"⟩ : MethodName)) (z := (⟨"java/lang/String", "charAt", "(I)C"⟩ : MethodName)) hown (hw _ (List.mem_of_getElem? (i := 42) rfl)) (hw _ (List.mem_of_getElem? (i := 43) rfl)) (notFace_of_selects (args := #[]) (mvT hZ (hw _ (List.mem_of_getElem? (i := 45) rfl)))) (hw _ (List.mem_of_getElem? (i := 45) rfl)) (hw _ (List.mem_of_getElem? (i := 44) rfl)) (by decide) P0 (backC (W := 0) (rm_ca4_3 l Z a0 hw zc fm a t kt (nar .byte (d0.toInt8.toInt32)) (nar .byte (d1.toInt8.toInt32)) (nar .byte (d2.toInt8.toInt32)) (nar .byte (d3.toInt8.toInt32)) d3 h0 n0 (by omega) S_c hzc S_f hfm O0 P0 P1 P2 P3 (own_b255 hd3)) hZ (hw _ (List.mem_of_getElem? (i := 46) rfl)) (hw _ (List.mem_of_getElem? (i := 7) rfl)) (by decide) (by decide)) e0 (argsL := [(.int (3 : Int32))]) (rest := []) rfl rfl pd_8 rfl (by rw [hml]; rfl) (hb hby d_prog_32_method_5_code_9) (Nat.le_of_eq rfl) (by decide) (by decide) k1
  have k2 : To p.tables e below S0 (T2.setTop (mkF m 12 #[.val (.ref a), .val (.int (3 : Int32)), .val (.int (4 : Int32)), .val (.int (3 : Int32))] [(.int d3)])) := k2a
  have N2 := N0.app Nq2
  have e2 : T2.heap = h0 := eq2
  have k3 : To p.tables e below S0 (T2.setTop (mkF m 14 #[.val (.ref a), .val (.int (3 : Int32)), .val (.int (4 : Int32)), .val (.int (3 : Int32))] [(.int (48 : Int32)), (.int d3)])) := fun tt hq => k2 tt (by
    show Steps _ _ _ (T2.setTop (mkF m 12 #[.val (.ref a), .val (.int (3 : Int32)), .val (.int (4 : Int32)), .val (.int (3 : Int32))] [(.int d3)])) _
    refine XS.bipush X2.here hx rfl (hb hby d_prog_32_method_5_code_12) ?_
    show Steps _ _ _ (T2.setTop (mkF m 14 #[.val (.ref a), .val (.int (3 : Int32)), .val (.int (4 : Int32)), .val (.int (3 : Int32))] [(.int (48 : Int32)), (.int d3)])) _
    exact hq)
  by_cases hc14_4 : d3 = (48 : Int32)
  · -- pc 14, holds
    have k5 : To p.tables e below S0 (T2.setTop (mkF m 24 #[.val (.ref a), .val (.int (3 : Int32)), .val (.int (4 : Int32)), .val (.int (4 : Int32))] [(.int (4 : Int32))])) := fun tt hq => k3 tt (by
      show Steps _ _ _ (T2.setTop (mkF m 14 #[.val (.ref a), .val (.int (3 : Int32)), .val (.int (4 : Int32)), .val (.int (3 : Int32))] [(.int (48 : Int32)), (.int d3)])) _
      refine XS.icmpNo X2.here hx rfl (hb hby d_prog_32_method_5_code_14) rfl (teq hc14_4).2 ?_
      show Steps _ _ _ (T2.setTop (mkF m 17 #[.val (.ref a), .val (.int (3 : Int32)), .val (.int (4 : Int32)), .val (.int (3 : Int32))] [])) _
      refine XS.iinc X2.here hx rfl (hb hby d_prog_32_method_5_code_17) rfl (l' := #[.val (.ref a), .val (.int (3 : Int32)), .val (.int (4 : Int32)), .val (.int (4 : Int32))]) rfl ?_
      show Steps _ _ _ (T2.setTop (mkF m 20 #[.val (.ref a), .val (.int (3 : Int32)), .val (.int (4 : Int32)), .val (.int (4 : Int32))] [])) _
      refine XS.goto X2.here hx rfl (pc0 := 20) (pc' := 2) rfl (hb hby d_prog_32_method_5_code_20) (by decide) (by decide) ?_
      show Steps _ _ _ (T2.setTop (mkF m 2 #[.val (.ref a), .val (.int (3 : Int32)), .val (.int (4 : Int32)), .val (.int (4 : Int32))] [])) _
      refine XS.iloadN X2.here hx rfl (hb hby d_prog_32_method_5_code_2) rfl ?_
      show Steps _ _ _ (T2.setTop (mkF m 3 #[.val (.ref a), .val (.int (3 : Int32)), .val (.int (4 : Int32)), .val (.int (4 : Int32))] [(.int (4 : Int32))])) _
      refine XS.iloadN X2.here hx rfl (hb hby d_prog_32_method_5_code_3) rfl ?_
      show Steps _ _ _ (T2.setTop (mkF m 4 #[.val (.ref a), .val (.int (3 : Int32)), .val (.int (4 : Int32)), .val (.int (4 : Int32))] [(.int (4 : Int32)), (.int (4 : Int32))])) _
      refine XS.icmpYes X2.here hx rfl (pc0 := 4) (pc' := 23) rfl (hb hby d_prog_32_method_5_code_4) rfl (flt (by decide)).2.1 (by decide) (by decide) ?_
      show Steps _ _ _ (T2.setTop (mkF m 23 #[.val (.ref a), .val (.int (3 : Int32)), .val (.int (4 : Int32)), .val (.int (4 : Int32))] [])) _
      refine XS.iloadN X2.here hx rfl (hb hby d_prog_32_method_5_code_23) rfl ?_
      show Steps _ _ _ (T2.setTop (mkF m 24 #[.val (.ref a), .val (.int (3 : Int32)), .val (.int (4 : Int32)), .val (.int (4 : Int32))] [(.int (4 : Int32))])) _
      exact hq)
    have hE := e2
    refine retInt X2 hx hret hlk (by simp) rfl (hb hby d_prog_32_method_5_code_24) k5 ?_ (by decide) (by decide)
    try rw [hE]
    exact ⟨by rw [← hr, if_pos hc14_4], N2, rfl⟩
  · -- pc 14, holds not
    have k6 : To p.tables e below S0 (T2.setTop (mkF m 24 #[.val (.ref a), .val (.int (3 : Int32)), .val (.int (4 : Int32)), .val (.int (3 : Int32))] [(.int (3 : Int32))])) := fun tt hq => k3 tt (by
      show Steps _ _ _ (T2.setTop (mkF m 14 #[.val (.ref a), .val (.int (3 : Int32)), .val (.int (4 : Int32)), .val (.int (3 : Int32))] [(.int (48 : Int32)), (.int d3)])) _
      refine XS.icmpYes X2.here hx rfl (pc0 := 14) (pc' := 23) rfl (hb hby d_prog_32_method_5_code_14) rfl (feq hc14_4).2 (by decide) (by decide) ?_
      show Steps _ _ _ (T2.setTop (mkF m 23 #[.val (.ref a), .val (.int (3 : Int32)), .val (.int (4 : Int32)), .val (.int (3 : Int32))] [])) _
      refine XS.iloadN X2.here hx rfl (hb hby d_prog_32_method_5_code_23) rfl ?_
      show Steps _ _ _ (T2.setTop (mkF m 24 #[.val (.ref a), .val (.int (3 : Int32)), .val (.int (4 : Int32)), .val (.int (3 : Int32))] [(.int (3 : Int32))])) _
      exact hq)
    have hE := e2
    refine retInt X2 hx hret hlk (by simp) rfl (hb hby d_prog_32_method_5_code_24) k6 ?_ (by decide) (by decide)
    try rw [hE]
    exact ⟨by rw [← hr, if_neg hc14_4], N2, rfl⟩
set_option maxRecDepth 65536 in
set_option maxHeartbeats 40000000 in
theorem rm_fwd4_4 (l : Launch) (Z : State) (a0 : Array Value) (hw : ∀ d ∈ tables_1, d.before a0 Z = true) (zc : Int32) (fm : Value) (a : Addr) (t : Addr) (kt : ClassId) (d0 : Int32) (d1 : Int32) (d2 : Int32) (d3 : Int32) (r : Int32) (h0 : Heap) (n0 : Nat) (hn0 : n0 ≤ h0.size) (S_c : Sta Z Z.heap "java/lang/String" "COMPACT_STRINGS" "Z" (.int zc)) (hzc : ¬ zc = (0 : Int32)) (S_f : Sta Z Z.heap "jdk/internal/util/Preconditions" "SIOOBE_FORMATTER" "Ljava/util/function/BiFunction;" fm) (hfm : fm.isRef = true) (O0 : Old Z n0 h0) (P0 : Exa Z h0 a "java/lang/String") (P1 : Fld Z h0 a "java/lang/String" "value" "[B" (.ref t)) (P2 : Fld Z h0 a "java/lang/String" "coder" "B" (.int (0 : Int32))) (P3 : Arv Z h0 t kt .byte (4 : Int32) [(.int (nar .byte (d0.toInt8.toInt32))), (.int (nar .byte (d1.toInt8.toInt32))), (.int (nar .byte (d2.toInt8.toInt32))), (.int (nar .byte (d3.toInt8.toInt32)))] (.int 0)) (hd0 : ¬ d0 < (0 : Int32) ∧ ¬ (255 : Int32) < d0) (hd1 : ¬ d1 < (0 : Int32) ∧ ¬ (255 : Int32) < d1) (hd2 : ¬ d2 < (0 : Int32) ∧ ¬ (255 : Int32) < d2) (hd3 : ¬ d3 < (0 : Int32) ∧ ¬ (255 : Int32) < d3) (hr : (4 : Int32) = r) :
    Con l Z (⟨"com/example/apportion/apportion/input/Decimals", "firstWholeDigit", "(Ljava/lang/String;II)I"⟩ : MethodName) prog_32_method_5_code 4 (some .int) [] ({ frames := 0, cells := 0, slots := 0, locals := 0 } : Room) #[(.ref a), (.int (4 : Int32)), (.int (4 : Int32))] h0 (fun v h L => v = some (.int r) ∧ Fr n0 L ∧ h = h0) := by
  refine enter (Ls := #[.val (.ref a), .val (.int (4 : Int32)), .val (.int (4 : Int32)), .unset]) (plainFor_of_name pn_5) (fun m => by exact entry_eq rfl) ?_
  intro p e s m below meth cd_ s₁ S0 hx hby hml hret hlk hnm hown hZ X0 e0 k0
  have N0 := Fr.nil n0
  have k1 : To p.tables e below S0 (s₁.setTop (mkF m 24 #[.val (.ref a), .val (.int (4 : Int32)), .val (.int (4 : Int32)), .val (.int (4 : Int32))] [(.int (4 : Int32))])) := fun tt hq => k0 tt (by
    show Steps _ _ _ (s₁.setTop (mkF m 0 #[.val (.ref a), .val (.int (4 : Int32)), .val (.int (4 : Int32)), .unset] [])) _
    refine XS.iloadN X0.here hx rfl (hb hby d_prog_32_method_5_code_0) rfl ?_
    show Steps _ _ _ (s₁.setTop (mkF m 1 #[.val (.ref a), .val (.int (4 : Int32)), .val (.int (4 : Int32)), .unset] [(.int (4 : Int32))])) _
    refine XS.istoreN X0.here hx rfl (hb hby d_prog_32_method_5_code_1) rfl (l' := #[.val (.ref a), .val (.int (4 : Int32)), .val (.int (4 : Int32)), .val (.int (4 : Int32))]) rfl ?_
    show Steps _ _ _ (s₁.setTop (mkF m 2 #[.val (.ref a), .val (.int (4 : Int32)), .val (.int (4 : Int32)), .val (.int (4 : Int32))] [])) _
    refine XS.iloadN X0.here hx rfl (hb hby d_prog_32_method_5_code_2) rfl ?_
    show Steps _ _ _ (s₁.setTop (mkF m 3 #[.val (.ref a), .val (.int (4 : Int32)), .val (.int (4 : Int32)), .val (.int (4 : Int32))] [(.int (4 : Int32))])) _
    refine XS.iloadN X0.here hx rfl (hb hby d_prog_32_method_5_code_3) rfl ?_
    show Steps _ _ _ (s₁.setTop (mkF m 4 #[.val (.ref a), .val (.int (4 : Int32)), .val (.int (4 : Int32)), .val (.int (4 : Int32))] [(.int (4 : Int32)), (.int (4 : Int32))])) _
    refine XS.icmpYes X0.here hx rfl (pc0 := 4) (pc' := 23) rfl (hb hby d_prog_32_method_5_code_4) rfl (flt (by decide)).2.1 (by decide) (by decide) ?_
    show Steps _ _ _ (s₁.setTop (mkF m 23 #[.val (.ref a), .val (.int (4 : Int32)), .val (.int (4 : Int32)), .val (.int (4 : Int32))] [])) _
    refine XS.iloadN X0.here hx rfl (hb hby d_prog_32_method_5_code_23) rfl ?_
    show Steps _ _ _ (s₁.setTop (mkF m 24 #[.val (.ref a), .val (.int (4 : Int32)), .val (.int (4 : Int32)), .val (.int (4 : Int32))] [(.int (4 : Int32))])) _
    exact hq)
  have hE := e0
  refine retInt X0 hx hret hlk (by simp) rfl (hb hby d_prog_32_method_5_code_24) k1 ?_ (by decide) (by decide)
  try rw [hE]
  exact ⟨by rw [← hr], N0, rfl⟩
theorem own_nn (k : Int32) : 0 ≤ (k &&& 2147483647).toInt := by
  have h : (k &&& 2147483647).toBitVec.toNat ≤ 2147483647 := by
    rw [Int32.toBitVec_and, BitVec.toNat_and]; exact Nat.and_le_right
  show 0 ≤ (k &&& 2147483647).toBitVec.toInt
  rw [BitVec.toInt_eq_toNat_of_lt (by omega)]; omega
theorem own_md {k m : Int32} (hm : 0 < m.toInt) : 0 ≤ ((k &&& 2147483647) % m).toInt ∧ ((k &&& 2147483647) % m).toInt < m.toInt := by
  rw [Int32.toInt_mod, Int.tmod_eq_emod_of_nonneg (own_nn k)]
  exact ⟨Int.emod_nonneg _ (by omega), Int.emod_lt_of_pos _ hm⟩
theorem own_md1 (k : Int32) : (k &&& (2147483647 : Int32)) % (1 : Int32) = (0 : Int32) := by
  have h := own_md (k := k) (m := 1) (by decide)
  have e : (1 : Int32).toInt = 1 := by decide
  rw [e] at h
  simp only [← Int32.toInt_inj, show (0 : Int32).toInt = 0 from rfl]
  omega
theorem own_md2 (k : Int32) : (k &&& (2147483647 : Int32)) % (2 : Int32) = (0 : Int32) ∨ (k &&& (2147483647 : Int32)) % (2 : Int32) = (1 : Int32) := by
  have h := own_md (k := k) (m := 2) (by decide)
  have e : (2 : Int32).toInt = 2 := by decide
  rw [e] at h
  simp only [← Int32.toInt_inj, show (0 : Int32).toInt = 0 from rfl, show (1 : Int32).toInt = 1 from rfl]
  omega
theorem own_md3 (k : Int32) : (k &&& (2147483647 : Int32)) % (3 : Int32) = (0 : Int32) ∨ (k &&& (2147483647 : Int32)) % (3 : Int32) = (1 : Int32) ∨ (k &&& (2147483647 : Int32)) % (3 : Int32) = (2 : Int32) := by
  have h := own_md (k := k) (m := 3) (by decide)
  have e : (3 : Int32).toInt = 3 := by decide
  rw [e] at h
  simp only [← Int32.toInt_inj, show (0 : Int32).toInt = 0 from rfl, show (1 : Int32).toInt = 1 from rfl, show (2 : Int32).toInt = 2 from rfl]
  omega
theorem own_md4 (k : Int32) : (k &&& (2147483647 : Int32)) % (4 : Int32) = (0 : Int32) ∨ (k &&& (2147483647 : Int32)) % (4 : Int32) = (1 : Int32) ∨ (k &&& (2147483647 : Int32)) % (4 : Int32) = (2 : Int32) ∨ (k &&& (2147483647 : Int32)) % (4 : Int32) = (3 : Int32) := by
  have h := own_md (k := k) (m := 4) (by decide)
  have e : (4 : Int32).toInt = 4 := by decide
  rw [e] at h
  simp only [← Int32.toInt_inj, show (0 : Int32).toInt = 0 from rfl, show (1 : Int32).toInt = 1 from rfl, show (2 : Int32).toInt = 2 from rfl, show (3 : Int32).toInt = 3 from rfl]
  omega
theorem own_md5 (k : Int32) : (k &&& (2147483647 : Int32)) % (5 : Int32) = (0 : Int32) ∨ (k &&& (2147483647 : Int32)) % (5 : Int32) = (1 : Int32) ∨ (k &&& (2147483647 : Int32)) % (5 : Int32) = (2 : Int32) ∨ (k &&& (2147483647 : Int32)) % (5 : Int32) = (3 : Int32) ∨ (k &&& (2147483647 : Int32)) % (5 : Int32) = (4 : Int32) := by
  have h := own_md (k := k) (m := 5) (by decide)
  have e : (5 : Int32).toInt = 5 := by decide
  rw [e] at h
  simp only [← Int32.toInt_inj, show (0 : Int32).toInt = 0 from rfl, show (1 : Int32).toInt = 1 from rfl, show (2 : Int32).toInt = 2 from rfl, show (3 : Int32).toInt = 3 from rfl, show (4 : Int32).toInt = 4 from rfl]
  omega
theorem pd_9 : parseMethodDescriptor "([C)V" = some ⟨[(.array .char)], none⟩ := by decide +kernel
theorem pd_10 : parseMethodDescriptor "([CIII)Z" = some ⟨[(.array .char), .int, .int, .int], some .boolean⟩ := by decide +kernel
theorem pd_11 : parseMethodDescriptor "(Ljava/lang/String;II)I" = some ⟨[(.object "java/lang/String"), .int, .int], some .int⟩ := by decide +kernel
set_option maxRecDepth 65536 in
set_option maxHeartbeats 40000000 in
theorem rm0 (l : Launch) (Z : State) (a0 : Array Value) (hw : ∀ d ∈ tables_1, d.before a0 Z = true) (zc : Int32) (fm : Value) (p0 : Int32) (p1 : Int32) (p2 : Int32) (p3 : Int32) (p4 : Int32) (p5 : Int32) (h0 : Heap) (n0 : Nat) (hn0 : n0 ≤ h0.size) (S_c : Sta Z Z.heap "java/lang/String" "COMPACT_STRINGS" "Z" (.int zc)) (hzc : ¬ zc = (0 : Int32)) (S_f : Sta Z Z.heap "jdk/internal/util/Preconditions" "SIOOBE_FORMATTER" "Ljava/util/function/BiFunction;" fm) (hfm : fm.isRef = true) (O0 : Old Z n0 h0) :
    Con l Z x code maxLocals ret tables_1 room_1 #[(.int p0), (.int p1), (.int p2), (.int p3), (.int p4), (.int p5)] h0 (fun v h L => v = some (.int 1) ∧ Fr n0 L) := by
  refine enter (Ls := #[.val (.int p0), .val (.int p1), .val (.int p2), .val (.int p3), .val (.int p4), .val (.int p5), .unset, .unset, .unset, .unset, .unset]) (plainFor_of_name pn_4) (fun m => by exact entry_eq rfl) ?_
  intro p e s m below meth cd_ s₁ S0 hx hby hml hret hlk hnm hown hZ X0 e0 k0
  have N0 := Fr.nil n0
  let l1 : Array Slot := #[.val (.int p0), .val (.int p1), .val (.int p2), .val (.int p3), .val (.int p4), .val (.int p5), .unset, .unset, .unset, .unset, .unset]
  have k2 : To p.tables e below S0 (s₁.setTop (mkF m 1 l1 [(.int (4 : Int32))])) := fun tt hq => k0 tt (by
    show Steps _ _ _ (s₁.setTop (mkF m 0 l1 [])) _
    refine XS.iconst X0.here hx rfl (hb hby at_0) ?_
    show Steps _ _ _ (s₁.setTop (mkF m 1 l1 [(.int (4 : Int32))])) _
    exact hq)
  obtain ⟨T3, h3, c3, X3, e3, E3, A3, st3⟩ := newP X0 hx hZ (hw _ (List.mem_of_getElem? (i := 0) rfl)) e0 (g := (mkF m 1 l1 [(.int (4 : Int32))])) rfl (hb hby at_1) rfl (by decide) (cap := 4) (by decide) (by decide) (by decide) (by decide)
  obtain ⟨b3, g3⟩ : ∃ z, z = h0.size := ⟨_, rfl⟩
  rw [← g3] at A3 st3
  have k3 : To p.tables e below S0 (T3.setTop (mkF m 3 l1 [(.ref b3)])) := fun tt hq => k2 tt (st3 tt hq)
  have z3 : h0.size ≤ h3.size := E3.1
  have V3 : Arv Z h3 b3 c3 .char (4 : Int32) [(.int (0 : Int32)), (.int (0 : Int32)), (.int (0 : Int32)), (.int (0 : Int32))] (.int (0 : Int32)) := (Arv.new A3 (by decide)).pad (pad_rep [] (.int (0 : Int32)) 4)
  have y3 : @LT.lt Nat instLTNat b3 h3.size := V3.lt
  let l4 : Array Slot := #[.val (.int p0), .val (.int p1), .val (.int p2), .val (.int p3), .val (.int p4), .val (.int p5), .val (.ref b3), .unset, .unset, .unset, .unset]
  have k5 : To p.tables e below S0 (T3.setTop (mkF m 9 l4 [(.int p0), (.int (0 : Int32)), (.ref b3)])) := fun tt hq => k3 tt (by
    show Steps _ _ _ (T3.setTop (mkF m 3 l1 [(.ref b3)])) _
    refine XS.astore X3.here hx rfl (hb hby at_3) rfl rfl (l' := l4) rfl ?_
    show Steps _ _ _ (T3.setTop (mkF m 5 l4 [])) _
    refine XS.aload X3.here hx rfl (hb hby at_5) rfl rfl ?_
    show Steps _ _ _ (T3.setTop (mkF m 7 l4 [(.ref b3)])) _
    refine XS.iconst X3.here hx rfl (hb hby at_7) ?_
    show Steps _ _ _ (T3.setTop (mkF m 8 l4 [(.int (0 : Int32)), (.ref b3)])) _
    refine XS.iloadN X3.here hx rfl (hb hby at_8) rfl ?_
    show Steps _ _ _ (T3.setTop (mkF m 9 l4 [(.int p0), (.int (0 : Int32)), (.ref b3)])) _
    exact hq)
  obtain ⟨_, T6, L6, X6, ⟨r6, rfl, Nq6, eq6, hr6⟩, k6a⟩ := callS' X3 hx hZ (y := (⟨"com/example/apportion/apportion/input/DecimalsFirstWholeDigitPinLaw", "ch", "(I)C"⟩ : MethodName)) hown (hw _ (List.mem_of_getElem? (i := 1) rfl)) (hw _ (List.mem_of_getElem? (i := 2) rfl)) (hw _ (List.mem_of_getElem? (i := 3) rfl)) (hw _ (List.mem_of_getElem? (i := 4) rfl)) (by decide) (backC (W := 2) (rm_ch l Z a0 hw p0 h3 n0 (by omega)) hZ (hw _ (List.mem_of_getElem? (i := 4) rfl)) (hw _ (List.mem_of_getElem? (i := 3) rfl)) (by decide) (by decide)) e3 (argsL := [(.int p0)]) (rest := [(.int (0 : Int32)), (.ref b3)]) rfl rfl pd_8 rfl (by rw [hml]; rfl) (hb hby at_9) (Nat.le_of_eq rfl) (by decide) (by decide) k5
  have k6 : To p.tables e below S0 (T6.setTop (mkF m 12 l4 [(.int r6), (.int (0 : Int32)), (.ref b3)])) := k6a
  have N6 := N0.app Nq6
  have e6 : T6.heap = h3 := eq6
  obtain ⟨cl7, Ar7, q7, S7, M7, G7, J7⟩ := id V3
  obtain ⟨T7, h7, X7, e7, W7, st7⟩ := stC X6 hx hZ e6 Ar7 (j := (0 : Int32)) (inb_of S7 ⟨by decide, by decide⟩) (g := (mkF m 12 l4 [(.int r6), (.int (0 : Int32)), (.ref b3)])) rfl rfl (hb hby at_12)
  have k7 : To p.tables e below S0 (T7.setTop (mkF m 13 l4 [])) := fun tt hq => k6 tt (st7 tt hq)
  have z7 : h7.size = h3.size := W7.size
  rw [own_narc hr6] at W7
  have V7 : Arv Z h7 b3 c3 .char (4 : Int32) [(.int r6), (.int (0 : Int32)), (.int (0 : Int32)), (.int (0 : Int32))] (.int (0 : Int32)) := Arv.set Ar7 q7 S7 M7 G7 J7 (own_fitc hr6) W7 0 rfl (Nat.le_of_ble_eq_true rfl)
  have N7 := Fr.snoc X7 N6 (by omega : n0 ≤ b3)
  have k8 : To p.tables e below S0 (T7.setTop (mkF m 17 l4 [(.int p1), (.int (1 : Int32)), (.ref b3)])) := fun tt hq => k7 tt (by
    show Steps _ _ _ (T7.setTop (mkF m 13 l4 [])) _
    refine XS.aload X7.here hx rfl (hb hby at_13) rfl rfl ?_
    show Steps _ _ _ (T7.setTop (mkF m 15 l4 [(.ref b3)])) _
    refine XS.iconst X7.here hx rfl (hb hby at_15) ?_
    show Steps _ _ _ (T7.setTop (mkF m 16 l4 [(.int (1 : Int32)), (.ref b3)])) _
    refine XS.iloadN X7.here hx rfl (hb hby at_16) rfl ?_
    show Steps _ _ _ (T7.setTop (mkF m 17 l4 [(.int p1), (.int (1 : Int32)), (.ref b3)])) _
    exact hq)
  obtain ⟨_, T9, L9, X9, ⟨r9, rfl, Nq9, eq9, hr9⟩, k9a⟩ := callS' X7 hx hZ (y := (⟨"com/example/apportion/apportion/input/DecimalsFirstWholeDigitPinLaw", "ch", "(I)C"⟩ : MethodName)) hown (hw _ (List.mem_of_getElem? (i := 1) rfl)) (hw _ (List.mem_of_getElem? (i := 2) rfl)) (hw _ (List.mem_of_getElem? (i := 3) rfl)) (hw _ (List.mem_of_getElem? (i := 4) rfl)) (by decide) (backC (W := 2) (rm_ch l Z a0 hw p1 h7 n0 (by omega)) hZ (hw _ (List.mem_of_getElem? (i := 4) rfl)) (hw _ (List.mem_of_getElem? (i := 3) rfl)) (by decide) (by decide)) e7 (argsL := [(.int p1)]) (rest := [(.int (1 : Int32)), (.ref b3)]) rfl rfl pd_8 rfl (by rw [hml]; rfl) (hb hby at_17) (Nat.le_of_eq rfl) (by decide) (by decide) k8
  have k9 : To p.tables e below S0 (T9.setTop (mkF m 20 l4 [(.int r9), (.int (1 : Int32)), (.ref b3)])) := k9a
  have N9 := N7.app Nq9
  have e9 : T9.heap = h7 := eq9
  obtain ⟨cl10, Ar10, q10, S10, M10, G10, J10⟩ := id V7
  obtain ⟨T10, h10, X10, e10, W10, st10⟩ := stC X9 hx hZ e9 Ar10 (j := (1 : Int32)) (inb_of S10 ⟨by decide, by decide⟩) (g := (mkF m 20 l4 [(.int r9), (.int (1 : Int32)), (.ref b3)])) rfl rfl (hb hby at_20)
  have k10 : To p.tables e below S0 (T10.setTop (mkF m 21 l4 [])) := fun tt hq => k9 tt (st10 tt hq)
  have z10 : h10.size = h7.size := W10.size
  rw [own_narc hr9] at W10
  have V10 : Arv Z h10 b3 c3 .char (4 : Int32) [(.int r6), (.int r9), (.int (0 : Int32)), (.int (0 : Int32))] (.int (0 : Int32)) := Arv.set Ar10 q10 S10 M10 G10 J10 (own_fitc hr9) W10 1 rfl (Nat.le_of_ble_eq_true rfl)
  have N10 := Fr.snoc X10 N9 (by omega : n0 ≤ b3)
  have k11 : To p.tables e below S0 (T10.setTop (mkF m 25 l4 [(.int p2), (.int (2 : Int32)), (.ref b3)])) := fun tt hq => k10 tt (by
    show Steps _ _ _ (T10.setTop (mkF m 21 l4 [])) _
    refine XS.aload X10.here hx rfl (hb hby at_21) rfl rfl ?_
    show Steps _ _ _ (T10.setTop (mkF m 23 l4 [(.ref b3)])) _
    refine XS.iconst X10.here hx rfl (hb hby at_23) ?_
    show Steps _ _ _ (T10.setTop (mkF m 24 l4 [(.int (2 : Int32)), (.ref b3)])) _
    refine XS.iloadN X10.here hx rfl (hb hby at_24) rfl ?_
    show Steps _ _ _ (T10.setTop (mkF m 25 l4 [(.int p2), (.int (2 : Int32)), (.ref b3)])) _
    exact hq)
  obtain ⟨_, T12, L12, X12, ⟨r12, rfl, Nq12, eq12, hr12⟩, k12a⟩ := callS' X10 hx hZ (y := (⟨"com/example/apportion/apportion/input/DecimalsFirstWholeDigitPinLaw", "ch", "(I)C"⟩ : MethodName)) hown (hw _ (List.mem_of_getElem? (i := 1) rfl)) (hw _ (List.mem_of_getElem? (i := 2) rfl)) (hw _ (List.mem_of_getElem? (i := 3) rfl)) (hw _ (List.mem_of_getElem? (i := 4) rfl)) (by decide) (backC (W := 2) (rm_ch l Z a0 hw p2 h10 n0 (by omega)) hZ (hw _ (List.mem_of_getElem? (i := 4) rfl)) (hw _ (List.mem_of_getElem? (i := 3) rfl)) (by decide) (by decide)) e10 (argsL := [(.int p2)]) (rest := [(.int (2 : Int32)), (.ref b3)]) rfl rfl pd_8 rfl (by rw [hml]; rfl) (hb hby at_25) (Nat.le_of_eq rfl) (by decide) (by decide) k11
  have k12 : To p.tables e below S0 (T12.setTop (mkF m 28 l4 [(.int r12), (.int (2 : Int32)), (.ref b3)])) := k12a
  have N12 := N10.app Nq12
  have e12 : T12.heap = h10 := eq12
  obtain ⟨cl13, Ar13, q13, S13, M13, G13, J13⟩ := id V10
  obtain ⟨T13, h13, X13, e13, W13, st13⟩ := stC X12 hx hZ e12 Ar13 (j := (2 : Int32)) (inb_of S13 ⟨by decide, by decide⟩) (g := (mkF m 28 l4 [(.int r12), (.int (2 : Int32)), (.ref b3)])) rfl rfl (hb hby at_28)
  have k13 : To p.tables e below S0 (T13.setTop (mkF m 29 l4 [])) := fun tt hq => k12 tt (st13 tt hq)
  have z13 : h13.size = h10.size := W13.size
  rw [own_narc hr12] at W13
  have V13 : Arv Z h13 b3 c3 .char (4 : Int32) [(.int r6), (.int r9), (.int r12), (.int (0 : Int32))] (.int (0 : Int32)) := Arv.set Ar13 q13 S13 M13 G13 J13 (own_fitc hr12) W13 2 rfl (Nat.le_of_ble_eq_true rfl)
  have N13 := Fr.snoc X13 N12 (by omega : n0 ≤ b3)
  have k14 : To p.tables e below S0 (T13.setTop (mkF m 33 l4 [(.int p3), (.int (3 : Int32)), (.ref b3)])) := fun tt hq => k13 tt (by
    show Steps _ _ _ (T13.setTop (mkF m 29 l4 [])) _
    refine XS.aload X13.here hx rfl (hb hby at_29) rfl rfl ?_
    show Steps _ _ _ (T13.setTop (mkF m 31 l4 [(.ref b3)])) _
    refine XS.iconst X13.here hx rfl (hb hby at_31) ?_
    show Steps _ _ _ (T13.setTop (mkF m 32 l4 [(.int (3 : Int32)), (.ref b3)])) _
    refine XS.iloadN X13.here hx rfl (hb hby at_32) rfl ?_
    show Steps _ _ _ (T13.setTop (mkF m 33 l4 [(.int p3), (.int (3 : Int32)), (.ref b3)])) _
    exact hq)
  obtain ⟨_, T15, L15, X15, ⟨r15, rfl, Nq15, eq15, hr15⟩, k15a⟩ := callS' X13 hx hZ (y := (⟨"com/example/apportion/apportion/input/DecimalsFirstWholeDigitPinLaw", "ch", "(I)C"⟩ : MethodName)) hown (hw _ (List.mem_of_getElem? (i := 1) rfl)) (hw _ (List.mem_of_getElem? (i := 2) rfl)) (hw _ (List.mem_of_getElem? (i := 3) rfl)) (hw _ (List.mem_of_getElem? (i := 4) rfl)) (by decide) (backC (W := 2) (rm_ch l Z a0 hw p3 h13 n0 (by omega)) hZ (hw _ (List.mem_of_getElem? (i := 4) rfl)) (hw _ (List.mem_of_getElem? (i := 3) rfl)) (by decide) (by decide)) e13 (argsL := [(.int p3)]) (rest := [(.int (3 : Int32)), (.ref b3)]) rfl rfl pd_8 rfl (by rw [hml]; rfl) (hb hby at_33) (Nat.le_of_eq rfl) (by decide) (by decide) k14
  have k15 : To p.tables e below S0 (T15.setTop (mkF m 36 l4 [(.int r15), (.int (3 : Int32)), (.ref b3)])) := k15a
  have N15 := N13.app Nq15
  have e15 : T15.heap = h13 := eq15
  obtain ⟨cl16, Ar16, q16, S16, M16, G16, J16⟩ := id V13
  obtain ⟨T16, h16, X16, e16, W16, st16⟩ := stC X15 hx hZ e15 Ar16 (j := (3 : Int32)) (inb_of S16 ⟨by decide, by decide⟩) (g := (mkF m 36 l4 [(.int r15), (.int (3 : Int32)), (.ref b3)])) rfl rfl (hb hby at_36)
  have k16 : To p.tables e below S0 (T16.setTop (mkF m 37 l4 [])) := fun tt hq => k15 tt (st16 tt hq)
  have z16 : h16.size = h13.size := W16.size
  rw [own_narc hr15] at W16
  have V16 : Arv Z h16 b3 c3 .char (4 : Int32) [(.int r6), (.int r9), (.int r12), (.int r15)] (.int (0 : Int32)) := Arv.set Ar16 q16 S16 M16 G16 J16 (own_fitc hr15) W16 3 rfl (Nat.le_of_ble_eq_true rfl)
  have N16 := Fr.snoc X16 N15 (by omega : n0 ≤ b3)
  obtain ⟨T17, h17, X17, e17, E17, A17, D17, -, st17⟩ := newO X16 hx hZ hown (hw _ (List.mem_of_getElem? (i := 5) rfl)) (hw _ (List.mem_of_getElem? (i := 6) rfl)) (hw _ (List.mem_of_getElem? (i := 7) rfl)) e16 (g := (mkF m 37 l4 [])) rfl (hb hby at_37) (by decide) (by decide)
  obtain ⟨b17, g17⟩ : ∃ z, z = h16.size := ⟨_, rfl⟩
  rw [← g17] at A17 D17 st17
  have k17 : To p.tables e below S0 (T17.setTop (mkF m 40 l4 [(.ref b17)])) := fun tt hq => k16 tt (st17 tt hq)
  have z17 : h16.size ≤ h17.size := E17.1
  have y17 : @LT.lt Nat instLTNat b17 h17.size := A17.lt
  have F17_coder : Fld Z h17 b17 "java/lang/String" "coder" "B" (.int (0 : Int32)) := D17 (Or.inr (hw _ (List.mem_of_getElem? (i := 31) rfl))) (ty := .byte) (by decide)
  have F17_value : Fld Z h17 b17 "java/lang/String" "value" "[B" .null := D17 (Or.inr (hw _ (List.mem_of_getElem? (i := 33) rfl))) (ty := (.array .byte)) (by decide)
  have k18 : To p.tables e below S0 (T17.setTop (mkF m 43 l4 [(.ref b3), (.ref b17), (.ref b17)])) := fun tt hq => k17 tt (by
    show Steps _ _ _ (T17.setTop (mkF m 40 l4 [(.ref b17)])) _
    refine XS.dup X17.here hx rfl (hb hby at_40) rfl rfl ?_
    show Steps _ _ _ (T17.setTop (mkF m 41 l4 [(.ref b17), (.ref b17)])) _
    refine XS.aload X17.here hx rfl (hb hby at_41) rfl rfl ?_
    show Steps _ _ _ (T17.setTop (mkF m 43 l4 [(.ref b3), (.ref b17), (.ref b17)])) _
    exact hq)
  have f19 : Old Z n0 h17 := ((((((O0.ext E3).wr W7 (by omega)).wr W10 (by omega)).wr W13 (by omega)).wr W16 (by omega)).ext E17)
  have f20 : Arv Z h17 b3 c3 .char (4 : Int32) [(.int r6), (.int r9), (.int r12), (.int r15)] (.int (0 : Int32)) := (V16.ext E17)
  obtain ⟨_, T21, L21, X21, ⟨rfl, Nq21, Kq21, t21, kt21, gt21, P210, P211, P212, P213⟩, k21a⟩ := callC' X17 hx hZ (y := (⟨"java/lang/String", "<init>", "([C)V"⟩ : MethodName)) rfl hown (hw _ (List.mem_of_getElem? (i := 8) rfl)) (hw _ (List.mem_of_getElem? (i := 9) rfl)) (hw _ (List.mem_of_getElem? (i := 10) rfl)) (by decide) (backC (W := 1) (rm_n1_4 l Z a0 hw zc b17 b3 c3 .null (.int (0 : Int32)) r6 r9 r12 r15 h17 n0 (by omega) S_c hzc f19 A17 F17_value F17_coder f20 (by omega) (by omega) (by omega) (by omega) hr6 hr9 hr12 hr15) hZ (hw _ (List.mem_of_getElem? (i := 10) rfl)) (hw _ (List.mem_of_getElem? (i := 7) rfl)) (by decide) (by decide)) e17 (argsL := [(.ref b3)]) (rest := [(.ref b17)]) rfl rfl pd_9 rfl (by rw [hml]; rfl) (hb hby at_43) (Nat.le_of_eq rfl) (by decide) (by decide) k18
  have k21 : To p.tables e below S0 (T21.setTop (mkF m 46 l4 [(.ref b17)])) := k21a
  have N21 := N16.app Nq21
  obtain ⟨h21, e21⟩ : ∃ z, T21.heap = z := ⟨_, rfl⟩
  rw [e21] at Kq21 P210 P211 P212 P213
  have z21 : h17.size ≤ h21.size := Kq21.1
  have y21 : @LT.lt Nat instLTNat t21 h21.size := P213.lt
  let l22 : Array Slot := #[.val (.int p0), .val (.int p1), .val (.int p2), .val (.int p3), .val (.int p4), .val (.int p5), .val (.ref b3), .val (.ref b17), .unset, .unset, .unset]
  have k23 : To p.tables e below S0 (T21.setTop (mkF m 55 l22 [(.int ((p4 &&& (2147483647 : Int32)) % (5 : Int32)))])) := fun tt hq => k21 tt (by
    show Steps _ _ _ (T21.setTop (mkF m 46 l4 [(.ref b17)])) _
    refine XS.astore X21.here hx rfl (hb hby at_46) rfl rfl (l' := l22) rfl ?_
    show Steps _ _ _ (T21.setTop (mkF m 48 l22 [])) _
    refine XS.iload X21.here hx rfl (hb hby at_48) rfl ?_
    show Steps _ _ _ (T21.setTop (mkF m 50 l22 [(.int p4)])) _
    refine X21.ldcInt hx hown (mvT hZ (hw _ (List.mem_of_getElem? (i := 34) rfl))) (g := (mkF m 50 l22 [(.int p4)])) rfl (hb hby at_50) _ ?_
    show Steps _ _ _ (T21.setTop (mkF m 52 l22 [(.int (2147483647 : Int32)), (.int p4)])) _
    refine XS.iand X21.here hx rfl (hb hby at_52) rfl ?_
    show Steps _ _ _ (T21.setTop (mkF m 53 l22 [(.int (p4 &&& (2147483647 : Int32)))])) _
    refine XS.iconst X21.here hx rfl (hb hby at_53) ?_
    show Steps _ _ _ (T21.setTop (mkF m 54 l22 [(.int (5 : Int32)), (.int (p4 &&& (2147483647 : Int32)))])) _
    refine iremM X21 hx rfl (hb hby at_54) rfl (by decide) ?_
    show Steps _ _ _ (T21.setTop (mkF m 55 l22 [(.int ((p4 &&& (2147483647 : Int32)) % (5 : Int32)))])) _
    exact hq)
  rcases own_md5 p4 with ht24 | ht24 | ht24 | ht24 | ht24
  · -- pc 55: (0 : Int32)
    have k25 : To p.tables e below S0 (T21.setTop (mkF m 55 l22 [(.int (0 : Int32))])) := by have hq := k23; rw [ht24] at hq; exact hq
    let l26 : Array Slot := #[.val (.int p0), .val (.int p1), .val (.int p2), .val (.int p3), .val (.int p4), .val (.int p5), .val (.ref b3), .val (.ref b17), .val (.int (0 : Int32)), .unset, .unset]
    have k27 : To p.tables e below S0 (T21.setTop (mkF m 69 l26 [(.int ((p5 &&& (2147483647 : Int32)) % (5 : Int32))), (.int (0 : Int32))])) := fun tt hq => k25 tt (by
      show Steps _ _ _ (T21.setTop (mkF m 55 l22 [(.int (0 : Int32))])) _
      refine XS.istore X21.here hx rfl (hb hby at_55) rfl (l' := l26) rfl ?_
      show Steps _ _ _ (T21.setTop (mkF m 57 l26 [])) _
      refine XS.iload X21.here hx rfl (hb hby at_57) rfl ?_
      show Steps _ _ _ (T21.setTop (mkF m 59 l26 [(.int (0 : Int32))])) _
      refine XS.iload X21.here hx rfl (hb hby at_59) rfl ?_
      show Steps _ _ _ (T21.setTop (mkF m 61 l26 [(.int p5), (.int (0 : Int32))])) _
      refine X21.ldcInt hx hown (mvT hZ (hw _ (List.mem_of_getElem? (i := 34) rfl))) (g := (mkF m 61 l26 [(.int p5), (.int (0 : Int32))])) rfl (hb hby at_61) _ ?_
      show Steps _ _ _ (T21.setTop (mkF m 63 l26 [(.int (2147483647 : Int32)), (.int p5), (.int (0 : Int32))])) _
      refine XS.iand X21.here hx rfl (hb hby at_63) rfl ?_
      show Steps _ _ _ (T21.setTop (mkF m 64 l26 [(.int (p5 &&& (2147483647 : Int32))), (.int (0 : Int32))])) _
      refine XS.iconst X21.here hx rfl (hb hby at_64) ?_
      show Steps _ _ _ (T21.setTop (mkF m 65 l26 [(.int (5 : Int32)), (.int (p5 &&& (2147483647 : Int32))), (.int (0 : Int32))])) _
      refine XS.iload X21.here hx rfl (hb hby at_65) rfl ?_
      show Steps _ _ _ (T21.setTop (mkF m 67 l26 [(.int (0 : Int32)), (.int (5 : Int32)), (.int (p5 &&& (2147483647 : Int32))), (.int (0 : Int32))])) _
      refine XS.isub X21.here hx rfl (hb hby at_67) rfl ?_
      show Steps _ _ _ (T21.setTop (mkF m 68 l26 [(.int (5 : Int32)), (.int (p5 &&& (2147483647 : Int32))), (.int (0 : Int32))])) _
      refine iremM X21 hx rfl (hb hby at_68) rfl (by decide) ?_
      show Steps _ _ _ (T21.setTop (mkF m 69 l26 [(.int ((p5 &&& (2147483647 : Int32)) % (5 : Int32))), (.int (0 : Int32))])) _
      exact hq)
    rcases own_md5 p5 with ht28 | ht28 | ht28 | ht28 | ht28
    · -- pc 69: (0 : Int32)
      have k29 : To p.tables e below S0 (T21.setTop (mkF m 69 l26 [(.int (0 : Int32)), (.int (0 : Int32))])) := by have hq := k27; rw [ht28] at hq; exact hq
      let l30 : Array Slot := #[.val (.int p0), .val (.int p1), .val (.int p2), .val (.int p3), .val (.int p4), .val (.int p5), .val (.ref b3), .val (.ref b17), .val (.int (0 : Int32)), .val (.int (0 : Int32)), .unset]
      let l31 : Array Slot := #[.val (.int p0), .val (.int p1), .val (.int p2), .val (.int p3), .val (.int p4), .val (.int p5), .val (.ref b3), .val (.ref b17), .val (.int (0 : Int32)), .val (.int (0 : Int32)), .val (.int (0 : Int32))]
      have k32 : To p.tables e below S0 (T21.setTop (mkF m 83 l31 [(.int (0 : Int32)), (.int (0 : Int32)), (.int (3 : Int32)), (.ref b3)])) := fun tt hq => k29 tt (by
        show Steps _ _ _ (T21.setTop (mkF m 69 l26 [(.int (0 : Int32)), (.int (0 : Int32))])) _
        refine XS.iadd X21.here hx rfl (hb hby at_69) rfl ?_
        show Steps _ _ _ (T21.setTop (mkF m 70 l26 [(.int (0 : Int32))])) _
        refine XS.istore X21.here hx rfl (hb hby at_70) rfl (l' := l30) rfl ?_
        show Steps _ _ _ (T21.setTop (mkF m 72 l30 [])) _
        refine XS.iload X21.here hx rfl (hb hby at_72) rfl ?_
        show Steps _ _ _ (T21.setTop (mkF m 74 l30 [(.int (0 : Int32))])) _
        refine XS.istore X21.here hx rfl (hb hby at_74) rfl (l' := l31) rfl ?_
        show Steps _ _ _ (T21.setTop (mkF m 76 l31 [])) _
        refine XS.aload X21.here hx rfl (hb hby at_76) rfl rfl ?_
        show Steps _ _ _ (T21.setTop (mkF m 78 l31 [(.ref b3)])) _
        refine XS.iconst X21.here hx rfl (hb hby at_78) ?_
        show Steps _ _ _ (T21.setTop (mkF m 79 l31 [(.int (3 : Int32)), (.ref b3)])) _
        refine XS.iload X21.here hx rfl (hb hby at_79) rfl ?_
        show Steps _ _ _ (T21.setTop (mkF m 81 l31 [(.int (0 : Int32)), (.int (3 : Int32)), (.ref b3)])) _
        refine XS.iload X21.here hx rfl (hb hby at_81) rfl ?_
        show Steps _ _ _ (T21.setTop (mkF m 83 l31 [(.int (0 : Int32)), (.int (0 : Int32)), (.int (3 : Int32)), (.ref b3)])) _
        exact hq)
      have f33 : Arv Z h21 b3 c3 .char (4 : Int32) [(.int r6), (.int r9), (.int r12), (.int r15)] (.int (0 : Int32)) := (f20.keep Kq21 (ninS (adr_ne (by omega)) nin0))
      obtain ⟨_, T34, L34, X34, ⟨rfl, Nq34, eq34⟩, k34a⟩ := callS' X21 hx hZ (y := (⟨"com/example/apportion/apportion/input/DecimalsFirstWholeDigitPinLaw", "stops", "([CIII)Z"⟩ : MethodName)) hown (hw _ (List.mem_of_getElem? (i := 35) rfl)) (hw _ (List.mem_of_getElem? (i := 36) rfl)) (hw _ (List.mem_of_getElem? (i := 3) rfl)) (hw _ (List.mem_of_getElem? (i := 37) rfl)) (by decide) (backC (W := 0) (rm_st3_0_0 l Z a0 hw b3 c3 r6 r9 r12 r15 (0 : Int32) h21 n0 (by omega) f33 rfl) hZ (hw _ (List.mem_of_getElem? (i := 37) rfl)) (hw _ (List.mem_of_getElem? (i := 3) rfl)) (by decide) (by decide)) e21 (argsL := [(.ref b3), (.int (3 : Int32)), (.int (0 : Int32)), (.int (0 : Int32))]) (rest := []) rfl rfl pd_10 rfl (by rw [hml]; rfl) (hb hby at_83) (Nat.le_of_eq rfl) (by decide) (by decide) k32
      have k34 : To p.tables e below S0 (T34.setTop (mkF m 86 l31 [(.int (0 : Int32))])) := k34a
      have N34 := N21.app Nq34
      have e34 : T34.heap = h21 := eq34
      have k35 : To p.tables e below S0 (T34.setTop (mkF m 99 l31 [(.int (0 : Int32)), (.int (0 : Int32)), (.int (2 : Int32)), (.ref b3)])) := fun tt hq => k34 tt (by
        show Steps _ _ _ (T34.setTop (mkF m 86 l31 [(.int (0 : Int32))])) _
        refine XS.ifYes X34.here hx rfl (pc0 := 86) (pc' := 92) rfl (hb hby at_86) rfl ((if0 _ _).trans (teq (by decide)).1) (by decide) (by decide) ?_
        show Steps _ _ _ (T34.setTop (mkF m 92 l31 [])) _
        refine XS.aload X34.here hx rfl (hb hby at_92) rfl rfl ?_
        show Steps _ _ _ (T34.setTop (mkF m 94 l31 [(.ref b3)])) _
        refine XS.iconst X34.here hx rfl (hb hby at_94) ?_
        show Steps _ _ _ (T34.setTop (mkF m 95 l31 [(.int (2 : Int32)), (.ref b3)])) _
        refine XS.iload X34.here hx rfl (hb hby at_95) rfl ?_
        show Steps _ _ _ (T34.setTop (mkF m 97 l31 [(.int (0 : Int32)), (.int (2 : Int32)), (.ref b3)])) _
        refine XS.iload X34.here hx rfl (hb hby at_97) rfl ?_
        show Steps _ _ _ (T34.setTop (mkF m 99 l31 [(.int (0 : Int32)), (.int (0 : Int32)), (.int (2 : Int32)), (.ref b3)])) _
        exact hq)
      obtain ⟨_, T36, L36, X36, ⟨rfl, Nq36, eq36⟩, k36a⟩ := callS' X34 hx hZ (y := (⟨"com/example/apportion/apportion/input/DecimalsFirstWholeDigitPinLaw", "stops", "([CIII)Z"⟩ : MethodName)) hown (hw _ (List.mem_of_getElem? (i := 35) rfl)) (hw _ (List.mem_of_getElem? (i := 36) rfl)) (hw _ (List.mem_of_getElem? (i := 3) rfl)) (hw _ (List.mem_of_getElem? (i := 37) rfl)) (by decide) (backC (W := 0) (rm_st2_0_0 l Z a0 hw b3 c3 r6 r9 r12 r15 (0 : Int32) h21 n0 (by omega) f33 rfl) hZ (hw _ (List.mem_of_getElem? (i := 37) rfl)) (hw _ (List.mem_of_getElem? (i := 3) rfl)) (by decide) (by decide)) e34 (argsL := [(.ref b3), (.int (2 : Int32)), (.int (0 : Int32)), (.int (0 : Int32))]) (rest := []) rfl rfl pd_10 rfl (by rw [hml]; rfl) (hb hby at_99) (Nat.le_of_eq rfl) (by decide) (by decide) k35
      have k36 : To p.tables e below S0 (T36.setTop (mkF m 102 l31 [(.int (0 : Int32))])) := k36a
      have N36 := N34.app Nq36
      have e36 : T36.heap = h21 := eq36
      have k37 : To p.tables e below S0 (T36.setTop (mkF m 115 l31 [(.int (0 : Int32)), (.int (0 : Int32)), (.int (1 : Int32)), (.ref b3)])) := fun tt hq => k36 tt (by
        show Steps _ _ _ (T36.setTop (mkF m 102 l31 [(.int (0 : Int32))])) _
        refine XS.ifYes X36.here hx rfl (pc0 := 102) (pc' := 108) rfl (hb hby at_102) rfl ((if0 _ _).trans (teq (by decide)).1) (by decide) (by decide) ?_
        show Steps _ _ _ (T36.setTop (mkF m 108 l31 [])) _
        refine XS.aload X36.here hx rfl (hb hby at_108) rfl rfl ?_
        show Steps _ _ _ (T36.setTop (mkF m 110 l31 [(.ref b3)])) _
        refine XS.iconst X36.here hx rfl (hb hby at_110) ?_
        show Steps _ _ _ (T36.setTop (mkF m 111 l31 [(.int (1 : Int32)), (.ref b3)])) _
        refine XS.iload X36.here hx rfl (hb hby at_111) rfl ?_
        show Steps _ _ _ (T36.setTop (mkF m 113 l31 [(.int (0 : Int32)), (.int (1 : Int32)), (.ref b3)])) _
        refine XS.iload X36.here hx rfl (hb hby at_113) rfl ?_
        show Steps _ _ _ (T36.setTop (mkF m 115 l31 [(.int (0 : Int32)), (.int (0 : Int32)), (.int (1 : Int32)), (.ref b3)])) _
        exact hq)
      obtain ⟨_, T38, L38, X38, ⟨rfl, Nq38, eq38⟩, k38a⟩ := callS' X36 hx hZ (y := (⟨"com/example/apportion/apportion/input/DecimalsFirstWholeDigitPinLaw", "stops", "([CIII)Z"⟩ : MethodName)) hown (hw _ (List.mem_of_getElem? (i := 35) rfl)) (hw _ (List.mem_of_getElem? (i := 36) rfl)) (hw _ (List.mem_of_getElem? (i := 3) rfl)) (hw _ (List.mem_of_getElem? (i := 37) rfl)) (by decide) (backC (W := 0) (rm_st1_0_0 l Z a0 hw b3 c3 r6 r9 r12 r15 (0 : Int32) h21 n0 (by omega) f33 rfl) hZ (hw _ (List.mem_of_getElem? (i := 37) rfl)) (hw _ (List.mem_of_getElem? (i := 3) rfl)) (by decide) (by decide)) e36 (argsL := [(.ref b3), (.int (1 : Int32)), (.int (0 : Int32)), (.int (0 : Int32))]) (rest := []) rfl rfl pd_10 rfl (by rw [hml]; rfl) (hb hby at_115) (Nat.le_of_eq rfl) (by decide) (by decide) k37
      have k38 : To p.tables e below S0 (T38.setTop (mkF m 118 l31 [(.int (0 : Int32))])) := k38a
      have N38 := N36.app Nq38
      have e38 : T38.heap = h21 := eq38
      have k39 : To p.tables e below S0 (T38.setTop (mkF m 131 l31 [(.int (0 : Int32)), (.int (0 : Int32)), (.int (0 : Int32)), (.ref b3)])) := fun tt hq => k38 tt (by
        show Steps _ _ _ (T38.setTop (mkF m 118 l31 [(.int (0 : Int32))])) _
        refine XS.ifYes X38.here hx rfl (pc0 := 118) (pc' := 124) rfl (hb hby at_118) rfl ((if0 _ _).trans (teq (by decide)).1) (by decide) (by decide) ?_
        show Steps _ _ _ (T38.setTop (mkF m 124 l31 [])) _
        refine XS.aload X38.here hx rfl (hb hby at_124) rfl rfl ?_
        show Steps _ _ _ (T38.setTop (mkF m 126 l31 [(.ref b3)])) _
        refine XS.iconst X38.here hx rfl (hb hby at_126) ?_
        show Steps _ _ _ (T38.setTop (mkF m 127 l31 [(.int (0 : Int32)), (.ref b3)])) _
        refine XS.iload X38.here hx rfl (hb hby at_127) rfl ?_
        show Steps _ _ _ (T38.setTop (mkF m 129 l31 [(.int (0 : Int32)), (.int (0 : Int32)), (.ref b3)])) _
        refine XS.iload X38.here hx rfl (hb hby at_129) rfl ?_
        show Steps _ _ _ (T38.setTop (mkF m 131 l31 [(.int (0 : Int32)), (.int (0 : Int32)), (.int (0 : Int32)), (.ref b3)])) _
        exact hq)
      obtain ⟨_, T40, L40, X40, ⟨rfl, Nq40, eq40⟩, k40a⟩ := callS' X38 hx hZ (y := (⟨"com/example/apportion/apportion/input/DecimalsFirstWholeDigitPinLaw", "stops", "([CIII)Z"⟩ : MethodName)) hown (hw _ (List.mem_of_getElem? (i := 35) rfl)) (hw _ (List.mem_of_getElem? (i := 36) rfl)) (hw _ (List.mem_of_getElem? (i := 3) rfl)) (hw _ (List.mem_of_getElem? (i := 37) rfl)) (by decide) (backC (W := 0) (rm_st0_0_0 l Z a0 hw b3 c3 r6 r9 r12 r15 (0 : Int32) h21 n0 (by omega) f33 rfl) hZ (hw _ (List.mem_of_getElem? (i := 37) rfl)) (hw _ (List.mem_of_getElem? (i := 3) rfl)) (by decide) (by decide)) e38 (argsL := [(.ref b3), (.int (0 : Int32)), (.int (0 : Int32)), (.int (0 : Int32))]) (rest := []) rfl rfl pd_10 rfl (by rw [hml]; rfl) (hb hby at_131) (Nat.le_of_eq rfl) (by decide) (by decide) k39
      have k40 : To p.tables e below S0 (T40.setTop (mkF m 134 l31 [(.int (0 : Int32))])) := k40a
      have N40 := N38.app Nq40
      have e40 : T40.heap = h21 := eq40
      have k41 : To p.tables e below S0 (T40.setTop (mkF m 146 l31 [(.int (0 : Int32)), (.int (0 : Int32)), (.ref b17)])) := fun tt hq => k40 tt (by
        show Steps _ _ _ (T40.setTop (mkF m 134 l31 [(.int (0 : Int32))])) _
        refine XS.ifYes X40.here hx rfl (pc0 := 134) (pc' := 140) rfl (hb hby at_134) rfl ((if0 _ _).trans (teq (by decide)).1) (by decide) (by decide) ?_
        show Steps _ _ _ (T40.setTop (mkF m 140 l31 [])) _
        refine XS.aload X40.here hx rfl (hb hby at_140) rfl rfl ?_
        show Steps _ _ _ (T40.setTop (mkF m 142 l31 [(.ref b17)])) _
        refine XS.iload X40.here hx rfl (hb hby at_142) rfl ?_
        show Steps _ _ _ (T40.setTop (mkF m 144 l31 [(.int (0 : Int32)), (.ref b17)])) _
        refine XS.iload X40.here hx rfl (hb hby at_144) rfl ?_
        show Steps _ _ _ (T40.setTop (mkF m 146 l31 [(.int (0 : Int32)), (.int (0 : Int32)), (.ref b17)])) _
        exact hq)
      have f42 : Old Z n0 h21 := (f19.keep Kq21 (allS (by omega) all0))
      obtain ⟨_, T43, L43, X43, ⟨rfl, Nq43, eq43⟩, k43a⟩ := callS' X40 hx hZ (y := (⟨"com/example/apportion/apportion/input/Decimals", "firstWholeDigit", "(Ljava/lang/String;II)I"⟩ : MethodName)) hown (hw _ (List.mem_of_getElem? (i := 38) rfl)) (hw _ (List.mem_of_getElem? (i := 39) rfl)) (hw _ (List.mem_of_getElem? (i := 40) rfl)) (hw _ (List.mem_of_getElem? (i := 41) rfl)) (by decide) (backC (W := 0) (rm_fwd0_0 l Z a0 hw zc fm b17 t21 kt21 r6 r9 r12 r15 (0 : Int32) h21 n0 (by omega) S_c hzc S_f hfm f42 P210 P211 P212 P213 hr6 hr9 hr12 hr15 rfl) hZ (hw _ (List.mem_of_getElem? (i := 41) rfl)) (hw _ (List.mem_of_getElem? (i := 40) rfl)) (by decide) (by decide)) e40 (argsL := [(.ref b17), (.int (0 : Int32)), (.int (0 : Int32))]) (rest := []) rfl rfl pd_11 rfl (by rw [hml]; rfl) (hb hby at_146) (Nat.le_of_eq rfl) (by decide) (by decide) k41
      have k43 : To p.tables e below S0 (T43.setTop (mkF m 149 l31 [(.int (0 : Int32))])) := k43a
      have N43 := N40.app Nq43
      have e43 : T43.heap = h21 := eq43
      have k44 : To p.tables e below S0 (T43.setTop (mkF m 159 l31 [(.int (1 : Int32))])) := fun tt hq => k43 tt (by
        show Steps _ _ _ (T43.setTop (mkF m 149 l31 [(.int (0 : Int32))])) _
        refine XS.iload X43.here hx rfl (hb hby at_149) rfl ?_
        show Steps _ _ _ (T43.setTop (mkF m 151 l31 [(.int (0 : Int32)), (.int (0 : Int32))])) _
        refine XS.icmpNo X43.here hx rfl (hb hby at_151) rfl (teq (by decide)).2 ?_
        show Steps _ _ _ (T43.setTop (mkF m 154 l31 [])) _
        refine XS.iconst X43.here hx rfl (hb hby at_154) ?_
        show Steps _ _ _ (T43.setTop (mkF m 155 l31 [(.int (1 : Int32))])) _
        refine XS.goto X43.here hx rfl (pc0 := 155) (pc' := 159) rfl (hb hby at_155) (by decide) (by decide) ?_
        show Steps _ _ _ (T43.setTop (mkF m 159 l31 [(.int (1 : Int32))])) _
        exact hq)
      have hE := e43
      refine retInt X43 hx hret hlk (by simp) rfl (hb hby at_159) k44 ?_ (by decide) (by decide)
      try rw [hE]
      exact ⟨rfl, N43⟩
    · -- pc 69: (1 : Int32)
      have k45 : To p.tables e below S0 (T21.setTop (mkF m 69 l26 [(.int (1 : Int32)), (.int (0 : Int32))])) := by have hq := k27; rw [ht28] at hq; exact hq
      let l46 : Array Slot := #[.val (.int p0), .val (.int p1), .val (.int p2), .val (.int p3), .val (.int p4), .val (.int p5), .val (.ref b3), .val (.ref b17), .val (.int (0 : Int32)), .val (.int (1 : Int32)), .unset]
      let l47 : Array Slot := #[.val (.int p0), .val (.int p1), .val (.int p2), .val (.int p3), .val (.int p4), .val (.int p5), .val (.ref b3), .val (.ref b17), .val (.int (0 : Int32)), .val (.int (1 : Int32)), .val (.int (1 : Int32))]
      have k48 : To p.tables e below S0 (T21.setTop (mkF m 83 l47 [(.int (1 : Int32)), (.int (0 : Int32)), (.int (3 : Int32)), (.ref b3)])) := fun tt hq => k45 tt (by
        show Steps _ _ _ (T21.setTop (mkF m 69 l26 [(.int (1 : Int32)), (.int (0 : Int32))])) _
        refine XS.iadd X21.here hx rfl (hb hby at_69) rfl ?_
        show Steps _ _ _ (T21.setTop (mkF m 70 l26 [(.int (1 : Int32))])) _
        refine XS.istore X21.here hx rfl (hb hby at_70) rfl (l' := l46) rfl ?_
        show Steps _ _ _ (T21.setTop (mkF m 72 l46 [])) _
        refine XS.iload X21.here hx rfl (hb hby at_72) rfl ?_
        show Steps _ _ _ (T21.setTop (mkF m 74 l46 [(.int (1 : Int32))])) _
        refine XS.istore X21.here hx rfl (hb hby at_74) rfl (l' := l47) rfl ?_
        show Steps _ _ _ (T21.setTop (mkF m 76 l47 [])) _
        refine XS.aload X21.here hx rfl (hb hby at_76) rfl rfl ?_
        show Steps _ _ _ (T21.setTop (mkF m 78 l47 [(.ref b3)])) _
        refine XS.iconst X21.here hx rfl (hb hby at_78) ?_
        show Steps _ _ _ (T21.setTop (mkF m 79 l47 [(.int (3 : Int32)), (.ref b3)])) _
        refine XS.iload X21.here hx rfl (hb hby at_79) rfl ?_
        show Steps _ _ _ (T21.setTop (mkF m 81 l47 [(.int (0 : Int32)), (.int (3 : Int32)), (.ref b3)])) _
        refine XS.iload X21.here hx rfl (hb hby at_81) rfl ?_
        show Steps _ _ _ (T21.setTop (mkF m 83 l47 [(.int (1 : Int32)), (.int (0 : Int32)), (.int (3 : Int32)), (.ref b3)])) _
        exact hq)
      have f49 : Arv Z h21 b3 c3 .char (4 : Int32) [(.int r6), (.int r9), (.int r12), (.int r15)] (.int (0 : Int32)) := (f20.keep Kq21 (ninS (adr_ne (by omega)) nin0))
      obtain ⟨_, T50, L50, X50, ⟨rfl, Nq50, eq50⟩, k50a⟩ := callS' X21 hx hZ (y := (⟨"com/example/apportion/apportion/input/DecimalsFirstWholeDigitPinLaw", "stops", "([CIII)Z"⟩ : MethodName)) hown (hw _ (List.mem_of_getElem? (i := 35) rfl)) (hw _ (List.mem_of_getElem? (i := 36) rfl)) (hw _ (List.mem_of_getElem? (i := 3) rfl)) (hw _ (List.mem_of_getElem? (i := 37) rfl)) (by decide) (backC (W := 0) (rm_st3_0_1 l Z a0 hw b3 c3 r6 r9 r12 r15 (0 : Int32) h21 n0 (by omega) f49 rfl) hZ (hw _ (List.mem_of_getElem? (i := 37) rfl)) (hw _ (List.mem_of_getElem? (i := 3) rfl)) (by decide) (by decide)) e21 (argsL := [(.ref b3), (.int (3 : Int32)), (.int (0 : Int32)), (.int (1 : Int32))]) (rest := []) rfl rfl pd_10 rfl (by rw [hml]; rfl) (hb hby at_83) (Nat.le_of_eq rfl) (by decide) (by decide) k48
      have k50 : To p.tables e below S0 (T50.setTop (mkF m 86 l47 [(.int (0 : Int32))])) := k50a
      have N50 := N21.app Nq50
      have e50 : T50.heap = h21 := eq50
      have k51 : To p.tables e below S0 (T50.setTop (mkF m 99 l47 [(.int (1 : Int32)), (.int (0 : Int32)), (.int (2 : Int32)), (.ref b3)])) := fun tt hq => k50 tt (by
        show Steps _ _ _ (T50.setTop (mkF m 86 l47 [(.int (0 : Int32))])) _
        refine XS.ifYes X50.here hx rfl (pc0 := 86) (pc' := 92) rfl (hb hby at_86) rfl ((if0 _ _).trans (teq (by decide)).1) (by decide) (by decide) ?_
        show Steps _ _ _ (T50.setTop (mkF m 92 l47 [])) _
        refine XS.aload X50.here hx rfl (hb hby at_92) rfl rfl ?_
        show Steps _ _ _ (T50.setTop (mkF m 94 l47 [(.ref b3)])) _
        refine XS.iconst X50.here hx rfl (hb hby at_94) ?_
        show Steps _ _ _ (T50.setTop (mkF m 95 l47 [(.int (2 : Int32)), (.ref b3)])) _
        refine XS.iload X50.here hx rfl (hb hby at_95) rfl ?_
        show Steps _ _ _ (T50.setTop (mkF m 97 l47 [(.int (0 : Int32)), (.int (2 : Int32)), (.ref b3)])) _
        refine XS.iload X50.here hx rfl (hb hby at_97) rfl ?_
        show Steps _ _ _ (T50.setTop (mkF m 99 l47 [(.int (1 : Int32)), (.int (0 : Int32)), (.int (2 : Int32)), (.ref b3)])) _
        exact hq)
      obtain ⟨_, T52, L52, X52, ⟨rfl, Nq52, eq52⟩, k52a⟩ := callS' X50 hx hZ (y := (⟨"com/example/apportion/apportion/input/DecimalsFirstWholeDigitPinLaw", "stops", "([CIII)Z"⟩ : MethodName)) hown (hw _ (List.mem_of_getElem? (i := 35) rfl)) (hw _ (List.mem_of_getElem? (i := 36) rfl)) (hw _ (List.mem_of_getElem? (i := 3) rfl)) (hw _ (List.mem_of_getElem? (i := 37) rfl)) (by decide) (backC (W := 0) (rm_st2_0_1 l Z a0 hw b3 c3 r6 r9 r12 r15 (0 : Int32) h21 n0 (by omega) f49 rfl) hZ (hw _ (List.mem_of_getElem? (i := 37) rfl)) (hw _ (List.mem_of_getElem? (i := 3) rfl)) (by decide) (by decide)) e50 (argsL := [(.ref b3), (.int (2 : Int32)), (.int (0 : Int32)), (.int (1 : Int32))]) (rest := []) rfl rfl pd_10 rfl (by rw [hml]; rfl) (hb hby at_99) (Nat.le_of_eq rfl) (by decide) (by decide) k51
      have k52 : To p.tables e below S0 (T52.setTop (mkF m 102 l47 [(.int (0 : Int32))])) := k52a
      have N52 := N50.app Nq52
      have e52 : T52.heap = h21 := eq52
      have k53 : To p.tables e below S0 (T52.setTop (mkF m 115 l47 [(.int (1 : Int32)), (.int (0 : Int32)), (.int (1 : Int32)), (.ref b3)])) := fun tt hq => k52 tt (by
        show Steps _ _ _ (T52.setTop (mkF m 102 l47 [(.int (0 : Int32))])) _
        refine XS.ifYes X52.here hx rfl (pc0 := 102) (pc' := 108) rfl (hb hby at_102) rfl ((if0 _ _).trans (teq (by decide)).1) (by decide) (by decide) ?_
        show Steps _ _ _ (T52.setTop (mkF m 108 l47 [])) _
        refine XS.aload X52.here hx rfl (hb hby at_108) rfl rfl ?_
        show Steps _ _ _ (T52.setTop (mkF m 110 l47 [(.ref b3)])) _
        refine XS.iconst X52.here hx rfl (hb hby at_110) ?_
        show Steps _ _ _ (T52.setTop (mkF m 111 l47 [(.int (1 : Int32)), (.ref b3)])) _
        refine XS.iload X52.here hx rfl (hb hby at_111) rfl ?_
        show Steps _ _ _ (T52.setTop (mkF m 113 l47 [(.int (0 : Int32)), (.int (1 : Int32)), (.ref b3)])) _
        refine XS.iload X52.here hx rfl (hb hby at_113) rfl ?_
        show Steps _ _ _ (T52.setTop (mkF m 115 l47 [(.int (1 : Int32)), (.int (0 : Int32)), (.int (1 : Int32)), (.ref b3)])) _
        exact hq)
      obtain ⟨_, T54, L54, X54, ⟨rfl, Nq54, eq54⟩, k54a⟩ := callS' X52 hx hZ (y := (⟨"com/example/apportion/apportion/input/DecimalsFirstWholeDigitPinLaw", "stops", "([CIII)Z"⟩ : MethodName)) hown (hw _ (List.mem_of_getElem? (i := 35) rfl)) (hw _ (List.mem_of_getElem? (i := 36) rfl)) (hw _ (List.mem_of_getElem? (i := 3) rfl)) (hw _ (List.mem_of_getElem? (i := 37) rfl)) (by decide) (backC (W := 0) (rm_st1_0_1 l Z a0 hw b3 c3 r6 r9 r12 r15 (0 : Int32) h21 n0 (by omega) f49 rfl) hZ (hw _ (List.mem_of_getElem? (i := 37) rfl)) (hw _ (List.mem_of_getElem? (i := 3) rfl)) (by decide) (by decide)) e52 (argsL := [(.ref b3), (.int (1 : Int32)), (.int (0 : Int32)), (.int (1 : Int32))]) (rest := []) rfl rfl pd_10 rfl (by rw [hml]; rfl) (hb hby at_115) (Nat.le_of_eq rfl) (by decide) (by decide) k53
      have k54 : To p.tables e below S0 (T54.setTop (mkF m 118 l47 [(.int (0 : Int32))])) := k54a
      have N54 := N52.app Nq54
      have e54 : T54.heap = h21 := eq54
      have k55 : To p.tables e below S0 (T54.setTop (mkF m 131 l47 [(.int (1 : Int32)), (.int (0 : Int32)), (.int (0 : Int32)), (.ref b3)])) := fun tt hq => k54 tt (by
        show Steps _ _ _ (T54.setTop (mkF m 118 l47 [(.int (0 : Int32))])) _
        refine XS.ifYes X54.here hx rfl (pc0 := 118) (pc' := 124) rfl (hb hby at_118) rfl ((if0 _ _).trans (teq (by decide)).1) (by decide) (by decide) ?_
        show Steps _ _ _ (T54.setTop (mkF m 124 l47 [])) _
        refine XS.aload X54.here hx rfl (hb hby at_124) rfl rfl ?_
        show Steps _ _ _ (T54.setTop (mkF m 126 l47 [(.ref b3)])) _
        refine XS.iconst X54.here hx rfl (hb hby at_126) ?_
        show Steps _ _ _ (T54.setTop (mkF m 127 l47 [(.int (0 : Int32)), (.ref b3)])) _
        refine XS.iload X54.here hx rfl (hb hby at_127) rfl ?_
        show Steps _ _ _ (T54.setTop (mkF m 129 l47 [(.int (0 : Int32)), (.int (0 : Int32)), (.ref b3)])) _
        refine XS.iload X54.here hx rfl (hb hby at_129) rfl ?_
        show Steps _ _ _ (T54.setTop (mkF m 131 l47 [(.int (1 : Int32)), (.int (0 : Int32)), (.int (0 : Int32)), (.ref b3)])) _
        exact hq)
      obtain ⟨_, T56, L56, X56, ⟨rfl, Nq56, eq56⟩, k56a⟩ := callS' X54 hx hZ (y := (⟨"com/example/apportion/apportion/input/DecimalsFirstWholeDigitPinLaw", "stops", "([CIII)Z"⟩ : MethodName)) hown (hw _ (List.mem_of_getElem? (i := 35) rfl)) (hw _ (List.mem_of_getElem? (i := 36) rfl)) (hw _ (List.mem_of_getElem? (i := 3) rfl)) (hw _ (List.mem_of_getElem? (i := 37) rfl)) (by decide) (backC (W := 0) (rm_st0_0_1 l Z a0 hw b3 c3 r6 r9 r12 r15 (if r6 = (48 : Int32) then (0 : Int32) else 1) h21 n0 (by omega) f49 rfl) hZ (hw _ (List.mem_of_getElem? (i := 37) rfl)) (hw _ (List.mem_of_getElem? (i := 3) rfl)) (by decide) (by decide)) e54 (argsL := [(.ref b3), (.int (0 : Int32)), (.int (0 : Int32)), (.int (1 : Int32))]) (rest := []) rfl rfl pd_10 rfl (by rw [hml]; rfl) (hb hby at_131) (Nat.le_of_eq rfl) (by decide) (by decide) k55
      have k56 : To p.tables e below S0 (T56.setTop (mkF m 134 l47 [(.int (if r6 = (48 : Int32) then (0 : Int32) else 1))])) := k56a
      have N56 := N54.app Nq56
      have e56 : T56.heap = h21 := eq56
      let l58 : Array Slot := #[.val (.int p0), .val (.int p1), .val (.int p2), .val (.int p3), .val (.int p4), .val (.int p5), .val (.ref b3), .val (.ref b17), .val (.int (0 : Int32)), .val (.int (1 : Int32)), .val (.int (if (if r6 = (48 : Int32) then (0 : Int32) else 1) = (0 : Int32) then (1 : Int32) else (0 : Int32)))]
      refine joinT (S0 := S0) X56 e56 (mkF m 140 l58 []) (fun kont => ?_) (fun T57 X57 e57 k57 => ?_)
      · -- the roads to pc 140
        by_cases hc134_59 : (if r6 = (48 : Int32) then (0 : Int32) else 1) = (0 : Int32)
        · -- pc 134, holds
          have k60 : To p.tables e below S0 (T56.setTop (mkF m 140 l47 [])) := fun tt hq => k56 tt (by
            show Steps _ _ _ (T56.setTop (mkF m 134 l47 [(.int (if r6 = (48 : Int32) then (0 : Int32) else 1))])) _
            refine XS.ifYes X56.here hx rfl (pc0 := 134) (pc' := 140) rfl (hb hby at_134) rfl ((if0 _ _).trans (teq hc134_59).1) (by decide) (by decide) ?_
            show Steps _ _ _ (T56.setTop (mkF m 140 l47 [])) _
            exact hq)
          exact kont T56 X56 e56 (fun tt hq => k60 tt (by simpa only [if_pos hc134_59, l47, l58] using hq))
        · -- pc 134, holds not
          let l61 : Array Slot := #[.val (.int p0), .val (.int p1), .val (.int p2), .val (.int p3), .val (.int p4), .val (.int p5), .val (.ref b3), .val (.ref b17), .val (.int (0 : Int32)), .val (.int (1 : Int32)), .val (.int (0 : Int32))]
          have k62 : To p.tables e below S0 (T56.setTop (mkF m 140 l61 [])) := fun tt hq => k56 tt (by
            show Steps _ _ _ (T56.setTop (mkF m 134 l47 [(.int (if r6 = (48 : Int32) then (0 : Int32) else 1))])) _
            refine XS.ifNo X56.here hx rfl (hb hby at_134) rfl ((if0 _ _).trans (feq hc134_59).1) ?_
            show Steps _ _ _ (T56.setTop (mkF m 137 l47 [])) _
            refine XS.iconst X56.here hx rfl (hb hby at_137) ?_
            show Steps _ _ _ (T56.setTop (mkF m 138 l47 [(.int (0 : Int32))])) _
            refine XS.istore X56.here hx rfl (hb hby at_138) rfl (l' := l61) rfl ?_
            show Steps _ _ _ (T56.setTop (mkF m 140 l61 [])) _
            exact hq)
          exact kont T56 X56 e56 (fun tt hq => k62 tt (by simpa only [if_neg hc134_59, l61, l58] using hq))
      have k63 : To p.tables e below S0 (T57.setTop (mkF m 146 l58 [(.int (1 : Int32)), (.int (0 : Int32)), (.ref b17)])) := fun tt hq => k57 tt (by
        show Steps _ _ _ (T57.setTop (mkF m 140 l58 [])) _
        refine XS.aload X57.here hx rfl (hb hby at_140) rfl rfl ?_
        show Steps _ _ _ (T57.setTop (mkF m 142 l58 [(.ref b17)])) _
        refine XS.iload X57.here hx rfl (hb hby at_142) rfl ?_
        show Steps _ _ _ (T57.setTop (mkF m 144 l58 [(.int (0 : Int32)), (.ref b17)])) _
        refine XS.iload X57.here hx rfl (hb hby at_144) rfl ?_
        show Steps _ _ _ (T57.setTop (mkF m 146 l58 [(.int (1 : Int32)), (.int (0 : Int32)), (.ref b17)])) _
        exact hq)
      have f64 : Old Z n0 h21 := (f19.keep Kq21 (allS (by omega) all0))
      obtain ⟨_, T65, L65, X65, ⟨rfl, Nq65, eq65⟩, k65a⟩ := callS' X57 hx hZ (y := (⟨"com/example/apportion/apportion/input/Decimals", "firstWholeDigit", "(Ljava/lang/String;II)I"⟩ : MethodName)) hown (hw _ (List.mem_of_getElem? (i := 38) rfl)) (hw _ (List.mem_of_getElem? (i := 39) rfl)) (hw _ (List.mem_of_getElem? (i := 40) rfl)) (hw _ (List.mem_of_getElem? (i := 41) rfl)) (by decide) (backC (W := 0) (rm_fwd0_1 l Z a0 hw zc fm b17 t21 kt21 r6 r9 r12 r15 (if r6 = (48 : Int32) then (1 : Int32) else (0 : Int32)) h21 n0 (by omega) S_c hzc S_f hfm f64 P210 P211 P212 P213 hr6 hr9 hr12 hr15 rfl) hZ (hw _ (List.mem_of_getElem? (i := 41) rfl)) (hw _ (List.mem_of_getElem? (i := 40) rfl)) (by decide) (by decide)) e57 (argsL := [(.ref b17), (.int (0 : Int32)), (.int (1 : Int32))]) (rest := []) rfl rfl pd_11 rfl (by rw [hml]; rfl) (hb hby at_146) (Nat.le_of_eq rfl) (by decide) (by decide) k63
      have k65 : To p.tables e below S0 (T65.setTop (mkF m 149 l58 [(.int (if r6 = (48 : Int32) then (1 : Int32) else (0 : Int32)))])) := k65a
      have N65 := N56.app Nq65
      have e65 : T65.heap = h21 := eq65
      have k66 : To p.tables e below S0 (T65.setTop (mkF m 151 l58 [(.int (if (if r6 = (48 : Int32) then (0 : Int32) else 1) = (0 : Int32) then (1 : Int32) else (0 : Int32))), (.int (if r6 = (48 : Int32) then (1 : Int32) else (0 : Int32)))])) := fun tt hq => k65 tt (by
        show Steps _ _ _ (T65.setTop (mkF m 149 l58 [(.int (if r6 = (48 : Int32) then (1 : Int32) else (0 : Int32)))])) _
        refine XS.iload X65.here hx rfl (hb hby at_149) rfl ?_
        show Steps _ _ _ (T65.setTop (mkF m 151 l58 [(.int (if (if r6 = (48 : Int32) then (0 : Int32) else 1) = (0 : Int32) then (1 : Int32) else (0 : Int32))), (.int (if r6 = (48 : Int32) then (1 : Int32) else (0 : Int32)))])) _
        exact hq)
      by_cases hc151_67 : (if r6 = (48 : Int32) then (1 : Int32) else (0 : Int32)) = (if (if r6 = (48 : Int32) then (0 : Int32) else 1) = (0 : Int32) then (1 : Int32) else (0 : Int32))
      · -- pc 151, holds
        have k68 : To p.tables e below S0 (T65.setTop (mkF m 159 l58 [(.int (1 : Int32))])) := fun tt hq => k66 tt (by
          show Steps _ _ _ (T65.setTop (mkF m 151 l58 [(.int (if (if r6 = (48 : Int32) then (0 : Int32) else 1) = (0 : Int32) then (1 : Int32) else (0 : Int32))), (.int (if r6 = (48 : Int32) then (1 : Int32) else (0 : Int32)))])) _
          refine XS.icmpNo X65.here hx rfl (hb hby at_151) rfl (teq hc151_67).2 ?_
          show Steps _ _ _ (T65.setTop (mkF m 154 l58 [])) _
          refine XS.iconst X65.here hx rfl (hb hby at_154) ?_
          show Steps _ _ _ (T65.setTop (mkF m 155 l58 [(.int (1 : Int32))])) _
          refine XS.goto X65.here hx rfl (pc0 := 155) (pc' := 159) rfl (hb hby at_155) (by decide) (by decide) ?_
          show Steps _ _ _ (T65.setTop (mkF m 159 l58 [(.int (1 : Int32))])) _
          exact hq)
        have hE := e65
        refine retInt X65 hx hret hlk (by simp) rfl (hb hby at_159) k68 ?_ (by decide) (by decide)
        try rw [hE]
        exact ⟨rfl, N65⟩
      · -- pc 151, holds not
        exact absurd (by by_cases q0 : r6 = (48 : Int32) <;> simp [q0]) hc151_67
    · -- pc 69: (2 : Int32)
      have k69 : To p.tables e below S0 (T21.setTop (mkF m 69 l26 [(.int (2 : Int32)), (.int (0 : Int32))])) := by have hq := k27; rw [ht28] at hq; exact hq
      let l70 : Array Slot := #[.val (.int p0), .val (.int p1), .val (.int p2), .val (.int p3), .val (.int p4), .val (.int p5), .val (.ref b3), .val (.ref b17), .val (.int (0 : Int32)), .val (.int (2 : Int32)), .unset]
      let l71 : Array Slot := #[.val (.int p0), .val (.int p1), .val (.int p2), .val (.int p3), .val (.int p4), .val (.int p5), .val (.ref b3), .val (.ref b17), .val (.int (0 : Int32)), .val (.int (2 : Int32)), .val (.int (2 : Int32))]
      have k72 : To p.tables e below S0 (T21.setTop (mkF m 83 l71 [(.int (2 : Int32)), (.int (0 : Int32)), (.int (3 : Int32)), (.ref b3)])) := fun tt hq => k69 tt (by
        show Steps _ _ _ (T21.setTop (mkF m 69 l26 [(.int (2 : Int32)), (.int (0 : Int32))])) _
        refine XS.iadd X21.here hx rfl (hb hby at_69) rfl ?_
        show Steps _ _ _ (T21.setTop (mkF m 70 l26 [(.int (2 : Int32))])) _
        refine XS.istore X21.here hx rfl (hb hby at_70) rfl (l' := l70) rfl ?_
        show Steps _ _ _ (T21.setTop (mkF m 72 l70 [])) _
        refine XS.iload X21.here hx rfl (hb hby at_72) rfl ?_
        show Steps _ _ _ (T21.setTop (mkF m 74 l70 [(.int (2 : Int32))])) _
        refine XS.istore X21.here hx rfl (hb hby at_74) rfl (l' := l71) rfl ?_
        show Steps _ _ _ (T21.setTop (mkF m 76 l71 [])) _
        refine XS.aload X21.here hx rfl (hb hby at_76) rfl rfl ?_
        show Steps _ _ _ (T21.setTop (mkF m 78 l71 [(.ref b3)])) _
        refine XS.iconst X21.here hx rfl (hb hby at_78) ?_
        show Steps _ _ _ (T21.setTop (mkF m 79 l71 [(.int (3 : Int32)), (.ref b3)])) _
        refine XS.iload X21.here hx rfl (hb hby at_79) rfl ?_
        show Steps _ _ _ (T21.setTop (mkF m 81 l71 [(.int (0 : Int32)), (.int (3 : Int32)), (.ref b3)])) _
        refine XS.iload X21.here hx rfl (hb hby at_81) rfl ?_
        show Steps _ _ _ (T21.setTop (mkF m 83 l71 [(.int (2 : Int32)), (.int (0 : Int32)), (.int (3 : Int32)), (.ref b3)])) _
        exact hq)
      have f73 : Arv Z h21 b3 c3 .char (4 : Int32) [(.int r6), (.int r9), (.int r12), (.int r15)] (.int (0 : Int32)) := (f20.keep Kq21 (ninS (adr_ne (by omega)) nin0))
      obtain ⟨_, T74, L74, X74, ⟨rfl, Nq74, eq74⟩, k74a⟩ := callS' X21 hx hZ (y := (⟨"com/example/apportion/apportion/input/DecimalsFirstWholeDigitPinLaw", "stops", "([CIII)Z"⟩ : MethodName)) hown (hw _ (List.mem_of_getElem? (i := 35) rfl)) (hw _ (List.mem_of_getElem? (i := 36) rfl)) (hw _ (List.mem_of_getElem? (i := 3) rfl)) (hw _ (List.mem_of_getElem? (i := 37) rfl)) (by decide) (backC (W := 0) (rm_st3_0_2 l Z a0 hw b3 c3 r6 r9 r12 r15 (0 : Int32) h21 n0 (by omega) f73 rfl) hZ (hw _ (List.mem_of_getElem? (i := 37) rfl)) (hw _ (List.mem_of_getElem? (i := 3) rfl)) (by decide) (by decide)) e21 (argsL := [(.ref b3), (.int (3 : Int32)), (.int (0 : Int32)), (.int (2 : Int32))]) (rest := []) rfl rfl pd_10 rfl (by rw [hml]; rfl) (hb hby at_83) (Nat.le_of_eq rfl) (by decide) (by decide) k72
      have k74 : To p.tables e below S0 (T74.setTop (mkF m 86 l71 [(.int (0 : Int32))])) := k74a
      have N74 := N21.app Nq74
      have e74 : T74.heap = h21 := eq74
      have k75 : To p.tables e below S0 (T74.setTop (mkF m 99 l71 [(.int (2 : Int32)), (.int (0 : Int32)), (.int (2 : Int32)), (.ref b3)])) := fun tt hq => k74 tt (by
        show Steps _ _ _ (T74.setTop (mkF m 86 l71 [(.int (0 : Int32))])) _
        refine XS.ifYes X74.here hx rfl (pc0 := 86) (pc' := 92) rfl (hb hby at_86) rfl ((if0 _ _).trans (teq (by decide)).1) (by decide) (by decide) ?_
        show Steps _ _ _ (T74.setTop (mkF m 92 l71 [])) _
        refine XS.aload X74.here hx rfl (hb hby at_92) rfl rfl ?_
        show Steps _ _ _ (T74.setTop (mkF m 94 l71 [(.ref b3)])) _
        refine XS.iconst X74.here hx rfl (hb hby at_94) ?_
        show Steps _ _ _ (T74.setTop (mkF m 95 l71 [(.int (2 : Int32)), (.ref b3)])) _
        refine XS.iload X74.here hx rfl (hb hby at_95) rfl ?_
        show Steps _ _ _ (T74.setTop (mkF m 97 l71 [(.int (0 : Int32)), (.int (2 : Int32)), (.ref b3)])) _
        refine XS.iload X74.here hx rfl (hb hby at_97) rfl ?_
        show Steps _ _ _ (T74.setTop (mkF m 99 l71 [(.int (2 : Int32)), (.int (0 : Int32)), (.int (2 : Int32)), (.ref b3)])) _
        exact hq)
      obtain ⟨_, T76, L76, X76, ⟨rfl, Nq76, eq76⟩, k76a⟩ := callS' X74 hx hZ (y := (⟨"com/example/apportion/apportion/input/DecimalsFirstWholeDigitPinLaw", "stops", "([CIII)Z"⟩ : MethodName)) hown (hw _ (List.mem_of_getElem? (i := 35) rfl)) (hw _ (List.mem_of_getElem? (i := 36) rfl)) (hw _ (List.mem_of_getElem? (i := 3) rfl)) (hw _ (List.mem_of_getElem? (i := 37) rfl)) (by decide) (backC (W := 0) (rm_st2_0_2 l Z a0 hw b3 c3 r6 r9 r12 r15 (0 : Int32) h21 n0 (by omega) f73 rfl) hZ (hw _ (List.mem_of_getElem? (i := 37) rfl)) (hw _ (List.mem_of_getElem? (i := 3) rfl)) (by decide) (by decide)) e74 (argsL := [(.ref b3), (.int (2 : Int32)), (.int (0 : Int32)), (.int (2 : Int32))]) (rest := []) rfl rfl pd_10 rfl (by rw [hml]; rfl) (hb hby at_99) (Nat.le_of_eq rfl) (by decide) (by decide) k75
      have k76 : To p.tables e below S0 (T76.setTop (mkF m 102 l71 [(.int (0 : Int32))])) := k76a
      have N76 := N74.app Nq76
      have e76 : T76.heap = h21 := eq76
      have k77 : To p.tables e below S0 (T76.setTop (mkF m 115 l71 [(.int (2 : Int32)), (.int (0 : Int32)), (.int (1 : Int32)), (.ref b3)])) := fun tt hq => k76 tt (by
        show Steps _ _ _ (T76.setTop (mkF m 102 l71 [(.int (0 : Int32))])) _
        refine XS.ifYes X76.here hx rfl (pc0 := 102) (pc' := 108) rfl (hb hby at_102) rfl ((if0 _ _).trans (teq (by decide)).1) (by decide) (by decide) ?_
        show Steps _ _ _ (T76.setTop (mkF m 108 l71 [])) _
        refine XS.aload X76.here hx rfl (hb hby at_108) rfl rfl ?_
        show Steps _ _ _ (T76.setTop (mkF m 110 l71 [(.ref b3)])) _
        refine XS.iconst X76.here hx rfl (hb hby at_110) ?_
        show Steps _ _ _ (T76.setTop (mkF m 111 l71 [(.int (1 : Int32)), (.ref b3)])) _
        refine XS.iload X76.here hx rfl (hb hby at_111) rfl ?_
        show Steps _ _ _ (T76.setTop (mkF m 113 l71 [(.int (0 : Int32)), (.int (1 : Int32)), (.ref b3)])) _
        refine XS.iload X76.here hx rfl (hb hby at_113) rfl ?_
        show Steps _ _ _ (T76.setTop (mkF m 115 l71 [(.int (2 : Int32)), (.int (0 : Int32)), (.int (1 : Int32)), (.ref b3)])) _
        exact hq)
      obtain ⟨_, T78, L78, X78, ⟨rfl, Nq78, eq78⟩, k78a⟩ := callS' X76 hx hZ (y := (⟨"com/example/apportion/apportion/input/DecimalsFirstWholeDigitPinLaw", "stops", "([CIII)Z"⟩ : MethodName)) hown (hw _ (List.mem_of_getElem? (i := 35) rfl)) (hw _ (List.mem_of_getElem? (i := 36) rfl)) (hw _ (List.mem_of_getElem? (i := 3) rfl)) (hw _ (List.mem_of_getElem? (i := 37) rfl)) (by decide) (backC (W := 0) (rm_st1_0_2 l Z a0 hw b3 c3 r6 r9 r12 r15 (if r9 = (48 : Int32) then (0 : Int32) else 1) h21 n0 (by omega) f73 rfl) hZ (hw _ (List.mem_of_getElem? (i := 37) rfl)) (hw _ (List.mem_of_getElem? (i := 3) rfl)) (by decide) (by decide)) e76 (argsL := [(.ref b3), (.int (1 : Int32)), (.int (0 : Int32)), (.int (2 : Int32))]) (rest := []) rfl rfl pd_10 rfl (by rw [hml]; rfl) (hb hby at_115) (Nat.le_of_eq rfl) (by decide) (by decide) k77
      have k78 : To p.tables e below S0 (T78.setTop (mkF m 118 l71 [(.int (if r9 = (48 : Int32) then (0 : Int32) else 1))])) := k78a
      have N78 := N76.app Nq78
      have e78 : T78.heap = h21 := eq78
      let l80 : Array Slot := #[.val (.int p0), .val (.int p1), .val (.int p2), .val (.int p3), .val (.int p4), .val (.int p5), .val (.ref b3), .val (.ref b17), .val (.int (0 : Int32)), .val (.int (2 : Int32)), .val (.int (if (if r9 = (48 : Int32) then (0 : Int32) else 1) = (0 : Int32) then (2 : Int32) else (1 : Int32)))]
      refine joinT (S0 := S0) X78 e78 (mkF m 124 l80 []) (fun kont => ?_) (fun T79 X79 e79 k79 => ?_)
      · -- the roads to pc 124
        by_cases hc118_81 : (if r9 = (48 : Int32) then (0 : Int32) else 1) = (0 : Int32)
        · -- pc 118, holds
          have k82 : To p.tables e below S0 (T78.setTop (mkF m 124 l71 [])) := fun tt hq => k78 tt (by
            show Steps _ _ _ (T78.setTop (mkF m 118 l71 [(.int (if r9 = (48 : Int32) then (0 : Int32) else 1))])) _
            refine XS.ifYes X78.here hx rfl (pc0 := 118) (pc' := 124) rfl (hb hby at_118) rfl ((if0 _ _).trans (teq hc118_81).1) (by decide) (by decide) ?_
            show Steps _ _ _ (T78.setTop (mkF m 124 l71 [])) _
            exact hq)
          exact kont T78 X78 e78 (fun tt hq => k82 tt (by simpa only [if_pos hc118_81, l71, l80] using hq))
        · -- pc 118, holds not
          let l83 : Array Slot := #[.val (.int p0), .val (.int p1), .val (.int p2), .val (.int p3), .val (.int p4), .val (.int p5), .val (.ref b3), .val (.ref b17), .val (.int (0 : Int32)), .val (.int (2 : Int32)), .val (.int (1 : Int32))]
          have k84 : To p.tables e below S0 (T78.setTop (mkF m 124 l83 [])) := fun tt hq => k78 tt (by
            show Steps _ _ _ (T78.setTop (mkF m 118 l71 [(.int (if r9 = (48 : Int32) then (0 : Int32) else 1))])) _
            refine XS.ifNo X78.here hx rfl (hb hby at_118) rfl ((if0 _ _).trans (feq hc118_81).1) ?_
            show Steps _ _ _ (T78.setTop (mkF m 121 l71 [])) _
            refine XS.iconst X78.here hx rfl (hb hby at_121) ?_
            show Steps _ _ _ (T78.setTop (mkF m 122 l71 [(.int (1 : Int32))])) _
            refine XS.istore X78.here hx rfl (hb hby at_122) rfl (l' := l83) rfl ?_
            show Steps _ _ _ (T78.setTop (mkF m 124 l83 [])) _
            exact hq)
          exact kont T78 X78 e78 (fun tt hq => k84 tt (by simpa only [if_neg hc118_81, l83, l80] using hq))
      have k85 : To p.tables e below S0 (T79.setTop (mkF m 131 l80 [(.int (2 : Int32)), (.int (0 : Int32)), (.int (0 : Int32)), (.ref b3)])) := fun tt hq => k79 tt (by
        show Steps _ _ _ (T79.setTop (mkF m 124 l80 [])) _
        refine XS.aload X79.here hx rfl (hb hby at_124) rfl rfl ?_
        show Steps _ _ _ (T79.setTop (mkF m 126 l80 [(.ref b3)])) _
        refine XS.iconst X79.here hx rfl (hb hby at_126) ?_
        show Steps _ _ _ (T79.setTop (mkF m 127 l80 [(.int (0 : Int32)), (.ref b3)])) _
        refine XS.iload X79.here hx rfl (hb hby at_127) rfl ?_
        show Steps _ _ _ (T79.setTop (mkF m 129 l80 [(.int (0 : Int32)), (.int (0 : Int32)), (.ref b3)])) _
        refine XS.iload X79.here hx rfl (hb hby at_129) rfl ?_
        show Steps _ _ _ (T79.setTop (mkF m 131 l80 [(.int (2 : Int32)), (.int (0 : Int32)), (.int (0 : Int32)), (.ref b3)])) _
        exact hq)
      obtain ⟨_, T86, L86, X86, ⟨rfl, Nq86, eq86⟩, k86a⟩ := callS' X79 hx hZ (y := (⟨"com/example/apportion/apportion/input/DecimalsFirstWholeDigitPinLaw", "stops", "([CIII)Z"⟩ : MethodName)) hown (hw _ (List.mem_of_getElem? (i := 35) rfl)) (hw _ (List.mem_of_getElem? (i := 36) rfl)) (hw _ (List.mem_of_getElem? (i := 3) rfl)) (hw _ (List.mem_of_getElem? (i := 37) rfl)) (by decide) (backC (W := 0) (rm_st0_0_2 l Z a0 hw b3 c3 r6 r9 r12 r15 (if r6 = (48 : Int32) then (0 : Int32) else 1) h21 n0 (by omega) f73 rfl) hZ (hw _ (List.mem_of_getElem? (i := 37) rfl)) (hw _ (List.mem_of_getElem? (i := 3) rfl)) (by decide) (by decide)) e79 (argsL := [(.ref b3), (.int (0 : Int32)), (.int (0 : Int32)), (.int (2 : Int32))]) (rest := []) rfl rfl pd_10 rfl (by rw [hml]; rfl) (hb hby at_131) (Nat.le_of_eq rfl) (by decide) (by decide) k85
      have k86 : To p.tables e below S0 (T86.setTop (mkF m 134 l80 [(.int (if r6 = (48 : Int32) then (0 : Int32) else 1))])) := k86a
      have N86 := N78.app Nq86
      have e86 : T86.heap = h21 := eq86
      let l88 : Array Slot := #[.val (.int p0), .val (.int p1), .val (.int p2), .val (.int p3), .val (.int p4), .val (.int p5), .val (.ref b3), .val (.ref b17), .val (.int (0 : Int32)), .val (.int (2 : Int32)), .val (.int (if (if r6 = (48 : Int32) then (0 : Int32) else 1) = (0 : Int32) then (if (if r9 = (48 : Int32) then (0 : Int32) else 1) = (0 : Int32) then (2 : Int32) else (1 : Int32)) else (0 : Int32)))]
      refine joinT (S0 := S0) X86 e86 (mkF m 140 l88 []) (fun kont => ?_) (fun T87 X87 e87 k87 => ?_)
      · -- the roads to pc 140
        by_cases hc134_89 : (if r6 = (48 : Int32) then (0 : Int32) else 1) = (0 : Int32)
        · -- pc 134, holds
          have k90 : To p.tables e below S0 (T86.setTop (mkF m 140 l80 [])) := fun tt hq => k86 tt (by
            show Steps _ _ _ (T86.setTop (mkF m 134 l80 [(.int (if r6 = (48 : Int32) then (0 : Int32) else 1))])) _
            refine XS.ifYes X86.here hx rfl (pc0 := 134) (pc' := 140) rfl (hb hby at_134) rfl ((if0 _ _).trans (teq hc134_89).1) (by decide) (by decide) ?_
            show Steps _ _ _ (T86.setTop (mkF m 140 l80 [])) _
            exact hq)
          exact kont T86 X86 e86 (fun tt hq => k90 tt (by simpa only [if_pos hc134_89, l80, l88] using hq))
        · -- pc 134, holds not
          let l91 : Array Slot := #[.val (.int p0), .val (.int p1), .val (.int p2), .val (.int p3), .val (.int p4), .val (.int p5), .val (.ref b3), .val (.ref b17), .val (.int (0 : Int32)), .val (.int (2 : Int32)), .val (.int (0 : Int32))]
          have k92 : To p.tables e below S0 (T86.setTop (mkF m 140 l91 [])) := fun tt hq => k86 tt (by
            show Steps _ _ _ (T86.setTop (mkF m 134 l80 [(.int (if r6 = (48 : Int32) then (0 : Int32) else 1))])) _
            refine XS.ifNo X86.here hx rfl (hb hby at_134) rfl ((if0 _ _).trans (feq hc134_89).1) ?_
            show Steps _ _ _ (T86.setTop (mkF m 137 l80 [])) _
            refine XS.iconst X86.here hx rfl (hb hby at_137) ?_
            show Steps _ _ _ (T86.setTop (mkF m 138 l80 [(.int (0 : Int32))])) _
            refine XS.istore X86.here hx rfl (hb hby at_138) rfl (l' := l91) rfl ?_
            show Steps _ _ _ (T86.setTop (mkF m 140 l91 [])) _
            exact hq)
          exact kont T86 X86 e86 (fun tt hq => k92 tt (by simpa only [if_neg hc134_89, l91, l88] using hq))
      have k93 : To p.tables e below S0 (T87.setTop (mkF m 146 l88 [(.int (2 : Int32)), (.int (0 : Int32)), (.ref b17)])) := fun tt hq => k87 tt (by
        show Steps _ _ _ (T87.setTop (mkF m 140 l88 [])) _
        refine XS.aload X87.here hx rfl (hb hby at_140) rfl rfl ?_
        show Steps _ _ _ (T87.setTop (mkF m 142 l88 [(.ref b17)])) _
        refine XS.iload X87.here hx rfl (hb hby at_142) rfl ?_
        show Steps _ _ _ (T87.setTop (mkF m 144 l88 [(.int (0 : Int32)), (.ref b17)])) _
        refine XS.iload X87.here hx rfl (hb hby at_144) rfl ?_
        show Steps _ _ _ (T87.setTop (mkF m 146 l88 [(.int (2 : Int32)), (.int (0 : Int32)), (.ref b17)])) _
        exact hq)
      have f94 : Old Z n0 h21 := (f19.keep Kq21 (allS (by omega) all0))
      obtain ⟨_, T95, L95, X95, ⟨rfl, Nq95, eq95⟩, k95a⟩ := callS' X87 hx hZ (y := (⟨"com/example/apportion/apportion/input/Decimals", "firstWholeDigit", "(Ljava/lang/String;II)I"⟩ : MethodName)) hown (hw _ (List.mem_of_getElem? (i := 38) rfl)) (hw _ (List.mem_of_getElem? (i := 39) rfl)) (hw _ (List.mem_of_getElem? (i := 40) rfl)) (hw _ (List.mem_of_getElem? (i := 41) rfl)) (by decide) (backC (W := 0) (rm_fwd0_2 l Z a0 hw zc fm b17 t21 kt21 r6 r9 r12 r15 (if r6 = (48 : Int32) then (if r9 = (48 : Int32) then (2 : Int32) else (1 : Int32)) else (0 : Int32)) h21 n0 (by omega) S_c hzc S_f hfm f94 P210 P211 P212 P213 hr6 hr9 hr12 hr15 rfl) hZ (hw _ (List.mem_of_getElem? (i := 41) rfl)) (hw _ (List.mem_of_getElem? (i := 40) rfl)) (by decide) (by decide)) e87 (argsL := [(.ref b17), (.int (0 : Int32)), (.int (2 : Int32))]) (rest := []) rfl rfl pd_11 rfl (by rw [hml]; rfl) (hb hby at_146) (Nat.le_of_eq rfl) (by decide) (by decide) k93
      have k95 : To p.tables e below S0 (T95.setTop (mkF m 149 l88 [(.int (if r6 = (48 : Int32) then (if r9 = (48 : Int32) then (2 : Int32) else (1 : Int32)) else (0 : Int32)))])) := k95a
      have N95 := N86.app Nq95
      have e95 : T95.heap = h21 := eq95
      have k96 : To p.tables e below S0 (T95.setTop (mkF m 151 l88 [(.int (if (if r6 = (48 : Int32) then (0 : Int32) else 1) = (0 : Int32) then (if (if r9 = (48 : Int32) then (0 : Int32) else 1) = (0 : Int32) then (2 : Int32) else (1 : Int32)) else (0 : Int32))), (.int (if r6 = (48 : Int32) then (if r9 = (48 : Int32) then (2 : Int32) else (1 : Int32)) else (0 : Int32)))])) := fun tt hq => k95 tt (by
        show Steps _ _ _ (T95.setTop (mkF m 149 l88 [(.int (if r6 = (48 : Int32) then (if r9 = (48 : Int32) then (2 : Int32) else (1 : Int32)) else (0 : Int32)))])) _
        refine XS.iload X95.here hx rfl (hb hby at_149) rfl ?_
        show Steps _ _ _ (T95.setTop (mkF m 151 l88 [(.int (if (if r6 = (48 : Int32) then (0 : Int32) else 1) = (0 : Int32) then (if (if r9 = (48 : Int32) then (0 : Int32) else 1) = (0 : Int32) then (2 : Int32) else (1 : Int32)) else (0 : Int32))), (.int (if r6 = (48 : Int32) then (if r9 = (48 : Int32) then (2 : Int32) else (1 : Int32)) else (0 : Int32)))])) _
        exact hq)
      by_cases hc151_97 : (if r6 = (48 : Int32) then (if r9 = (48 : Int32) then (2 : Int32) else (1 : Int32)) else (0 : Int32)) = (if (if r6 = (48 : Int32) then (0 : Int32) else 1) = (0 : Int32) then (if (if r9 = (48 : Int32) then (0 : Int32) else 1) = (0 : Int32) then (2 : Int32) else (1 : Int32)) else (0 : Int32))
      · -- pc 151, holds
        have k98 : To p.tables e below S0 (T95.setTop (mkF m 159 l88 [(.int (1 : Int32))])) := fun tt hq => k96 tt (by
          show Steps _ _ _ (T95.setTop (mkF m 151 l88 [(.int (if (if r6 = (48 : Int32) then (0 : Int32) else 1) = (0 : Int32) then (if (if r9 = (48 : Int32) then (0 : Int32) else 1) = (0 : Int32) then (2 : Int32) else (1 : Int32)) else (0 : Int32))), (.int (if r6 = (48 : Int32) then (if r9 = (48 : Int32) then (2 : Int32) else (1 : Int32)) else (0 : Int32)))])) _
          refine XS.icmpNo X95.here hx rfl (hb hby at_151) rfl (teq hc151_97).2 ?_
          show Steps _ _ _ (T95.setTop (mkF m 154 l88 [])) _
          refine XS.iconst X95.here hx rfl (hb hby at_154) ?_
          show Steps _ _ _ (T95.setTop (mkF m 155 l88 [(.int (1 : Int32))])) _
          refine XS.goto X95.here hx rfl (pc0 := 155) (pc' := 159) rfl (hb hby at_155) (by decide) (by decide) ?_
          show Steps _ _ _ (T95.setTop (mkF m 159 l88 [(.int (1 : Int32))])) _
          exact hq)
        have hE := e95
        refine retInt X95 hx hret hlk (by simp) rfl (hb hby at_159) k98 ?_ (by decide) (by decide)
        try rw [hE]
        exact ⟨rfl, N95⟩
      · -- pc 151, holds not
        exact absurd (by by_cases q0 : r6 = (48 : Int32) <;> by_cases q1 : r9 = (48 : Int32) <;> simp [q0, q1]) hc151_97
    · -- pc 69: (3 : Int32)
      have k99 : To p.tables e below S0 (T21.setTop (mkF m 69 l26 [(.int (3 : Int32)), (.int (0 : Int32))])) := by have hq := k27; rw [ht28] at hq; exact hq
      let l100 : Array Slot := #[.val (.int p0), .val (.int p1), .val (.int p2), .val (.int p3), .val (.int p4), .val (.int p5), .val (.ref b3), .val (.ref b17), .val (.int (0 : Int32)), .val (.int (3 : Int32)), .unset]
      let l101 : Array Slot := #[.val (.int p0), .val (.int p1), .val (.int p2), .val (.int p3), .val (.int p4), .val (.int p5), .val (.ref b3), .val (.ref b17), .val (.int (0 : Int32)), .val (.int (3 : Int32)), .val (.int (3 : Int32))]
      have k102 : To p.tables e below S0 (T21.setTop (mkF m 83 l101 [(.int (3 : Int32)), (.int (0 : Int32)), (.int (3 : Int32)), (.ref b3)])) := fun tt hq => k99 tt (by
        show Steps _ _ _ (T21.setTop (mkF m 69 l26 [(.int (3 : Int32)), (.int (0 : Int32))])) _
        refine XS.iadd X21.here hx rfl (hb hby at_69) rfl ?_
        show Steps _ _ _ (T21.setTop (mkF m 70 l26 [(.int (3 : Int32))])) _
        refine XS.istore X21.here hx rfl (hb hby at_70) rfl (l' := l100) rfl ?_
        show Steps _ _ _ (T21.setTop (mkF m 72 l100 [])) _
        refine XS.iload X21.here hx rfl (hb hby at_72) rfl ?_
        show Steps _ _ _ (T21.setTop (mkF m 74 l100 [(.int (3 : Int32))])) _
        refine XS.istore X21.here hx rfl (hb hby at_74) rfl (l' := l101) rfl ?_
        show Steps _ _ _ (T21.setTop (mkF m 76 l101 [])) _
        refine XS.aload X21.here hx rfl (hb hby at_76) rfl rfl ?_
        show Steps _ _ _ (T21.setTop (mkF m 78 l101 [(.ref b3)])) _
        refine XS.iconst X21.here hx rfl (hb hby at_78) ?_
        show Steps _ _ _ (T21.setTop (mkF m 79 l101 [(.int (3 : Int32)), (.ref b3)])) _
        refine XS.iload X21.here hx rfl (hb hby at_79) rfl ?_
        show Steps _ _ _ (T21.setTop (mkF m 81 l101 [(.int (0 : Int32)), (.int (3 : Int32)), (.ref b3)])) _
        refine XS.iload X21.here hx rfl (hb hby at_81) rfl ?_
        show Steps _ _ _ (T21.setTop (mkF m 83 l101 [(.int (3 : Int32)), (.int (0 : Int32)), (.int (3 : Int32)), (.ref b3)])) _
        exact hq)
      have f103 : Arv Z h21 b3 c3 .char (4 : Int32) [(.int r6), (.int r9), (.int r12), (.int r15)] (.int (0 : Int32)) := (f20.keep Kq21 (ninS (adr_ne (by omega)) nin0))
      obtain ⟨_, T104, L104, X104, ⟨rfl, Nq104, eq104⟩, k104a⟩ := callS' X21 hx hZ (y := (⟨"com/example/apportion/apportion/input/DecimalsFirstWholeDigitPinLaw", "stops", "([CIII)Z"⟩ : MethodName)) hown (hw _ (List.mem_of_getElem? (i := 35) rfl)) (hw _ (List.mem_of_getElem? (i := 36) rfl)) (hw _ (List.mem_of_getElem? (i := 3) rfl)) (hw _ (List.mem_of_getElem? (i := 37) rfl)) (by decide) (backC (W := 0) (rm_st3_0_3 l Z a0 hw b3 c3 r6 r9 r12 r15 (0 : Int32) h21 n0 (by omega) f103 rfl) hZ (hw _ (List.mem_of_getElem? (i := 37) rfl)) (hw _ (List.mem_of_getElem? (i := 3) rfl)) (by decide) (by decide)) e21 (argsL := [(.ref b3), (.int (3 : Int32)), (.int (0 : Int32)), (.int (3 : Int32))]) (rest := []) rfl rfl pd_10 rfl (by rw [hml]; rfl) (hb hby at_83) (Nat.le_of_eq rfl) (by decide) (by decide) k102
      have k104 : To p.tables e below S0 (T104.setTop (mkF m 86 l101 [(.int (0 : Int32))])) := k104a
      have N104 := N21.app Nq104
      have e104 : T104.heap = h21 := eq104
      have k105 : To p.tables e below S0 (T104.setTop (mkF m 99 l101 [(.int (3 : Int32)), (.int (0 : Int32)), (.int (2 : Int32)), (.ref b3)])) := fun tt hq => k104 tt (by
        show Steps _ _ _ (T104.setTop (mkF m 86 l101 [(.int (0 : Int32))])) _
        refine XS.ifYes X104.here hx rfl (pc0 := 86) (pc' := 92) rfl (hb hby at_86) rfl ((if0 _ _).trans (teq (by decide)).1) (by decide) (by decide) ?_
        show Steps _ _ _ (T104.setTop (mkF m 92 l101 [])) _
        refine XS.aload X104.here hx rfl (hb hby at_92) rfl rfl ?_
        show Steps _ _ _ (T104.setTop (mkF m 94 l101 [(.ref b3)])) _
        refine XS.iconst X104.here hx rfl (hb hby at_94) ?_
        show Steps _ _ _ (T104.setTop (mkF m 95 l101 [(.int (2 : Int32)), (.ref b3)])) _
        refine XS.iload X104.here hx rfl (hb hby at_95) rfl ?_
        show Steps _ _ _ (T104.setTop (mkF m 97 l101 [(.int (0 : Int32)), (.int (2 : Int32)), (.ref b3)])) _
        refine XS.iload X104.here hx rfl (hb hby at_97) rfl ?_
        show Steps _ _ _ (T104.setTop (mkF m 99 l101 [(.int (3 : Int32)), (.int (0 : Int32)), (.int (2 : Int32)), (.ref b3)])) _
        exact hq)
      obtain ⟨_, T106, L106, X106, ⟨rfl, Nq106, eq106⟩, k106a⟩ := callS' X104 hx hZ (y := (⟨"com/example/apportion/apportion/input/DecimalsFirstWholeDigitPinLaw", "stops", "([CIII)Z"⟩ : MethodName)) hown (hw _ (List.mem_of_getElem? (i := 35) rfl)) (hw _ (List.mem_of_getElem? (i := 36) rfl)) (hw _ (List.mem_of_getElem? (i := 3) rfl)) (hw _ (List.mem_of_getElem? (i := 37) rfl)) (by decide) (backC (W := 0) (rm_st2_0_3 l Z a0 hw b3 c3 r6 r9 r12 r15 (if r12 = (48 : Int32) then (0 : Int32) else 1) h21 n0 (by omega) f103 rfl) hZ (hw _ (List.mem_of_getElem? (i := 37) rfl)) (hw _ (List.mem_of_getElem? (i := 3) rfl)) (by decide) (by decide)) e104 (argsL := [(.ref b3), (.int (2 : Int32)), (.int (0 : Int32)), (.int (3 : Int32))]) (rest := []) rfl rfl pd_10 rfl (by rw [hml]; rfl) (hb hby at_99) (Nat.le_of_eq rfl) (by decide) (by decide) k105
      have k106 : To p.tables e below S0 (T106.setTop (mkF m 102 l101 [(.int (if r12 = (48 : Int32) then (0 : Int32) else 1))])) := k106a
      have N106 := N104.app Nq106
      have e106 : T106.heap = h21 := eq106
      let l108 : Array Slot := #[.val (.int p0), .val (.int p1), .val (.int p2), .val (.int p3), .val (.int p4), .val (.int p5), .val (.ref b3), .val (.ref b17), .val (.int (0 : Int32)), .val (.int (3 : Int32)), .val (.int (if (if r12 = (48 : Int32) then (0 : Int32) else 1) = (0 : Int32) then (3 : Int32) else (2 : Int32)))]
      refine joinT (S0 := S0) X106 e106 (mkF m 108 l108 []) (fun kont => ?_) (fun T107 X107 e107 k107 => ?_)
      · -- the roads to pc 108
        by_cases hc102_109 : (if r12 = (48 : Int32) then (0 : Int32) else 1) = (0 : Int32)
        · -- pc 102, holds
          have k110 : To p.tables e below S0 (T106.setTop (mkF m 108 l101 [])) := fun tt hq => k106 tt (by
            show Steps _ _ _ (T106.setTop (mkF m 102 l101 [(.int (if r12 = (48 : Int32) then (0 : Int32) else 1))])) _
            refine XS.ifYes X106.here hx rfl (pc0 := 102) (pc' := 108) rfl (hb hby at_102) rfl ((if0 _ _).trans (teq hc102_109).1) (by decide) (by decide) ?_
            show Steps _ _ _ (T106.setTop (mkF m 108 l101 [])) _
            exact hq)
          exact kont T106 X106 e106 (fun tt hq => k110 tt (by simpa only [if_pos hc102_109, l101, l108] using hq))
        · -- pc 102, holds not
          let l111 : Array Slot := #[.val (.int p0), .val (.int p1), .val (.int p2), .val (.int p3), .val (.int p4), .val (.int p5), .val (.ref b3), .val (.ref b17), .val (.int (0 : Int32)), .val (.int (3 : Int32)), .val (.int (2 : Int32))]
          have k112 : To p.tables e below S0 (T106.setTop (mkF m 108 l111 [])) := fun tt hq => k106 tt (by
            show Steps _ _ _ (T106.setTop (mkF m 102 l101 [(.int (if r12 = (48 : Int32) then (0 : Int32) else 1))])) _
            refine XS.ifNo X106.here hx rfl (hb hby at_102) rfl ((if0 _ _).trans (feq hc102_109).1) ?_
            show Steps _ _ _ (T106.setTop (mkF m 105 l101 [])) _
            refine XS.iconst X106.here hx rfl (hb hby at_105) ?_
            show Steps _ _ _ (T106.setTop (mkF m 106 l101 [(.int (2 : Int32))])) _
            refine XS.istore X106.here hx rfl (hb hby at_106) rfl (l' := l111) rfl ?_
            show Steps _ _ _ (T106.setTop (mkF m 108 l111 [])) _
            exact hq)
          exact kont T106 X106 e106 (fun tt hq => k112 tt (by simpa only [if_neg hc102_109, l111, l108] using hq))
      have k113 : To p.tables e below S0 (T107.setTop (mkF m 115 l108 [(.int (3 : Int32)), (.int (0 : Int32)), (.int (1 : Int32)), (.ref b3)])) := fun tt hq => k107 tt (by
        show Steps _ _ _ (T107.setTop (mkF m 108 l108 [])) _
        refine XS.aload X107.here hx rfl (hb hby at_108) rfl rfl ?_
        show Steps _ _ _ (T107.setTop (mkF m 110 l108 [(.ref b3)])) _
        refine XS.iconst X107.here hx rfl (hb hby at_110) ?_
        show Steps _ _ _ (T107.setTop (mkF m 111 l108 [(.int (1 : Int32)), (.ref b3)])) _
        refine XS.iload X107.here hx rfl (hb hby at_111) rfl ?_
        show Steps _ _ _ (T107.setTop (mkF m 113 l108 [(.int (0 : Int32)), (.int (1 : Int32)), (.ref b3)])) _
        refine XS.iload X107.here hx rfl (hb hby at_113) rfl ?_
        show Steps _ _ _ (T107.setTop (mkF m 115 l108 [(.int (3 : Int32)), (.int (0 : Int32)), (.int (1 : Int32)), (.ref b3)])) _
        exact hq)
      obtain ⟨_, T114, L114, X114, ⟨rfl, Nq114, eq114⟩, k114a⟩ := callS' X107 hx hZ (y := (⟨"com/example/apportion/apportion/input/DecimalsFirstWholeDigitPinLaw", "stops", "([CIII)Z"⟩ : MethodName)) hown (hw _ (List.mem_of_getElem? (i := 35) rfl)) (hw _ (List.mem_of_getElem? (i := 36) rfl)) (hw _ (List.mem_of_getElem? (i := 3) rfl)) (hw _ (List.mem_of_getElem? (i := 37) rfl)) (by decide) (backC (W := 0) (rm_st1_0_3 l Z a0 hw b3 c3 r6 r9 r12 r15 (if r9 = (48 : Int32) then (0 : Int32) else 1) h21 n0 (by omega) f103 rfl) hZ (hw _ (List.mem_of_getElem? (i := 37) rfl)) (hw _ (List.mem_of_getElem? (i := 3) rfl)) (by decide) (by decide)) e107 (argsL := [(.ref b3), (.int (1 : Int32)), (.int (0 : Int32)), (.int (3 : Int32))]) (rest := []) rfl rfl pd_10 rfl (by rw [hml]; rfl) (hb hby at_115) (Nat.le_of_eq rfl) (by decide) (by decide) k113
      have k114 : To p.tables e below S0 (T114.setTop (mkF m 118 l108 [(.int (if r9 = (48 : Int32) then (0 : Int32) else 1))])) := k114a
      have N114 := N106.app Nq114
      have e114 : T114.heap = h21 := eq114
      let l116 : Array Slot := #[.val (.int p0), .val (.int p1), .val (.int p2), .val (.int p3), .val (.int p4), .val (.int p5), .val (.ref b3), .val (.ref b17), .val (.int (0 : Int32)), .val (.int (3 : Int32)), .val (.int (if (if r9 = (48 : Int32) then (0 : Int32) else 1) = (0 : Int32) then (if (if r12 = (48 : Int32) then (0 : Int32) else 1) = (0 : Int32) then (3 : Int32) else (2 : Int32)) else (1 : Int32)))]
      refine joinT (S0 := S0) X114 e114 (mkF m 124 l116 []) (fun kont => ?_) (fun T115 X115 e115 k115 => ?_)
      · -- the roads to pc 124
        by_cases hc118_117 : (if r9 = (48 : Int32) then (0 : Int32) else 1) = (0 : Int32)
        · -- pc 118, holds
          have k118 : To p.tables e below S0 (T114.setTop (mkF m 124 l108 [])) := fun tt hq => k114 tt (by
            show Steps _ _ _ (T114.setTop (mkF m 118 l108 [(.int (if r9 = (48 : Int32) then (0 : Int32) else 1))])) _
            refine XS.ifYes X114.here hx rfl (pc0 := 118) (pc' := 124) rfl (hb hby at_118) rfl ((if0 _ _).trans (teq hc118_117).1) (by decide) (by decide) ?_
            show Steps _ _ _ (T114.setTop (mkF m 124 l108 [])) _
            exact hq)
          exact kont T114 X114 e114 (fun tt hq => k118 tt (by simpa only [if_pos hc118_117, l108, l116] using hq))
        · -- pc 118, holds not
          let l119 : Array Slot := #[.val (.int p0), .val (.int p1), .val (.int p2), .val (.int p3), .val (.int p4), .val (.int p5), .val (.ref b3), .val (.ref b17), .val (.int (0 : Int32)), .val (.int (3 : Int32)), .val (.int (1 : Int32))]
          have k120 : To p.tables e below S0 (T114.setTop (mkF m 124 l119 [])) := fun tt hq => k114 tt (by
            show Steps _ _ _ (T114.setTop (mkF m 118 l108 [(.int (if r9 = (48 : Int32) then (0 : Int32) else 1))])) _
            refine XS.ifNo X114.here hx rfl (hb hby at_118) rfl ((if0 _ _).trans (feq hc118_117).1) ?_
            show Steps _ _ _ (T114.setTop (mkF m 121 l108 [])) _
            refine XS.iconst X114.here hx rfl (hb hby at_121) ?_
            show Steps _ _ _ (T114.setTop (mkF m 122 l108 [(.int (1 : Int32))])) _
            refine XS.istore X114.here hx rfl (hb hby at_122) rfl (l' := l119) rfl ?_
            show Steps _ _ _ (T114.setTop (mkF m 124 l119 [])) _
            exact hq)
          exact kont T114 X114 e114 (fun tt hq => k120 tt (by simpa only [if_neg hc118_117, l119, l116] using hq))
      have k121 : To p.tables e below S0 (T115.setTop (mkF m 131 l116 [(.int (3 : Int32)), (.int (0 : Int32)), (.int (0 : Int32)), (.ref b3)])) := fun tt hq => k115 tt (by
        show Steps _ _ _ (T115.setTop (mkF m 124 l116 [])) _
        refine XS.aload X115.here hx rfl (hb hby at_124) rfl rfl ?_
        show Steps _ _ _ (T115.setTop (mkF m 126 l116 [(.ref b3)])) _
        refine XS.iconst X115.here hx rfl (hb hby at_126) ?_
        show Steps _ _ _ (T115.setTop (mkF m 127 l116 [(.int (0 : Int32)), (.ref b3)])) _
        refine XS.iload X115.here hx rfl (hb hby at_127) rfl ?_
        show Steps _ _ _ (T115.setTop (mkF m 129 l116 [(.int (0 : Int32)), (.int (0 : Int32)), (.ref b3)])) _
        refine XS.iload X115.here hx rfl (hb hby at_129) rfl ?_
        show Steps _ _ _ (T115.setTop (mkF m 131 l116 [(.int (3 : Int32)), (.int (0 : Int32)), (.int (0 : Int32)), (.ref b3)])) _
        exact hq)
      obtain ⟨_, T122, L122, X122, ⟨rfl, Nq122, eq122⟩, k122a⟩ := callS' X115 hx hZ (y := (⟨"com/example/apportion/apportion/input/DecimalsFirstWholeDigitPinLaw", "stops", "([CIII)Z"⟩ : MethodName)) hown (hw _ (List.mem_of_getElem? (i := 35) rfl)) (hw _ (List.mem_of_getElem? (i := 36) rfl)) (hw _ (List.mem_of_getElem? (i := 3) rfl)) (hw _ (List.mem_of_getElem? (i := 37) rfl)) (by decide) (backC (W := 0) (rm_st0_0_3 l Z a0 hw b3 c3 r6 r9 r12 r15 (if r6 = (48 : Int32) then (0 : Int32) else 1) h21 n0 (by omega) f103 rfl) hZ (hw _ (List.mem_of_getElem? (i := 37) rfl)) (hw _ (List.mem_of_getElem? (i := 3) rfl)) (by decide) (by decide)) e115 (argsL := [(.ref b3), (.int (0 : Int32)), (.int (0 : Int32)), (.int (3 : Int32))]) (rest := []) rfl rfl pd_10 rfl (by rw [hml]; rfl) (hb hby at_131) (Nat.le_of_eq rfl) (by decide) (by decide) k121
      have k122 : To p.tables e below S0 (T122.setTop (mkF m 134 l116 [(.int (if r6 = (48 : Int32) then (0 : Int32) else 1))])) := k122a
      have N122 := N114.app Nq122
      have e122 : T122.heap = h21 := eq122
      let l124 : Array Slot := #[.val (.int p0), .val (.int p1), .val (.int p2), .val (.int p3), .val (.int p4), .val (.int p5), .val (.ref b3), .val (.ref b17), .val (.int (0 : Int32)), .val (.int (3 : Int32)), .val (.int (if (if r6 = (48 : Int32) then (0 : Int32) else 1) = (0 : Int32) then (if (if r9 = (48 : Int32) then (0 : Int32) else 1) = (0 : Int32) then (if (if r12 = (48 : Int32) then (0 : Int32) else 1) = (0 : Int32) then (3 : Int32) else (2 : Int32)) else (1 : Int32)) else (0 : Int32)))]
      refine joinT (S0 := S0) X122 e122 (mkF m 140 l124 []) (fun kont => ?_) (fun T123 X123 e123 k123 => ?_)
      · -- the roads to pc 140
        by_cases hc134_125 : (if r6 = (48 : Int32) then (0 : Int32) else 1) = (0 : Int32)
        · -- pc 134, holds
          have k126 : To p.tables e below S0 (T122.setTop (mkF m 140 l116 [])) := fun tt hq => k122 tt (by
            show Steps _ _ _ (T122.setTop (mkF m 134 l116 [(.int (if r6 = (48 : Int32) then (0 : Int32) else 1))])) _
            refine XS.ifYes X122.here hx rfl (pc0 := 134) (pc' := 140) rfl (hb hby at_134) rfl ((if0 _ _).trans (teq hc134_125).1) (by decide) (by decide) ?_
            show Steps _ _ _ (T122.setTop (mkF m 140 l116 [])) _
            exact hq)
          exact kont T122 X122 e122 (fun tt hq => k126 tt (by simpa only [if_pos hc134_125, l116, l124] using hq))
        · -- pc 134, holds not
          let l127 : Array Slot := #[.val (.int p0), .val (.int p1), .val (.int p2), .val (.int p3), .val (.int p4), .val (.int p5), .val (.ref b3), .val (.ref b17), .val (.int (0 : Int32)), .val (.int (3 : Int32)), .val (.int (0 : Int32))]
          have k128 : To p.tables e below S0 (T122.setTop (mkF m 140 l127 [])) := fun tt hq => k122 tt (by
            show Steps _ _ _ (T122.setTop (mkF m 134 l116 [(.int (if r6 = (48 : Int32) then (0 : Int32) else 1))])) _
            refine XS.ifNo X122.here hx rfl (hb hby at_134) rfl ((if0 _ _).trans (feq hc134_125).1) ?_
            show Steps _ _ _ (T122.setTop (mkF m 137 l116 [])) _
            refine XS.iconst X122.here hx rfl (hb hby at_137) ?_
            show Steps _ _ _ (T122.setTop (mkF m 138 l116 [(.int (0 : Int32))])) _
            refine XS.istore X122.here hx rfl (hb hby at_138) rfl (l' := l127) rfl ?_
            show Steps _ _ _ (T122.setTop (mkF m 140 l127 [])) _
            exact hq)
          exact kont T122 X122 e122 (fun tt hq => k128 tt (by simpa only [if_neg hc134_125, l127, l124] using hq))
      have k129 : To p.tables e below S0 (T123.setTop (mkF m 146 l124 [(.int (3 : Int32)), (.int (0 : Int32)), (.ref b17)])) := fun tt hq => k123 tt (by
        show Steps _ _ _ (T123.setTop (mkF m 140 l124 [])) _
        refine XS.aload X123.here hx rfl (hb hby at_140) rfl rfl ?_
        show Steps _ _ _ (T123.setTop (mkF m 142 l124 [(.ref b17)])) _
        refine XS.iload X123.here hx rfl (hb hby at_142) rfl ?_
        show Steps _ _ _ (T123.setTop (mkF m 144 l124 [(.int (0 : Int32)), (.ref b17)])) _
        refine XS.iload X123.here hx rfl (hb hby at_144) rfl ?_
        show Steps _ _ _ (T123.setTop (mkF m 146 l124 [(.int (3 : Int32)), (.int (0 : Int32)), (.ref b17)])) _
        exact hq)
      have f130 : Old Z n0 h21 := (f19.keep Kq21 (allS (by omega) all0))
      obtain ⟨_, T131, L131, X131, ⟨rfl, Nq131, eq131⟩, k131a⟩ := callS' X123 hx hZ (y := (⟨"com/example/apportion/apportion/input/Decimals", "firstWholeDigit", "(Ljava/lang/String;II)I"⟩ : MethodName)) hown (hw _ (List.mem_of_getElem? (i := 38) rfl)) (hw _ (List.mem_of_getElem? (i := 39) rfl)) (hw _ (List.mem_of_getElem? (i := 40) rfl)) (hw _ (List.mem_of_getElem? (i := 41) rfl)) (by decide) (backC (W := 0) (rm_fwd0_3 l Z a0 hw zc fm b17 t21 kt21 r6 r9 r12 r15 (if r6 = (48 : Int32) then (if r9 = (48 : Int32) then (if r12 = (48 : Int32) then (3 : Int32) else (2 : Int32)) else (1 : Int32)) else (0 : Int32)) h21 n0 (by omega) S_c hzc S_f hfm f130 P210 P211 P212 P213 hr6 hr9 hr12 hr15 rfl) hZ (hw _ (List.mem_of_getElem? (i := 41) rfl)) (hw _ (List.mem_of_getElem? (i := 40) rfl)) (by decide) (by decide)) e123 (argsL := [(.ref b17), (.int (0 : Int32)), (.int (3 : Int32))]) (rest := []) rfl rfl pd_11 rfl (by rw [hml]; rfl) (hb hby at_146) (Nat.le_of_eq rfl) (by decide) (by decide) k129
      have k131 : To p.tables e below S0 (T131.setTop (mkF m 149 l124 [(.int (if r6 = (48 : Int32) then (if r9 = (48 : Int32) then (if r12 = (48 : Int32) then (3 : Int32) else (2 : Int32)) else (1 : Int32)) else (0 : Int32)))])) := k131a
      have N131 := N122.app Nq131
      have e131 : T131.heap = h21 := eq131
      have k132 : To p.tables e below S0 (T131.setTop (mkF m 151 l124 [(.int (if (if r6 = (48 : Int32) then (0 : Int32) else 1) = (0 : Int32) then (if (if r9 = (48 : Int32) then (0 : Int32) else 1) = (0 : Int32) then (if (if r12 = (48 : Int32) then (0 : Int32) else 1) = (0 : Int32) then (3 : Int32) else (2 : Int32)) else (1 : Int32)) else (0 : Int32))), (.int (if r6 = (48 : Int32) then (if r9 = (48 : Int32) then (if r12 = (48 : Int32) then (3 : Int32) else (2 : Int32)) else (1 : Int32)) else (0 : Int32)))])) := fun tt hq => k131 tt (by
        show Steps _ _ _ (T131.setTop (mkF m 149 l124 [(.int (if r6 = (48 : Int32) then (if r9 = (48 : Int32) then (if r12 = (48 : Int32) then (3 : Int32) else (2 : Int32)) else (1 : Int32)) else (0 : Int32)))])) _
        refine XS.iload X131.here hx rfl (hb hby at_149) rfl ?_
        show Steps _ _ _ (T131.setTop (mkF m 151 l124 [(.int (if (if r6 = (48 : Int32) then (0 : Int32) else 1) = (0 : Int32) then (if (if r9 = (48 : Int32) then (0 : Int32) else 1) = (0 : Int32) then (if (if r12 = (48 : Int32) then (0 : Int32) else 1) = (0 : Int32) then (3 : Int32) else (2 : Int32)) else (1 : Int32)) else (0 : Int32))), (.int (if r6 = (48 : Int32) then (if r9 = (48 : Int32) then (if r12 = (48 : Int32) then (3 : Int32) else (2 : Int32)) else (1 : Int32)) else (0 : Int32)))])) _
        exact hq)
      by_cases hc151_133 : (if r6 = (48 : Int32) then (if r9 = (48 : Int32) then (if r12 = (48 : Int32) then (3 : Int32) else (2 : Int32)) else (1 : Int32)) else (0 : Int32)) = (if (if r6 = (48 : Int32) then (0 : Int32) else 1) = (0 : Int32) then (if (if r9 = (48 : Int32) then (0 : Int32) else 1) = (0 : Int32) then (if (if r12 = (48 : Int32) then (0 : Int32) else 1) = (0 : Int32) then (3 : Int32) else (2 : Int32)) else (1 : Int32)) else (0 : Int32))
      · -- pc 151, holds
        have k134 : To p.tables e below S0 (T131.setTop (mkF m 159 l124 [(.int (1 : Int32))])) := fun tt hq => k132 tt (by
          show Steps _ _ _ (T131.setTop (mkF m 151 l124 [(.int (if (if r6 = (48 : Int32) then (0 : Int32) else 1) = (0 : Int32) then (if (if r9 = (48 : Int32) then (0 : Int32) else 1) = (0 : Int32) then (if (if r12 = (48 : Int32) then (0 : Int32) else 1) = (0 : Int32) then (3 : Int32) else (2 : Int32)) else (1 : Int32)) else (0 : Int32))), (.int (if r6 = (48 : Int32) then (if r9 = (48 : Int32) then (if r12 = (48 : Int32) then (3 : Int32) else (2 : Int32)) else (1 : Int32)) else (0 : Int32)))])) _
          refine XS.icmpNo X131.here hx rfl (hb hby at_151) rfl (teq hc151_133).2 ?_
          show Steps _ _ _ (T131.setTop (mkF m 154 l124 [])) _
          refine XS.iconst X131.here hx rfl (hb hby at_154) ?_
          show Steps _ _ _ (T131.setTop (mkF m 155 l124 [(.int (1 : Int32))])) _
          refine XS.goto X131.here hx rfl (pc0 := 155) (pc' := 159) rfl (hb hby at_155) (by decide) (by decide) ?_
          show Steps _ _ _ (T131.setTop (mkF m 159 l124 [(.int (1 : Int32))])) _
          exact hq)
        have hE := e131
        refine retInt X131 hx hret hlk (by simp) rfl (hb hby at_159) k134 ?_ (by decide) (by decide)
        try rw [hE]
        exact ⟨rfl, N131⟩
      · -- pc 151, holds not
        exact absurd (by by_cases q0 : r6 = (48 : Int32) <;> by_cases q1 : r9 = (48 : Int32) <;> by_cases q2 : r12 = (48 : Int32) <;> simp [q0, q1, q2]) hc151_133
    · -- pc 69: (4 : Int32)
      have k135 : To p.tables e below S0 (T21.setTop (mkF m 69 l26 [(.int (4 : Int32)), (.int (0 : Int32))])) := by have hq := k27; rw [ht28] at hq; exact hq
      let l136 : Array Slot := #[.val (.int p0), .val (.int p1), .val (.int p2), .val (.int p3), .val (.int p4), .val (.int p5), .val (.ref b3), .val (.ref b17), .val (.int (0 : Int32)), .val (.int (4 : Int32)), .unset]
      let l137 : Array Slot := #[.val (.int p0), .val (.int p1), .val (.int p2), .val (.int p3), .val (.int p4), .val (.int p5), .val (.ref b3), .val (.ref b17), .val (.int (0 : Int32)), .val (.int (4 : Int32)), .val (.int (4 : Int32))]
      have k138 : To p.tables e below S0 (T21.setTop (mkF m 83 l137 [(.int (4 : Int32)), (.int (0 : Int32)), (.int (3 : Int32)), (.ref b3)])) := fun tt hq => k135 tt (by
        show Steps _ _ _ (T21.setTop (mkF m 69 l26 [(.int (4 : Int32)), (.int (0 : Int32))])) _
        refine XS.iadd X21.here hx rfl (hb hby at_69) rfl ?_
        show Steps _ _ _ (T21.setTop (mkF m 70 l26 [(.int (4 : Int32))])) _
        refine XS.istore X21.here hx rfl (hb hby at_70) rfl (l' := l136) rfl ?_
        show Steps _ _ _ (T21.setTop (mkF m 72 l136 [])) _
        refine XS.iload X21.here hx rfl (hb hby at_72) rfl ?_
        show Steps _ _ _ (T21.setTop (mkF m 74 l136 [(.int (4 : Int32))])) _
        refine XS.istore X21.here hx rfl (hb hby at_74) rfl (l' := l137) rfl ?_
        show Steps _ _ _ (T21.setTop (mkF m 76 l137 [])) _
        refine XS.aload X21.here hx rfl (hb hby at_76) rfl rfl ?_
        show Steps _ _ _ (T21.setTop (mkF m 78 l137 [(.ref b3)])) _
        refine XS.iconst X21.here hx rfl (hb hby at_78) ?_
        show Steps _ _ _ (T21.setTop (mkF m 79 l137 [(.int (3 : Int32)), (.ref b3)])) _
        refine XS.iload X21.here hx rfl (hb hby at_79) rfl ?_
        show Steps _ _ _ (T21.setTop (mkF m 81 l137 [(.int (0 : Int32)), (.int (3 : Int32)), (.ref b3)])) _
        refine XS.iload X21.here hx rfl (hb hby at_81) rfl ?_
        show Steps _ _ _ (T21.setTop (mkF m 83 l137 [(.int (4 : Int32)), (.int (0 : Int32)), (.int (3 : Int32)), (.ref b3)])) _
        exact hq)
      have f139 : Arv Z h21 b3 c3 .char (4 : Int32) [(.int r6), (.int r9), (.int r12), (.int r15)] (.int (0 : Int32)) := (f20.keep Kq21 (ninS (adr_ne (by omega)) nin0))
      obtain ⟨_, T140, L140, X140, ⟨rfl, Nq140, eq140⟩, k140a⟩ := callS' X21 hx hZ (y := (⟨"com/example/apportion/apportion/input/DecimalsFirstWholeDigitPinLaw", "stops", "([CIII)Z"⟩ : MethodName)) hown (hw _ (List.mem_of_getElem? (i := 35) rfl)) (hw _ (List.mem_of_getElem? (i := 36) rfl)) (hw _ (List.mem_of_getElem? (i := 3) rfl)) (hw _ (List.mem_of_getElem? (i := 37) rfl)) (by decide) (backC (W := 0) (rm_st3_0_4 l Z a0 hw b3 c3 r6 r9 r12 r15 (if r15 = (48 : Int32) then (0 : Int32) else 1) h21 n0 (by omega) f139 rfl) hZ (hw _ (List.mem_of_getElem? (i := 37) rfl)) (hw _ (List.mem_of_getElem? (i := 3) rfl)) (by decide) (by decide)) e21 (argsL := [(.ref b3), (.int (3 : Int32)), (.int (0 : Int32)), (.int (4 : Int32))]) (rest := []) rfl rfl pd_10 rfl (by rw [hml]; rfl) (hb hby at_83) (Nat.le_of_eq rfl) (by decide) (by decide) k138
      have k140 : To p.tables e below S0 (T140.setTop (mkF m 86 l137 [(.int (if r15 = (48 : Int32) then (0 : Int32) else 1))])) := k140a
      have N140 := N21.app Nq140
      have e140 : T140.heap = h21 := eq140
      let l142 : Array Slot := #[.val (.int p0), .val (.int p1), .val (.int p2), .val (.int p3), .val (.int p4), .val (.int p5), .val (.ref b3), .val (.ref b17), .val (.int (0 : Int32)), .val (.int (4 : Int32)), .val (.int (if (if r15 = (48 : Int32) then (0 : Int32) else 1) = (0 : Int32) then (4 : Int32) else (3 : Int32)))]
      refine joinT (S0 := S0) X140 e140 (mkF m 92 l142 []) (fun kont => ?_) (fun T141 X141 e141 k141 => ?_)
      · -- the roads to pc 92
        by_cases hc86_143 : (if r15 = (48 : Int32) then (0 : Int32) else 1) = (0 : Int32)
        · -- pc 86, holds
          have k144 : To p.tables e below S0 (T140.setTop (mkF m 92 l137 [])) := fun tt hq => k140 tt (by
            show Steps _ _ _ (T140.setTop (mkF m 86 l137 [(.int (if r15 = (48 : Int32) then (0 : Int32) else 1))])) _
            refine XS.ifYes X140.here hx rfl (pc0 := 86) (pc' := 92) rfl (hb hby at_86) rfl ((if0 _ _).trans (teq hc86_143).1) (by decide) (by decide) ?_
            show Steps _ _ _ (T140.setTop (mkF m 92 l137 [])) _
            exact hq)
          exact kont T140 X140 e140 (fun tt hq => k144 tt (by simpa only [if_pos hc86_143, l137, l142] using hq))
        · -- pc 86, holds not
          let l145 : Array Slot := #[.val (.int p0), .val (.int p1), .val (.int p2), .val (.int p3), .val (.int p4), .val (.int p5), .val (.ref b3), .val (.ref b17), .val (.int (0 : Int32)), .val (.int (4 : Int32)), .val (.int (3 : Int32))]
          have k146 : To p.tables e below S0 (T140.setTop (mkF m 92 l145 [])) := fun tt hq => k140 tt (by
            show Steps _ _ _ (T140.setTop (mkF m 86 l137 [(.int (if r15 = (48 : Int32) then (0 : Int32) else 1))])) _
            refine XS.ifNo X140.here hx rfl (hb hby at_86) rfl ((if0 _ _).trans (feq hc86_143).1) ?_
            show Steps _ _ _ (T140.setTop (mkF m 89 l137 [])) _
            refine XS.iconst X140.here hx rfl (hb hby at_89) ?_
            show Steps _ _ _ (T140.setTop (mkF m 90 l137 [(.int (3 : Int32))])) _
            refine XS.istore X140.here hx rfl (hb hby at_90) rfl (l' := l145) rfl ?_
            show Steps _ _ _ (T140.setTop (mkF m 92 l145 [])) _
            exact hq)
          exact kont T140 X140 e140 (fun tt hq => k146 tt (by simpa only [if_neg hc86_143, l145, l142] using hq))
      have k147 : To p.tables e below S0 (T141.setTop (mkF m 99 l142 [(.int (4 : Int32)), (.int (0 : Int32)), (.int (2 : Int32)), (.ref b3)])) := fun tt hq => k141 tt (by
        show Steps _ _ _ (T141.setTop (mkF m 92 l142 [])) _
        refine XS.aload X141.here hx rfl (hb hby at_92) rfl rfl ?_
        show Steps _ _ _ (T141.setTop (mkF m 94 l142 [(.ref b3)])) _
        refine XS.iconst X141.here hx rfl (hb hby at_94) ?_
        show Steps _ _ _ (T141.setTop (mkF m 95 l142 [(.int (2 : Int32)), (.ref b3)])) _
        refine XS.iload X141.here hx rfl (hb hby at_95) rfl ?_
        show Steps _ _ _ (T141.setTop (mkF m 97 l142 [(.int (0 : Int32)), (.int (2 : Int32)), (.ref b3)])) _
        refine XS.iload X141.here hx rfl (hb hby at_97) rfl ?_
        show Steps _ _ _ (T141.setTop (mkF m 99 l142 [(.int (4 : Int32)), (.int (0 : Int32)), (.int (2 : Int32)), (.ref b3)])) _
        exact hq)
      obtain ⟨_, T148, L148, X148, ⟨rfl, Nq148, eq148⟩, k148a⟩ := callS' X141 hx hZ (y := (⟨"com/example/apportion/apportion/input/DecimalsFirstWholeDigitPinLaw", "stops", "([CIII)Z"⟩ : MethodName)) hown (hw _ (List.mem_of_getElem? (i := 35) rfl)) (hw _ (List.mem_of_getElem? (i := 36) rfl)) (hw _ (List.mem_of_getElem? (i := 3) rfl)) (hw _ (List.mem_of_getElem? (i := 37) rfl)) (by decide) (backC (W := 0) (rm_st2_0_4 l Z a0 hw b3 c3 r6 r9 r12 r15 (if r12 = (48 : Int32) then (0 : Int32) else 1) h21 n0 (by omega) f139 rfl) hZ (hw _ (List.mem_of_getElem? (i := 37) rfl)) (hw _ (List.mem_of_getElem? (i := 3) rfl)) (by decide) (by decide)) e141 (argsL := [(.ref b3), (.int (2 : Int32)), (.int (0 : Int32)), (.int (4 : Int32))]) (rest := []) rfl rfl pd_10 rfl (by rw [hml]; rfl) (hb hby at_99) (Nat.le_of_eq rfl) (by decide) (by decide) k147
      have k148 : To p.tables e below S0 (T148.setTop (mkF m 102 l142 [(.int (if r12 = (48 : Int32) then (0 : Int32) else 1))])) := k148a
      have N148 := N140.app Nq148
      have e148 : T148.heap = h21 := eq148
      let l150 : Array Slot := #[.val (.int p0), .val (.int p1), .val (.int p2), .val (.int p3), .val (.int p4), .val (.int p5), .val (.ref b3), .val (.ref b17), .val (.int (0 : Int32)), .val (.int (4 : Int32)), .val (.int (if (if r12 = (48 : Int32) then (0 : Int32) else 1) = (0 : Int32) then (if (if r15 = (48 : Int32) then (0 : Int32) else 1) = (0 : Int32) then (4 : Int32) else (3 : Int32)) else (2 : Int32)))]
      refine joinT (S0 := S0) X148 e148 (mkF m 108 l150 []) (fun kont => ?_) (fun T149 X149 e149 k149 => ?_)
      · -- the roads to pc 108
        by_cases hc102_151 : (if r12 = (48 : Int32) then (0 : Int32) else 1) = (0 : Int32)
        · -- pc 102, holds
          have k152 : To p.tables e below S0 (T148.setTop (mkF m 108 l142 [])) := fun tt hq => k148 tt (by
            show Steps _ _ _ (T148.setTop (mkF m 102 l142 [(.int (if r12 = (48 : Int32) then (0 : Int32) else 1))])) _
            refine XS.ifYes X148.here hx rfl (pc0 := 102) (pc' := 108) rfl (hb hby at_102) rfl ((if0 _ _).trans (teq hc102_151).1) (by decide) (by decide) ?_
            show Steps _ _ _ (T148.setTop (mkF m 108 l142 [])) _
            exact hq)
          exact kont T148 X148 e148 (fun tt hq => k152 tt (by simpa only [if_pos hc102_151, l142, l150] using hq))
        · -- pc 102, holds not
          let l153 : Array Slot := #[.val (.int p0), .val (.int p1), .val (.int p2), .val (.int p3), .val (.int p4), .val (.int p5), .val (.ref b3), .val (.ref b17), .val (.int (0 : Int32)), .val (.int (4 : Int32)), .val (.int (2 : Int32))]
          have k154 : To p.tables e below S0 (T148.setTop (mkF m 108 l153 [])) := fun tt hq => k148 tt (by
            show Steps _ _ _ (T148.setTop (mkF m 102 l142 [(.int (if r12 = (48 : Int32) then (0 : Int32) else 1))])) _
            refine XS.ifNo X148.here hx rfl (hb hby at_102) rfl ((if0 _ _).trans (feq hc102_151).1) ?_
            show Steps _ _ _ (T148.setTop (mkF m 105 l142 [])) _
            refine XS.iconst X148.here hx rfl (hb hby at_105) ?_
            show Steps _ _ _ (T148.setTop (mkF m 106 l142 [(.int (2 : Int32))])) _
            refine XS.istore X148.here hx rfl (hb hby at_106) rfl (l' := l153) rfl ?_
            show Steps _ _ _ (T148.setTop (mkF m 108 l153 [])) _
            exact hq)
          exact kont T148 X148 e148 (fun tt hq => k154 tt (by simpa only [if_neg hc102_151, l153, l150] using hq))
      have k155 : To p.tables e below S0 (T149.setTop (mkF m 115 l150 [(.int (4 : Int32)), (.int (0 : Int32)), (.int (1 : Int32)), (.ref b3)])) := fun tt hq => k149 tt (by
        show Steps _ _ _ (T149.setTop (mkF m 108 l150 [])) _
        refine XS.aload X149.here hx rfl (hb hby at_108) rfl rfl ?_
        show Steps _ _ _ (T149.setTop (mkF m 110 l150 [(.ref b3)])) _
        refine XS.iconst X149.here hx rfl (hb hby at_110) ?_
        show Steps _ _ _ (T149.setTop (mkF m 111 l150 [(.int (1 : Int32)), (.ref b3)])) _
        refine XS.iload X149.here hx rfl (hb hby at_111) rfl ?_
        show Steps _ _ _ (T149.setTop (mkF m 113 l150 [(.int (0 : Int32)), (.int (1 : Int32)), (.ref b3)])) _
        refine XS.iload X149.here hx rfl (hb hby at_113) rfl ?_
        show Steps _ _ _ (T149.setTop (mkF m 115 l150 [(.int (4 : Int32)), (.int (0 : Int32)), (.int (1 : Int32)), (.ref b3)])) _
        exact hq)
      obtain ⟨_, T156, L156, X156, ⟨rfl, Nq156, eq156⟩, k156a⟩ := callS' X149 hx hZ (y := (⟨"com/example/apportion/apportion/input/DecimalsFirstWholeDigitPinLaw", "stops", "([CIII)Z"⟩ : MethodName)) hown (hw _ (List.mem_of_getElem? (i := 35) rfl)) (hw _ (List.mem_of_getElem? (i := 36) rfl)) (hw _ (List.mem_of_getElem? (i := 3) rfl)) (hw _ (List.mem_of_getElem? (i := 37) rfl)) (by decide) (backC (W := 0) (rm_st1_0_4 l Z a0 hw b3 c3 r6 r9 r12 r15 (if r9 = (48 : Int32) then (0 : Int32) else 1) h21 n0 (by omega) f139 rfl) hZ (hw _ (List.mem_of_getElem? (i := 37) rfl)) (hw _ (List.mem_of_getElem? (i := 3) rfl)) (by decide) (by decide)) e149 (argsL := [(.ref b3), (.int (1 : Int32)), (.int (0 : Int32)), (.int (4 : Int32))]) (rest := []) rfl rfl pd_10 rfl (by rw [hml]; rfl) (hb hby at_115) (Nat.le_of_eq rfl) (by decide) (by decide) k155
      have k156 : To p.tables e below S0 (T156.setTop (mkF m 118 l150 [(.int (if r9 = (48 : Int32) then (0 : Int32) else 1))])) := k156a
      have N156 := N148.app Nq156
      have e156 : T156.heap = h21 := eq156
      let l158 : Array Slot := #[.val (.int p0), .val (.int p1), .val (.int p2), .val (.int p3), .val (.int p4), .val (.int p5), .val (.ref b3), .val (.ref b17), .val (.int (0 : Int32)), .val (.int (4 : Int32)), .val (.int (if (if r9 = (48 : Int32) then (0 : Int32) else 1) = (0 : Int32) then (if (if r12 = (48 : Int32) then (0 : Int32) else 1) = (0 : Int32) then (if (if r15 = (48 : Int32) then (0 : Int32) else 1) = (0 : Int32) then (4 : Int32) else (3 : Int32)) else (2 : Int32)) else (1 : Int32)))]
      refine joinT (S0 := S0) X156 e156 (mkF m 124 l158 []) (fun kont => ?_) (fun T157 X157 e157 k157 => ?_)
      · -- the roads to pc 124
        by_cases hc118_159 : (if r9 = (48 : Int32) then (0 : Int32) else 1) = (0 : Int32)
        · -- pc 118, holds
          have k160 : To p.tables e below S0 (T156.setTop (mkF m 124 l150 [])) := fun tt hq => k156 tt (by
            show Steps _ _ _ (T156.setTop (mkF m 118 l150 [(.int (if r9 = (48 : Int32) then (0 : Int32) else 1))])) _
            refine XS.ifYes X156.here hx rfl (pc0 := 118) (pc' := 124) rfl (hb hby at_118) rfl ((if0 _ _).trans (teq hc118_159).1) (by decide) (by decide) ?_
            show Steps _ _ _ (T156.setTop (mkF m 124 l150 [])) _
            exact hq)
          exact kont T156 X156 e156 (fun tt hq => k160 tt (by simpa only [if_pos hc118_159, l150, l158] using hq))
        · -- pc 118, holds not
          let l161 : Array Slot := #[.val (.int p0), .val (.int p1), .val (.int p2), .val (.int p3), .val (.int p4), .val (.int p5), .val (.ref b3), .val (.ref b17), .val (.int (0 : Int32)), .val (.int (4 : Int32)), .val (.int (1 : Int32))]
          have k162 : To p.tables e below S0 (T156.setTop (mkF m 124 l161 [])) := fun tt hq => k156 tt (by
            show Steps _ _ _ (T156.setTop (mkF m 118 l150 [(.int (if r9 = (48 : Int32) then (0 : Int32) else 1))])) _
            refine XS.ifNo X156.here hx rfl (hb hby at_118) rfl ((if0 _ _).trans (feq hc118_159).1) ?_
            show Steps _ _ _ (T156.setTop (mkF m 121 l150 [])) _
            refine XS.iconst X156.here hx rfl (hb hby at_121) ?_
            show Steps _ _ _ (T156.setTop (mkF m 122 l150 [(.int (1 : Int32))])) _
            refine XS.istore X156.here hx rfl (hb hby at_122) rfl (l' := l161) rfl ?_
            show Steps _ _ _ (T156.setTop (mkF m 124 l161 [])) _
            exact hq)
          exact kont T156 X156 e156 (fun tt hq => k162 tt (by simpa only [if_neg hc118_159, l161, l158] using hq))
      have k163 : To p.tables e below S0 (T157.setTop (mkF m 131 l158 [(.int (4 : Int32)), (.int (0 : Int32)), (.int (0 : Int32)), (.ref b3)])) := fun tt hq => k157 tt (by
        show Steps _ _ _ (T157.setTop (mkF m 124 l158 [])) _
        refine XS.aload X157.here hx rfl (hb hby at_124) rfl rfl ?_
        show Steps _ _ _ (T157.setTop (mkF m 126 l158 [(.ref b3)])) _
        refine XS.iconst X157.here hx rfl (hb hby at_126) ?_
        show Steps _ _ _ (T157.setTop (mkF m 127 l158 [(.int (0 : Int32)), (.ref b3)])) _
        refine XS.iload X157.here hx rfl (hb hby at_127) rfl ?_
        show Steps _ _ _ (T157.setTop (mkF m 129 l158 [(.int (0 : Int32)), (.int (0 : Int32)), (.ref b3)])) _
        refine XS.iload X157.here hx rfl (hb hby at_129) rfl ?_
        show Steps _ _ _ (T157.setTop (mkF m 131 l158 [(.int (4 : Int32)), (.int (0 : Int32)), (.int (0 : Int32)), (.ref b3)])) _
        exact hq)
      obtain ⟨_, T164, L164, X164, ⟨rfl, Nq164, eq164⟩, k164a⟩ := callS' X157 hx hZ (y := (⟨"com/example/apportion/apportion/input/DecimalsFirstWholeDigitPinLaw", "stops", "([CIII)Z"⟩ : MethodName)) hown (hw _ (List.mem_of_getElem? (i := 35) rfl)) (hw _ (List.mem_of_getElem? (i := 36) rfl)) (hw _ (List.mem_of_getElem? (i := 3) rfl)) (hw _ (List.mem_of_getElem? (i := 37) rfl)) (by decide) (backC (W := 0) (rm_st0_0_4 l Z a0 hw b3 c3 r6 r9 r12 r15 (if r6 = (48 : Int32) then (0 : Int32) else 1) h21 n0 (by omega) f139 rfl) hZ (hw _ (List.mem_of_getElem? (i := 37) rfl)) (hw _ (List.mem_of_getElem? (i := 3) rfl)) (by decide) (by decide)) e157 (argsL := [(.ref b3), (.int (0 : Int32)), (.int (0 : Int32)), (.int (4 : Int32))]) (rest := []) rfl rfl pd_10 rfl (by rw [hml]; rfl) (hb hby at_131) (Nat.le_of_eq rfl) (by decide) (by decide) k163
      have k164 : To p.tables e below S0 (T164.setTop (mkF m 134 l158 [(.int (if r6 = (48 : Int32) then (0 : Int32) else 1))])) := k164a
      have N164 := N156.app Nq164
      have e164 : T164.heap = h21 := eq164
      let l166 : Array Slot := #[.val (.int p0), .val (.int p1), .val (.int p2), .val (.int p3), .val (.int p4), .val (.int p5), .val (.ref b3), .val (.ref b17), .val (.int (0 : Int32)), .val (.int (4 : Int32)), .val (.int (if (if r6 = (48 : Int32) then (0 : Int32) else 1) = (0 : Int32) then (if (if r9 = (48 : Int32) then (0 : Int32) else 1) = (0 : Int32) then (if (if r12 = (48 : Int32) then (0 : Int32) else 1) = (0 : Int32) then (if (if r15 = (48 : Int32) then (0 : Int32) else 1) = (0 : Int32) then (4 : Int32) else (3 : Int32)) else (2 : Int32)) else (1 : Int32)) else (0 : Int32)))]
      refine joinT (S0 := S0) X164 e164 (mkF m 140 l166 []) (fun kont => ?_) (fun T165 X165 e165 k165 => ?_)
      · -- the roads to pc 140
        by_cases hc134_167 : (if r6 = (48 : Int32) then (0 : Int32) else 1) = (0 : Int32)
        · -- pc 134, holds
          have k168 : To p.tables e below S0 (T164.setTop (mkF m 140 l158 [])) := fun tt hq => k164 tt (by
            show Steps _ _ _ (T164.setTop (mkF m 134 l158 [(.int (if r6 = (48 : Int32) then (0 : Int32) else 1))])) _
            refine XS.ifYes X164.here hx rfl (pc0 := 134) (pc' := 140) rfl (hb hby at_134) rfl ((if0 _ _).trans (teq hc134_167).1) (by decide) (by decide) ?_
            show Steps _ _ _ (T164.setTop (mkF m 140 l158 [])) _
            exact hq)
          exact kont T164 X164 e164 (fun tt hq => k168 tt (by simpa only [if_pos hc134_167, l158, l166] using hq))
        · -- pc 134, holds not
          let l169 : Array Slot := #[.val (.int p0), .val (.int p1), .val (.int p2), .val (.int p3), .val (.int p4), .val (.int p5), .val (.ref b3), .val (.ref b17), .val (.int (0 : Int32)), .val (.int (4 : Int32)), .val (.int (0 : Int32))]
          have k170 : To p.tables e below S0 (T164.setTop (mkF m 140 l169 [])) := fun tt hq => k164 tt (by
            show Steps _ _ _ (T164.setTop (mkF m 134 l158 [(.int (if r6 = (48 : Int32) then (0 : Int32) else 1))])) _
            refine XS.ifNo X164.here hx rfl (hb hby at_134) rfl ((if0 _ _).trans (feq hc134_167).1) ?_
            show Steps _ _ _ (T164.setTop (mkF m 137 l158 [])) _
            refine XS.iconst X164.here hx rfl (hb hby at_137) ?_
            show Steps _ _ _ (T164.setTop (mkF m 138 l158 [(.int (0 : Int32))])) _
            refine XS.istore X164.here hx rfl (hb hby at_138) rfl (l' := l169) rfl ?_
            show Steps _ _ _ (T164.setTop (mkF m 140 l169 [])) _
            exact hq)
          exact kont T164 X164 e164 (fun tt hq => k170 tt (by simpa only [if_neg hc134_167, l169, l166] using hq))
      have k171 : To p.tables e below S0 (T165.setTop (mkF m 146 l166 [(.int (4 : Int32)), (.int (0 : Int32)), (.ref b17)])) := fun tt hq => k165 tt (by
        show Steps _ _ _ (T165.setTop (mkF m 140 l166 [])) _
        refine XS.aload X165.here hx rfl (hb hby at_140) rfl rfl ?_
        show Steps _ _ _ (T165.setTop (mkF m 142 l166 [(.ref b17)])) _
        refine XS.iload X165.here hx rfl (hb hby at_142) rfl ?_
        show Steps _ _ _ (T165.setTop (mkF m 144 l166 [(.int (0 : Int32)), (.ref b17)])) _
        refine XS.iload X165.here hx rfl (hb hby at_144) rfl ?_
        show Steps _ _ _ (T165.setTop (mkF m 146 l166 [(.int (4 : Int32)), (.int (0 : Int32)), (.ref b17)])) _
        exact hq)
      have f172 : Old Z n0 h21 := (f19.keep Kq21 (allS (by omega) all0))
      obtain ⟨_, T173, L173, X173, ⟨rfl, Nq173, eq173⟩, k173a⟩ := callS' X165 hx hZ (y := (⟨"com/example/apportion/apportion/input/Decimals", "firstWholeDigit", "(Ljava/lang/String;II)I"⟩ : MethodName)) hown (hw _ (List.mem_of_getElem? (i := 38) rfl)) (hw _ (List.mem_of_getElem? (i := 39) rfl)) (hw _ (List.mem_of_getElem? (i := 40) rfl)) (hw _ (List.mem_of_getElem? (i := 41) rfl)) (by decide) (backC (W := 0) (rm_fwd0_4 l Z a0 hw zc fm b17 t21 kt21 r6 r9 r12 r15 (if r6 = (48 : Int32) then (if r9 = (48 : Int32) then (if r12 = (48 : Int32) then (if r15 = (48 : Int32) then (4 : Int32) else (3 : Int32)) else (2 : Int32)) else (1 : Int32)) else (0 : Int32)) h21 n0 (by omega) S_c hzc S_f hfm f172 P210 P211 P212 P213 hr6 hr9 hr12 hr15 rfl) hZ (hw _ (List.mem_of_getElem? (i := 41) rfl)) (hw _ (List.mem_of_getElem? (i := 40) rfl)) (by decide) (by decide)) e165 (argsL := [(.ref b17), (.int (0 : Int32)), (.int (4 : Int32))]) (rest := []) rfl rfl pd_11 rfl (by rw [hml]; rfl) (hb hby at_146) (Nat.le_of_eq rfl) (by decide) (by decide) k171
      have k173 : To p.tables e below S0 (T173.setTop (mkF m 149 l166 [(.int (if r6 = (48 : Int32) then (if r9 = (48 : Int32) then (if r12 = (48 : Int32) then (if r15 = (48 : Int32) then (4 : Int32) else (3 : Int32)) else (2 : Int32)) else (1 : Int32)) else (0 : Int32)))])) := k173a
      have N173 := N164.app Nq173
      have e173 : T173.heap = h21 := eq173
      have k174 : To p.tables e below S0 (T173.setTop (mkF m 151 l166 [(.int (if (if r6 = (48 : Int32) then (0 : Int32) else 1) = (0 : Int32) then (if (if r9 = (48 : Int32) then (0 : Int32) else 1) = (0 : Int32) then (if (if r12 = (48 : Int32) then (0 : Int32) else 1) = (0 : Int32) then (if (if r15 = (48 : Int32) then (0 : Int32) else 1) = (0 : Int32) then (4 : Int32) else (3 : Int32)) else (2 : Int32)) else (1 : Int32)) else (0 : Int32))), (.int (if r6 = (48 : Int32) then (if r9 = (48 : Int32) then (if r12 = (48 : Int32) then (if r15 = (48 : Int32) then (4 : Int32) else (3 : Int32)) else (2 : Int32)) else (1 : Int32)) else (0 : Int32)))])) := fun tt hq => k173 tt (by
        show Steps _ _ _ (T173.setTop (mkF m 149 l166 [(.int (if r6 = (48 : Int32) then (if r9 = (48 : Int32) then (if r12 = (48 : Int32) then (if r15 = (48 : Int32) then (4 : Int32) else (3 : Int32)) else (2 : Int32)) else (1 : Int32)) else (0 : Int32)))])) _
        refine XS.iload X173.here hx rfl (hb hby at_149) rfl ?_
        show Steps _ _ _ (T173.setTop (mkF m 151 l166 [(.int (if (if r6 = (48 : Int32) then (0 : Int32) else 1) = (0 : Int32) then (if (if r9 = (48 : Int32) then (0 : Int32) else 1) = (0 : Int32) then (if (if r12 = (48 : Int32) then (0 : Int32) else 1) = (0 : Int32) then (if (if r15 = (48 : Int32) then (0 : Int32) else 1) = (0 : Int32) then (4 : Int32) else (3 : Int32)) else (2 : Int32)) else (1 : Int32)) else (0 : Int32))), (.int (if r6 = (48 : Int32) then (if r9 = (48 : Int32) then (if r12 = (48 : Int32) then (if r15 = (48 : Int32) then (4 : Int32) else (3 : Int32)) else (2 : Int32)) else (1 : Int32)) else (0 : Int32)))])) _
        exact hq)
      by_cases hc151_175 : (if r6 = (48 : Int32) then (if r9 = (48 : Int32) then (if r12 = (48 : Int32) then (if r15 = (48 : Int32) then (4 : Int32) else (3 : Int32)) else (2 : Int32)) else (1 : Int32)) else (0 : Int32)) = (if (if r6 = (48 : Int32) then (0 : Int32) else 1) = (0 : Int32) then (if (if r9 = (48 : Int32) then (0 : Int32) else 1) = (0 : Int32) then (if (if r12 = (48 : Int32) then (0 : Int32) else 1) = (0 : Int32) then (if (if r15 = (48 : Int32) then (0 : Int32) else 1) = (0 : Int32) then (4 : Int32) else (3 : Int32)) else (2 : Int32)) else (1 : Int32)) else (0 : Int32))
      · -- pc 151, holds
        have k176 : To p.tables e below S0 (T173.setTop (mkF m 159 l166 [(.int (1 : Int32))])) := fun tt hq => k174 tt (by
          show Steps _ _ _ (T173.setTop (mkF m 151 l166 [(.int (if (if r6 = (48 : Int32) then (0 : Int32) else 1) = (0 : Int32) then (if (if r9 = (48 : Int32) then (0 : Int32) else 1) = (0 : Int32) then (if (if r12 = (48 : Int32) then (0 : Int32) else 1) = (0 : Int32) then (if (if r15 = (48 : Int32) then (0 : Int32) else 1) = (0 : Int32) then (4 : Int32) else (3 : Int32)) else (2 : Int32)) else (1 : Int32)) else (0 : Int32))), (.int (if r6 = (48 : Int32) then (if r9 = (48 : Int32) then (if r12 = (48 : Int32) then (if r15 = (48 : Int32) then (4 : Int32) else (3 : Int32)) else (2 : Int32)) else (1 : Int32)) else (0 : Int32)))])) _
          refine XS.icmpNo X173.here hx rfl (hb hby at_151) rfl (teq hc151_175).2 ?_
          show Steps _ _ _ (T173.setTop (mkF m 154 l166 [])) _
          refine XS.iconst X173.here hx rfl (hb hby at_154) ?_
          show Steps _ _ _ (T173.setTop (mkF m 155 l166 [(.int (1 : Int32))])) _
          refine XS.goto X173.here hx rfl (pc0 := 155) (pc' := 159) rfl (hb hby at_155) (by decide) (by decide) ?_
          show Steps _ _ _ (T173.setTop (mkF m 159 l166 [(.int (1 : Int32))])) _
          exact hq)
        have hE := e173
        refine retInt X173 hx hret hlk (by simp) rfl (hb hby at_159) k176 ?_ (by decide) (by decide)
        try rw [hE]
        exact ⟨rfl, N173⟩
      · -- pc 151, holds not
        exact absurd (by by_cases q0 : r6 = (48 : Int32) <;> by_cases q1 : r9 = (48 : Int32) <;> by_cases q2 : r12 = (48 : Int32) <;> by_cases q3 : r15 = (48 : Int32) <;> simp [q0, q1, q2, q3]) hc151_175
  · -- pc 55: (1 : Int32)
    have k177 : To p.tables e below S0 (T21.setTop (mkF m 55 l22 [(.int (1 : Int32))])) := by have hq := k23; rw [ht24] at hq; exact hq
    let l178 : Array Slot := #[.val (.int p0), .val (.int p1), .val (.int p2), .val (.int p3), .val (.int p4), .val (.int p5), .val (.ref b3), .val (.ref b17), .val (.int (1 : Int32)), .unset, .unset]
    have k179 : To p.tables e below S0 (T21.setTop (mkF m 69 l178 [(.int ((p5 &&& (2147483647 : Int32)) % (4 : Int32))), (.int (1 : Int32))])) := fun tt hq => k177 tt (by
      show Steps _ _ _ (T21.setTop (mkF m 55 l22 [(.int (1 : Int32))])) _
      refine XS.istore X21.here hx rfl (hb hby at_55) rfl (l' := l178) rfl ?_
      show Steps _ _ _ (T21.setTop (mkF m 57 l178 [])) _
      refine XS.iload X21.here hx rfl (hb hby at_57) rfl ?_
      show Steps _ _ _ (T21.setTop (mkF m 59 l178 [(.int (1 : Int32))])) _
      refine XS.iload X21.here hx rfl (hb hby at_59) rfl ?_
      show Steps _ _ _ (T21.setTop (mkF m 61 l178 [(.int p5), (.int (1 : Int32))])) _
      refine X21.ldcInt hx hown (mvT hZ (hw _ (List.mem_of_getElem? (i := 34) rfl))) (g := (mkF m 61 l178 [(.int p5), (.int (1 : Int32))])) rfl (hb hby at_61) _ ?_
      show Steps _ _ _ (T21.setTop (mkF m 63 l178 [(.int (2147483647 : Int32)), (.int p5), (.int (1 : Int32))])) _
      refine XS.iand X21.here hx rfl (hb hby at_63) rfl ?_
      show Steps _ _ _ (T21.setTop (mkF m 64 l178 [(.int (p5 &&& (2147483647 : Int32))), (.int (1 : Int32))])) _
      refine XS.iconst X21.here hx rfl (hb hby at_64) ?_
      show Steps _ _ _ (T21.setTop (mkF m 65 l178 [(.int (5 : Int32)), (.int (p5 &&& (2147483647 : Int32))), (.int (1 : Int32))])) _
      refine XS.iload X21.here hx rfl (hb hby at_65) rfl ?_
      show Steps _ _ _ (T21.setTop (mkF m 67 l178 [(.int (1 : Int32)), (.int (5 : Int32)), (.int (p5 &&& (2147483647 : Int32))), (.int (1 : Int32))])) _
      refine XS.isub X21.here hx rfl (hb hby at_67) rfl ?_
      show Steps _ _ _ (T21.setTop (mkF m 68 l178 [(.int (4 : Int32)), (.int (p5 &&& (2147483647 : Int32))), (.int (1 : Int32))])) _
      refine iremM X21 hx rfl (hb hby at_68) rfl (by decide) ?_
      show Steps _ _ _ (T21.setTop (mkF m 69 l178 [(.int ((p5 &&& (2147483647 : Int32)) % (4 : Int32))), (.int (1 : Int32))])) _
      exact hq)
    rcases own_md4 p5 with ht180 | ht180 | ht180 | ht180
    · -- pc 69: (0 : Int32)
      have k181 : To p.tables e below S0 (T21.setTop (mkF m 69 l178 [(.int (0 : Int32)), (.int (1 : Int32))])) := by have hq := k179; rw [ht180] at hq; exact hq
      let l182 : Array Slot := #[.val (.int p0), .val (.int p1), .val (.int p2), .val (.int p3), .val (.int p4), .val (.int p5), .val (.ref b3), .val (.ref b17), .val (.int (1 : Int32)), .val (.int (1 : Int32)), .unset]
      let l183 : Array Slot := #[.val (.int p0), .val (.int p1), .val (.int p2), .val (.int p3), .val (.int p4), .val (.int p5), .val (.ref b3), .val (.ref b17), .val (.int (1 : Int32)), .val (.int (1 : Int32)), .val (.int (1 : Int32))]
      have k184 : To p.tables e below S0 (T21.setTop (mkF m 83 l183 [(.int (1 : Int32)), (.int (1 : Int32)), (.int (3 : Int32)), (.ref b3)])) := fun tt hq => k181 tt (by
        show Steps _ _ _ (T21.setTop (mkF m 69 l178 [(.int (0 : Int32)), (.int (1 : Int32))])) _
        refine XS.iadd X21.here hx rfl (hb hby at_69) rfl ?_
        show Steps _ _ _ (T21.setTop (mkF m 70 l178 [(.int (1 : Int32))])) _
        refine XS.istore X21.here hx rfl (hb hby at_70) rfl (l' := l182) rfl ?_
        show Steps _ _ _ (T21.setTop (mkF m 72 l182 [])) _
        refine XS.iload X21.here hx rfl (hb hby at_72) rfl ?_
        show Steps _ _ _ (T21.setTop (mkF m 74 l182 [(.int (1 : Int32))])) _
        refine XS.istore X21.here hx rfl (hb hby at_74) rfl (l' := l183) rfl ?_
        show Steps _ _ _ (T21.setTop (mkF m 76 l183 [])) _
        refine XS.aload X21.here hx rfl (hb hby at_76) rfl rfl ?_
        show Steps _ _ _ (T21.setTop (mkF m 78 l183 [(.ref b3)])) _
        refine XS.iconst X21.here hx rfl (hb hby at_78) ?_
        show Steps _ _ _ (T21.setTop (mkF m 79 l183 [(.int (3 : Int32)), (.ref b3)])) _
        refine XS.iload X21.here hx rfl (hb hby at_79) rfl ?_
        show Steps _ _ _ (T21.setTop (mkF m 81 l183 [(.int (1 : Int32)), (.int (3 : Int32)), (.ref b3)])) _
        refine XS.iload X21.here hx rfl (hb hby at_81) rfl ?_
        show Steps _ _ _ (T21.setTop (mkF m 83 l183 [(.int (1 : Int32)), (.int (1 : Int32)), (.int (3 : Int32)), (.ref b3)])) _
        exact hq)
      have f185 : Arv Z h21 b3 c3 .char (4 : Int32) [(.int r6), (.int r9), (.int r12), (.int r15)] (.int (0 : Int32)) := (f20.keep Kq21 (ninS (adr_ne (by omega)) nin0))
      obtain ⟨_, T186, L186, X186, ⟨rfl, Nq186, eq186⟩, k186a⟩ := callS' X21 hx hZ (y := (⟨"com/example/apportion/apportion/input/DecimalsFirstWholeDigitPinLaw", "stops", "([CIII)Z"⟩ : MethodName)) hown (hw _ (List.mem_of_getElem? (i := 35) rfl)) (hw _ (List.mem_of_getElem? (i := 36) rfl)) (hw _ (List.mem_of_getElem? (i := 3) rfl)) (hw _ (List.mem_of_getElem? (i := 37) rfl)) (by decide) (backC (W := 0) (rm_st3_1_1 l Z a0 hw b3 c3 r6 r9 r12 r15 (0 : Int32) h21 n0 (by omega) f185 rfl) hZ (hw _ (List.mem_of_getElem? (i := 37) rfl)) (hw _ (List.mem_of_getElem? (i := 3) rfl)) (by decide) (by decide)) e21 (argsL := [(.ref b3), (.int (3 : Int32)), (.int (1 : Int32)), (.int (1 : Int32))]) (rest := []) rfl rfl pd_10 rfl (by rw [hml]; rfl) (hb hby at_83) (Nat.le_of_eq rfl) (by decide) (by decide) k184
      have k186 : To p.tables e below S0 (T186.setTop (mkF m 86 l183 [(.int (0 : Int32))])) := k186a
      have N186 := N21.app Nq186
      have e186 : T186.heap = h21 := eq186
      have k187 : To p.tables e below S0 (T186.setTop (mkF m 99 l183 [(.int (1 : Int32)), (.int (1 : Int32)), (.int (2 : Int32)), (.ref b3)])) := fun tt hq => k186 tt (by
        show Steps _ _ _ (T186.setTop (mkF m 86 l183 [(.int (0 : Int32))])) _
        refine XS.ifYes X186.here hx rfl (pc0 := 86) (pc' := 92) rfl (hb hby at_86) rfl ((if0 _ _).trans (teq (by decide)).1) (by decide) (by decide) ?_
        show Steps _ _ _ (T186.setTop (mkF m 92 l183 [])) _
        refine XS.aload X186.here hx rfl (hb hby at_92) rfl rfl ?_
        show Steps _ _ _ (T186.setTop (mkF m 94 l183 [(.ref b3)])) _
        refine XS.iconst X186.here hx rfl (hb hby at_94) ?_
        show Steps _ _ _ (T186.setTop (mkF m 95 l183 [(.int (2 : Int32)), (.ref b3)])) _
        refine XS.iload X186.here hx rfl (hb hby at_95) rfl ?_
        show Steps _ _ _ (T186.setTop (mkF m 97 l183 [(.int (1 : Int32)), (.int (2 : Int32)), (.ref b3)])) _
        refine XS.iload X186.here hx rfl (hb hby at_97) rfl ?_
        show Steps _ _ _ (T186.setTop (mkF m 99 l183 [(.int (1 : Int32)), (.int (1 : Int32)), (.int (2 : Int32)), (.ref b3)])) _
        exact hq)
      obtain ⟨_, T188, L188, X188, ⟨rfl, Nq188, eq188⟩, k188a⟩ := callS' X186 hx hZ (y := (⟨"com/example/apportion/apportion/input/DecimalsFirstWholeDigitPinLaw", "stops", "([CIII)Z"⟩ : MethodName)) hown (hw _ (List.mem_of_getElem? (i := 35) rfl)) (hw _ (List.mem_of_getElem? (i := 36) rfl)) (hw _ (List.mem_of_getElem? (i := 3) rfl)) (hw _ (List.mem_of_getElem? (i := 37) rfl)) (by decide) (backC (W := 0) (rm_st2_1_1 l Z a0 hw b3 c3 r6 r9 r12 r15 (0 : Int32) h21 n0 (by omega) f185 rfl) hZ (hw _ (List.mem_of_getElem? (i := 37) rfl)) (hw _ (List.mem_of_getElem? (i := 3) rfl)) (by decide) (by decide)) e186 (argsL := [(.ref b3), (.int (2 : Int32)), (.int (1 : Int32)), (.int (1 : Int32))]) (rest := []) rfl rfl pd_10 rfl (by rw [hml]; rfl) (hb hby at_99) (Nat.le_of_eq rfl) (by decide) (by decide) k187
      have k188 : To p.tables e below S0 (T188.setTop (mkF m 102 l183 [(.int (0 : Int32))])) := k188a
      have N188 := N186.app Nq188
      have e188 : T188.heap = h21 := eq188
      have k189 : To p.tables e below S0 (T188.setTop (mkF m 115 l183 [(.int (1 : Int32)), (.int (1 : Int32)), (.int (1 : Int32)), (.ref b3)])) := fun tt hq => k188 tt (by
        show Steps _ _ _ (T188.setTop (mkF m 102 l183 [(.int (0 : Int32))])) _
        refine XS.ifYes X188.here hx rfl (pc0 := 102) (pc' := 108) rfl (hb hby at_102) rfl ((if0 _ _).trans (teq (by decide)).1) (by decide) (by decide) ?_
        show Steps _ _ _ (T188.setTop (mkF m 108 l183 [])) _
        refine XS.aload X188.here hx rfl (hb hby at_108) rfl rfl ?_
        show Steps _ _ _ (T188.setTop (mkF m 110 l183 [(.ref b3)])) _
        refine XS.iconst X188.here hx rfl (hb hby at_110) ?_
        show Steps _ _ _ (T188.setTop (mkF m 111 l183 [(.int (1 : Int32)), (.ref b3)])) _
        refine XS.iload X188.here hx rfl (hb hby at_111) rfl ?_
        show Steps _ _ _ (T188.setTop (mkF m 113 l183 [(.int (1 : Int32)), (.int (1 : Int32)), (.ref b3)])) _
        refine XS.iload X188.here hx rfl (hb hby at_113) rfl ?_
        show Steps _ _ _ (T188.setTop (mkF m 115 l183 [(.int (1 : Int32)), (.int (1 : Int32)), (.int (1 : Int32)), (.ref b3)])) _
        exact hq)
      obtain ⟨_, T190, L190, X190, ⟨rfl, Nq190, eq190⟩, k190a⟩ := callS' X188 hx hZ (y := (⟨"com/example/apportion/apportion/input/DecimalsFirstWholeDigitPinLaw", "stops", "([CIII)Z"⟩ : MethodName)) hown (hw _ (List.mem_of_getElem? (i := 35) rfl)) (hw _ (List.mem_of_getElem? (i := 36) rfl)) (hw _ (List.mem_of_getElem? (i := 3) rfl)) (hw _ (List.mem_of_getElem? (i := 37) rfl)) (by decide) (backC (W := 0) (rm_st1_1_1 l Z a0 hw b3 c3 r6 r9 r12 r15 (0 : Int32) h21 n0 (by omega) f185 rfl) hZ (hw _ (List.mem_of_getElem? (i := 37) rfl)) (hw _ (List.mem_of_getElem? (i := 3) rfl)) (by decide) (by decide)) e188 (argsL := [(.ref b3), (.int (1 : Int32)), (.int (1 : Int32)), (.int (1 : Int32))]) (rest := []) rfl rfl pd_10 rfl (by rw [hml]; rfl) (hb hby at_115) (Nat.le_of_eq rfl) (by decide) (by decide) k189
      have k190 : To p.tables e below S0 (T190.setTop (mkF m 118 l183 [(.int (0 : Int32))])) := k190a
      have N190 := N188.app Nq190
      have e190 : T190.heap = h21 := eq190
      have k191 : To p.tables e below S0 (T190.setTop (mkF m 131 l183 [(.int (1 : Int32)), (.int (1 : Int32)), (.int (0 : Int32)), (.ref b3)])) := fun tt hq => k190 tt (by
        show Steps _ _ _ (T190.setTop (mkF m 118 l183 [(.int (0 : Int32))])) _
        refine XS.ifYes X190.here hx rfl (pc0 := 118) (pc' := 124) rfl (hb hby at_118) rfl ((if0 _ _).trans (teq (by decide)).1) (by decide) (by decide) ?_
        show Steps _ _ _ (T190.setTop (mkF m 124 l183 [])) _
        refine XS.aload X190.here hx rfl (hb hby at_124) rfl rfl ?_
        show Steps _ _ _ (T190.setTop (mkF m 126 l183 [(.ref b3)])) _
        refine XS.iconst X190.here hx rfl (hb hby at_126) ?_
        show Steps _ _ _ (T190.setTop (mkF m 127 l183 [(.int (0 : Int32)), (.ref b3)])) _
        refine XS.iload X190.here hx rfl (hb hby at_127) rfl ?_
        show Steps _ _ _ (T190.setTop (mkF m 129 l183 [(.int (1 : Int32)), (.int (0 : Int32)), (.ref b3)])) _
        refine XS.iload X190.here hx rfl (hb hby at_129) rfl ?_
        show Steps _ _ _ (T190.setTop (mkF m 131 l183 [(.int (1 : Int32)), (.int (1 : Int32)), (.int (0 : Int32)), (.ref b3)])) _
        exact hq)
      obtain ⟨_, T192, L192, X192, ⟨rfl, Nq192, eq192⟩, k192a⟩ := callS' X190 hx hZ (y := (⟨"com/example/apportion/apportion/input/DecimalsFirstWholeDigitPinLaw", "stops", "([CIII)Z"⟩ : MethodName)) hown (hw _ (List.mem_of_getElem? (i := 35) rfl)) (hw _ (List.mem_of_getElem? (i := 36) rfl)) (hw _ (List.mem_of_getElem? (i := 3) rfl)) (hw _ (List.mem_of_getElem? (i := 37) rfl)) (by decide) (backC (W := 0) (rm_st0_1_1 l Z a0 hw b3 c3 r6 r9 r12 r15 (0 : Int32) h21 n0 (by omega) f185 rfl) hZ (hw _ (List.mem_of_getElem? (i := 37) rfl)) (hw _ (List.mem_of_getElem? (i := 3) rfl)) (by decide) (by decide)) e190 (argsL := [(.ref b3), (.int (0 : Int32)), (.int (1 : Int32)), (.int (1 : Int32))]) (rest := []) rfl rfl pd_10 rfl (by rw [hml]; rfl) (hb hby at_131) (Nat.le_of_eq rfl) (by decide) (by decide) k191
      have k192 : To p.tables e below S0 (T192.setTop (mkF m 134 l183 [(.int (0 : Int32))])) := k192a
      have N192 := N190.app Nq192
      have e192 : T192.heap = h21 := eq192
      have k193 : To p.tables e below S0 (T192.setTop (mkF m 146 l183 [(.int (1 : Int32)), (.int (1 : Int32)), (.ref b17)])) := fun tt hq => k192 tt (by
        show Steps _ _ _ (T192.setTop (mkF m 134 l183 [(.int (0 : Int32))])) _
        refine XS.ifYes X192.here hx rfl (pc0 := 134) (pc' := 140) rfl (hb hby at_134) rfl ((if0 _ _).trans (teq (by decide)).1) (by decide) (by decide) ?_
        show Steps _ _ _ (T192.setTop (mkF m 140 l183 [])) _
        refine XS.aload X192.here hx rfl (hb hby at_140) rfl rfl ?_
        show Steps _ _ _ (T192.setTop (mkF m 142 l183 [(.ref b17)])) _
        refine XS.iload X192.here hx rfl (hb hby at_142) rfl ?_
        show Steps _ _ _ (T192.setTop (mkF m 144 l183 [(.int (1 : Int32)), (.ref b17)])) _
        refine XS.iload X192.here hx rfl (hb hby at_144) rfl ?_
        show Steps _ _ _ (T192.setTop (mkF m 146 l183 [(.int (1 : Int32)), (.int (1 : Int32)), (.ref b17)])) _
        exact hq)
      have f194 : Old Z n0 h21 := (f19.keep Kq21 (allS (by omega) all0))
      obtain ⟨_, T195, L195, X195, ⟨rfl, Nq195, eq195⟩, k195a⟩ := callS' X192 hx hZ (y := (⟨"com/example/apportion/apportion/input/Decimals", "firstWholeDigit", "(Ljava/lang/String;II)I"⟩ : MethodName)) hown (hw _ (List.mem_of_getElem? (i := 38) rfl)) (hw _ (List.mem_of_getElem? (i := 39) rfl)) (hw _ (List.mem_of_getElem? (i := 40) rfl)) (hw _ (List.mem_of_getElem? (i := 41) rfl)) (by decide) (backC (W := 0) (rm_fwd1_1 l Z a0 hw zc fm b17 t21 kt21 r6 r9 r12 r15 (1 : Int32) h21 n0 (by omega) S_c hzc S_f hfm f194 P210 P211 P212 P213 hr6 hr9 hr12 hr15 rfl) hZ (hw _ (List.mem_of_getElem? (i := 41) rfl)) (hw _ (List.mem_of_getElem? (i := 40) rfl)) (by decide) (by decide)) e192 (argsL := [(.ref b17), (.int (1 : Int32)), (.int (1 : Int32))]) (rest := []) rfl rfl pd_11 rfl (by rw [hml]; rfl) (hb hby at_146) (Nat.le_of_eq rfl) (by decide) (by decide) k193
      have k195 : To p.tables e below S0 (T195.setTop (mkF m 149 l183 [(.int (1 : Int32))])) := k195a
      have N195 := N192.app Nq195
      have e195 : T195.heap = h21 := eq195
      have k196 : To p.tables e below S0 (T195.setTop (mkF m 159 l183 [(.int (1 : Int32))])) := fun tt hq => k195 tt (by
        show Steps _ _ _ (T195.setTop (mkF m 149 l183 [(.int (1 : Int32))])) _
        refine XS.iload X195.here hx rfl (hb hby at_149) rfl ?_
        show Steps _ _ _ (T195.setTop (mkF m 151 l183 [(.int (1 : Int32)), (.int (1 : Int32))])) _
        refine XS.icmpNo X195.here hx rfl (hb hby at_151) rfl (teq (by decide)).2 ?_
        show Steps _ _ _ (T195.setTop (mkF m 154 l183 [])) _
        refine XS.iconst X195.here hx rfl (hb hby at_154) ?_
        show Steps _ _ _ (T195.setTop (mkF m 155 l183 [(.int (1 : Int32))])) _
        refine XS.goto X195.here hx rfl (pc0 := 155) (pc' := 159) rfl (hb hby at_155) (by decide) (by decide) ?_
        show Steps _ _ _ (T195.setTop (mkF m 159 l183 [(.int (1 : Int32))])) _
        exact hq)
      have hE := e195
      refine retInt X195 hx hret hlk (by simp) rfl (hb hby at_159) k196 ?_ (by decide) (by decide)
      try rw [hE]
      exact ⟨rfl, N195⟩
    · -- pc 69: (1 : Int32)
      have k197 : To p.tables e below S0 (T21.setTop (mkF m 69 l178 [(.int (1 : Int32)), (.int (1 : Int32))])) := by have hq := k179; rw [ht180] at hq; exact hq
      let l198 : Array Slot := #[.val (.int p0), .val (.int p1), .val (.int p2), .val (.int p3), .val (.int p4), .val (.int p5), .val (.ref b3), .val (.ref b17), .val (.int (1 : Int32)), .val (.int (2 : Int32)), .unset]
      let l199 : Array Slot := #[.val (.int p0), .val (.int p1), .val (.int p2), .val (.int p3), .val (.int p4), .val (.int p5), .val (.ref b3), .val (.ref b17), .val (.int (1 : Int32)), .val (.int (2 : Int32)), .val (.int (2 : Int32))]
      have k200 : To p.tables e below S0 (T21.setTop (mkF m 83 l199 [(.int (2 : Int32)), (.int (1 : Int32)), (.int (3 : Int32)), (.ref b3)])) := fun tt hq => k197 tt (by
        show Steps _ _ _ (T21.setTop (mkF m 69 l178 [(.int (1 : Int32)), (.int (1 : Int32))])) _
        refine XS.iadd X21.here hx rfl (hb hby at_69) rfl ?_
        show Steps _ _ _ (T21.setTop (mkF m 70 l178 [(.int (2 : Int32))])) _
        refine XS.istore X21.here hx rfl (hb hby at_70) rfl (l' := l198) rfl ?_
        show Steps _ _ _ (T21.setTop (mkF m 72 l198 [])) _
        refine XS.iload X21.here hx rfl (hb hby at_72) rfl ?_
        show Steps _ _ _ (T21.setTop (mkF m 74 l198 [(.int (2 : Int32))])) _
        refine XS.istore X21.here hx rfl (hb hby at_74) rfl (l' := l199) rfl ?_
        show Steps _ _ _ (T21.setTop (mkF m 76 l199 [])) _
        refine XS.aload X21.here hx rfl (hb hby at_76) rfl rfl ?_
        show Steps _ _ _ (T21.setTop (mkF m 78 l199 [(.ref b3)])) _
        refine XS.iconst X21.here hx rfl (hb hby at_78) ?_
        show Steps _ _ _ (T21.setTop (mkF m 79 l199 [(.int (3 : Int32)), (.ref b3)])) _
        refine XS.iload X21.here hx rfl (hb hby at_79) rfl ?_
        show Steps _ _ _ (T21.setTop (mkF m 81 l199 [(.int (1 : Int32)), (.int (3 : Int32)), (.ref b3)])) _
        refine XS.iload X21.here hx rfl (hb hby at_81) rfl ?_
        show Steps _ _ _ (T21.setTop (mkF m 83 l199 [(.int (2 : Int32)), (.int (1 : Int32)), (.int (3 : Int32)), (.ref b3)])) _
        exact hq)
      have f201 : Arv Z h21 b3 c3 .char (4 : Int32) [(.int r6), (.int r9), (.int r12), (.int r15)] (.int (0 : Int32)) := (f20.keep Kq21 (ninS (adr_ne (by omega)) nin0))
      obtain ⟨_, T202, L202, X202, ⟨rfl, Nq202, eq202⟩, k202a⟩ := callS' X21 hx hZ (y := (⟨"com/example/apportion/apportion/input/DecimalsFirstWholeDigitPinLaw", "stops", "([CIII)Z"⟩ : MethodName)) hown (hw _ (List.mem_of_getElem? (i := 35) rfl)) (hw _ (List.mem_of_getElem? (i := 36) rfl)) (hw _ (List.mem_of_getElem? (i := 3) rfl)) (hw _ (List.mem_of_getElem? (i := 37) rfl)) (by decide) (backC (W := 0) (rm_st3_1_2 l Z a0 hw b3 c3 r6 r9 r12 r15 (0 : Int32) h21 n0 (by omega) f201 rfl) hZ (hw _ (List.mem_of_getElem? (i := 37) rfl)) (hw _ (List.mem_of_getElem? (i := 3) rfl)) (by decide) (by decide)) e21 (argsL := [(.ref b3), (.int (3 : Int32)), (.int (1 : Int32)), (.int (2 : Int32))]) (rest := []) rfl rfl pd_10 rfl (by rw [hml]; rfl) (hb hby at_83) (Nat.le_of_eq rfl) (by decide) (by decide) k200
      have k202 : To p.tables e below S0 (T202.setTop (mkF m 86 l199 [(.int (0 : Int32))])) := k202a
      have N202 := N21.app Nq202
      have e202 : T202.heap = h21 := eq202
      have k203 : To p.tables e below S0 (T202.setTop (mkF m 99 l199 [(.int (2 : Int32)), (.int (1 : Int32)), (.int (2 : Int32)), (.ref b3)])) := fun tt hq => k202 tt (by
        show Steps _ _ _ (T202.setTop (mkF m 86 l199 [(.int (0 : Int32))])) _
        refine XS.ifYes X202.here hx rfl (pc0 := 86) (pc' := 92) rfl (hb hby at_86) rfl ((if0 _ _).trans (teq (by decide)).1) (by decide) (by decide) ?_
        show Steps _ _ _ (T202.setTop (mkF m 92 l199 [])) _
        refine XS.aload X202.here hx rfl (hb hby at_92) rfl rfl ?_
        show Steps _ _ _ (T202.setTop (mkF m 94 l199 [(.ref b3)])) _
        refine XS.iconst X202.here hx rfl (hb hby at_94) ?_
        show Steps _ _ _ (T202.setTop (mkF m 95 l199 [(.int (2 : Int32)), (.ref b3)])) _
        refine XS.iload X202.here hx rfl (hb hby at_95) rfl ?_
        show Steps _ _ _ (T202.setTop (mkF m 97 l199 [(.int (1 : Int32)), (.int (2 : Int32)), (.ref b3)])) _
        refine XS.iload X202.here hx rfl (hb hby at_97) rfl ?_
        show Steps _ _ _ (T202.setTop (mkF m 99 l199 [(.int (2 : Int32)), (.int (1 : Int32)), (.int (2 : Int32)), (.ref b3)])) _
        exact hq)
      obtain ⟨_, T204, L204, X204, ⟨rfl, Nq204, eq204⟩, k204a⟩ := callS' X202 hx hZ (y := (⟨"com/example/apportion/apportion/input/DecimalsFirstWholeDigitPinLaw", "stops", "([CIII)Z"⟩ : MethodName)) hown (hw _ (List.mem_of_getElem? (i := 35) rfl)) (hw _ (List.mem_of_getElem? (i := 36) rfl)) (hw _ (List.mem_of_getElem? (i := 3) rfl)) (hw _ (List.mem_of_getElem? (i := 37) rfl)) (by decide) (backC (W := 0) (rm_st2_1_2 l Z a0 hw b3 c3 r6 r9 r12 r15 (0 : Int32) h21 n0 (by omega) f201 rfl) hZ (hw _ (List.mem_of_getElem? (i := 37) rfl)) (hw _ (List.mem_of_getElem? (i := 3) rfl)) (by decide) (by decide)) e202 (argsL := [(.ref b3), (.int (2 : Int32)), (.int (1 : Int32)), (.int (2 : Int32))]) (rest := []) rfl rfl pd_10 rfl (by rw [hml]; rfl) (hb hby at_99) (Nat.le_of_eq rfl) (by decide) (by decide) k203
      have k204 : To p.tables e below S0 (T204.setTop (mkF m 102 l199 [(.int (0 : Int32))])) := k204a
      have N204 := N202.app Nq204
      have e204 : T204.heap = h21 := eq204
      have k205 : To p.tables e below S0 (T204.setTop (mkF m 115 l199 [(.int (2 : Int32)), (.int (1 : Int32)), (.int (1 : Int32)), (.ref b3)])) := fun tt hq => k204 tt (by
        show Steps _ _ _ (T204.setTop (mkF m 102 l199 [(.int (0 : Int32))])) _
        refine XS.ifYes X204.here hx rfl (pc0 := 102) (pc' := 108) rfl (hb hby at_102) rfl ((if0 _ _).trans (teq (by decide)).1) (by decide) (by decide) ?_
        show Steps _ _ _ (T204.setTop (mkF m 108 l199 [])) _
        refine XS.aload X204.here hx rfl (hb hby at_108) rfl rfl ?_
        show Steps _ _ _ (T204.setTop (mkF m 110 l199 [(.ref b3)])) _
        refine XS.iconst X204.here hx rfl (hb hby at_110) ?_
        show Steps _ _ _ (T204.setTop (mkF m 111 l199 [(.int (1 : Int32)), (.ref b3)])) _
        refine XS.iload X204.here hx rfl (hb hby at_111) rfl ?_
        show Steps _ _ _ (T204.setTop (mkF m 113 l199 [(.int (1 : Int32)), (.int (1 : Int32)), (.ref b3)])) _
        refine XS.iload X204.here hx rfl (hb hby at_113) rfl ?_
        show Steps _ _ _ (T204.setTop (mkF m 115 l199 [(.int (2 : Int32)), (.int (1 : Int32)), (.int (1 : Int32)), (.ref b3)])) _
        exact hq)
      obtain ⟨_, T206, L206, X206, ⟨rfl, Nq206, eq206⟩, k206a⟩ := callS' X204 hx hZ (y := (⟨"com/example/apportion/apportion/input/DecimalsFirstWholeDigitPinLaw", "stops", "([CIII)Z"⟩ : MethodName)) hown (hw _ (List.mem_of_getElem? (i := 35) rfl)) (hw _ (List.mem_of_getElem? (i := 36) rfl)) (hw _ (List.mem_of_getElem? (i := 3) rfl)) (hw _ (List.mem_of_getElem? (i := 37) rfl)) (by decide) (backC (W := 0) (rm_st1_1_2 l Z a0 hw b3 c3 r6 r9 r12 r15 (if r9 = (48 : Int32) then (0 : Int32) else 1) h21 n0 (by omega) f201 rfl) hZ (hw _ (List.mem_of_getElem? (i := 37) rfl)) (hw _ (List.mem_of_getElem? (i := 3) rfl)) (by decide) (by decide)) e204 (argsL := [(.ref b3), (.int (1 : Int32)), (.int (1 : Int32)), (.int (2 : Int32))]) (rest := []) rfl rfl pd_10 rfl (by rw [hml]; rfl) (hb hby at_115) (Nat.le_of_eq rfl) (by decide) (by decide) k205
      have k206 : To p.tables e below S0 (T206.setTop (mkF m 118 l199 [(.int (if r9 = (48 : Int32) then (0 : Int32) else 1))])) := k206a
      have N206 := N204.app Nq206
      have e206 : T206.heap = h21 := eq206
      let l208 : Array Slot := #[.val (.int p0), .val (.int p1), .val (.int p2), .val (.int p3), .val (.int p4), .val (.int p5), .val (.ref b3), .val (.ref b17), .val (.int (1 : Int32)), .val (.int (2 : Int32)), .val (.int (if (if r9 = (48 : Int32) then (0 : Int32) else 1) = (0 : Int32) then (2 : Int32) else (1 : Int32)))]
      refine joinT (S0 := S0) X206 e206 (mkF m 124 l208 []) (fun kont => ?_) (fun T207 X207 e207 k207 => ?_)
      · -- the roads to pc 124
        by_cases hc118_209 : (if r9 = (48 : Int32) then (0 : Int32) else 1) = (0 : Int32)
        · -- pc 118, holds
          have k210 : To p.tables e below S0 (T206.setTop (mkF m 124 l199 [])) := fun tt hq => k206 tt (by
            show Steps _ _ _ (T206.setTop (mkF m 118 l199 [(.int (if r9 = (48 : Int32) then (0 : Int32) else 1))])) _
            refine XS.ifYes X206.here hx rfl (pc0 := 118) (pc' := 124) rfl (hb hby at_118) rfl ((if0 _ _).trans (teq hc118_209).1) (by decide) (by decide) ?_
            show Steps _ _ _ (T206.setTop (mkF m 124 l199 [])) _
            exact hq)
          exact kont T206 X206 e206 (fun tt hq => k210 tt (by simpa only [if_pos hc118_209, l199, l208] using hq))
        · -- pc 118, holds not
          let l211 : Array Slot := #[.val (.int p0), .val (.int p1), .val (.int p2), .val (.int p3), .val (.int p4), .val (.int p5), .val (.ref b3), .val (.ref b17), .val (.int (1 : Int32)), .val (.int (2 : Int32)), .val (.int (1 : Int32))]
          have k212 : To p.tables e below S0 (T206.setTop (mkF m 124 l211 [])) := fun tt hq => k206 tt (by
            show Steps _ _ _ (T206.setTop (mkF m 118 l199 [(.int (if r9 = (48 : Int32) then (0 : Int32) else 1))])) _
            refine XS.ifNo X206.here hx rfl (hb hby at_118) rfl ((if0 _ _).trans (feq hc118_209).1) ?_
            show Steps _ _ _ (T206.setTop (mkF m 121 l199 [])) _
            refine XS.iconst X206.here hx rfl (hb hby at_121) ?_
            show Steps _ _ _ (T206.setTop (mkF m 122 l199 [(.int (1 : Int32))])) _
            refine XS.istore X206.here hx rfl (hb hby at_122) rfl (l' := l211) rfl ?_
            show Steps _ _ _ (T206.setTop (mkF m 124 l211 [])) _
            exact hq)
          exact kont T206 X206 e206 (fun tt hq => k212 tt (by simpa only [if_neg hc118_209, l211, l208] using hq))
      have k213 : To p.tables e below S0 (T207.setTop (mkF m 131 l208 [(.int (2 : Int32)), (.int (1 : Int32)), (.int (0 : Int32)), (.ref b3)])) := fun tt hq => k207 tt (by
        show Steps _ _ _ (T207.setTop (mkF m 124 l208 [])) _
        refine XS.aload X207.here hx rfl (hb hby at_124) rfl rfl ?_
        show Steps _ _ _ (T207.setTop (mkF m 126 l208 [(.ref b3)])) _
        refine XS.iconst X207.here hx rfl (hb hby at_126) ?_
        show Steps _ _ _ (T207.setTop (mkF m 127 l208 [(.int (0 : Int32)), (.ref b3)])) _
        refine XS.iload X207.here hx rfl (hb hby at_127) rfl ?_
        show Steps _ _ _ (T207.setTop (mkF m 129 l208 [(.int (1 : Int32)), (.int (0 : Int32)), (.ref b3)])) _
        refine XS.iload X207.here hx rfl (hb hby at_129) rfl ?_
        show Steps _ _ _ (T207.setTop (mkF m 131 l208 [(.int (2 : Int32)), (.int (1 : Int32)), (.int (0 : Int32)), (.ref b3)])) _
        exact hq)
      obtain ⟨_, T214, L214, X214, ⟨rfl, Nq214, eq214⟩, k214a⟩ := callS' X207 hx hZ (y := (⟨"com/example/apportion/apportion/input/DecimalsFirstWholeDigitPinLaw", "stops", "([CIII)Z"⟩ : MethodName)) hown (hw _ (List.mem_of_getElem? (i := 35) rfl)) (hw _ (List.mem_of_getElem? (i := 36) rfl)) (hw _ (List.mem_of_getElem? (i := 3) rfl)) (hw _ (List.mem_of_getElem? (i := 37) rfl)) (by decide) (backC (W := 0) (rm_st0_1_2 l Z a0 hw b3 c3 r6 r9 r12 r15 (0 : Int32) h21 n0 (by omega) f201 rfl) hZ (hw _ (List.mem_of_getElem? (i := 37) rfl)) (hw _ (List.mem_of_getElem? (i := 3) rfl)) (by decide) (by decide)) e207 (argsL := [(.ref b3), (.int (0 : Int32)), (.int (1 : Int32)), (.int (2 : Int32))]) (rest := []) rfl rfl pd_10 rfl (by rw [hml]; rfl) (hb hby at_131) (Nat.le_of_eq rfl) (by decide) (by decide) k213
      have k214 : To p.tables e below S0 (T214.setTop (mkF m 134 l208 [(.int (0 : Int32))])) := k214a
      have N214 := N206.app Nq214
      have e214 : T214.heap = h21 := eq214
      have k215 : To p.tables e below S0 (T214.setTop (mkF m 146 l208 [(.int (2 : Int32)), (.int (1 : Int32)), (.ref b17)])) := fun tt hq => k214 tt (by
        show Steps _ _ _ (T214.setTop (mkF m 134 l208 [(.int (0 : Int32))])) _
        refine XS.ifYes X214.here hx rfl (pc0 := 134) (pc' := 140) rfl (hb hby at_134) rfl ((if0 _ _).trans (teq (by decide)).1) (by decide) (by decide) ?_
        show Steps _ _ _ (T214.setTop (mkF m 140 l208 [])) _
        refine XS.aload X214.here hx rfl (hb hby at_140) rfl rfl ?_
        show Steps _ _ _ (T214.setTop (mkF m 142 l208 [(.ref b17)])) _
        refine XS.iload X214.here hx rfl (hb hby at_142) rfl ?_
        show Steps _ _ _ (T214.setTop (mkF m 144 l208 [(.int (1 : Int32)), (.ref b17)])) _
        refine XS.iload X214.here hx rfl (hb hby at_144) rfl ?_
        show Steps _ _ _ (T214.setTop (mkF m 146 l208 [(.int (2 : Int32)), (.int (1 : Int32)), (.ref b17)])) _
        exact hq)
      have f216 : Old Z n0 h21 := (f19.keep Kq21 (allS (by omega) all0))
      obtain ⟨_, T217, L217, X217, ⟨rfl, Nq217, eq217⟩, k217a⟩ := callS' X214 hx hZ (y := (⟨"com/example/apportion/apportion/input/Decimals", "firstWholeDigit", "(Ljava/lang/String;II)I"⟩ : MethodName)) hown (hw _ (List.mem_of_getElem? (i := 38) rfl)) (hw _ (List.mem_of_getElem? (i := 39) rfl)) (hw _ (List.mem_of_getElem? (i := 40) rfl)) (hw _ (List.mem_of_getElem? (i := 41) rfl)) (by decide) (backC (W := 0) (rm_fwd1_2 l Z a0 hw zc fm b17 t21 kt21 r6 r9 r12 r15 (if r9 = (48 : Int32) then (2 : Int32) else (1 : Int32)) h21 n0 (by omega) S_c hzc S_f hfm f216 P210 P211 P212 P213 hr6 hr9 hr12 hr15 rfl) hZ (hw _ (List.mem_of_getElem? (i := 41) rfl)) (hw _ (List.mem_of_getElem? (i := 40) rfl)) (by decide) (by decide)) e214 (argsL := [(.ref b17), (.int (1 : Int32)), (.int (2 : Int32))]) (rest := []) rfl rfl pd_11 rfl (by rw [hml]; rfl) (hb hby at_146) (Nat.le_of_eq rfl) (by decide) (by decide) k215
      have k217 : To p.tables e below S0 (T217.setTop (mkF m 149 l208 [(.int (if r9 = (48 : Int32) then (2 : Int32) else (1 : Int32)))])) := k217a
      have N217 := N214.app Nq217
      have e217 : T217.heap = h21 := eq217
      have k218 : To p.tables e below S0 (T217.setTop (mkF m 151 l208 [(.int (if (if r9 = (48 : Int32) then (0 : Int32) else 1) = (0 : Int32) then (2 : Int32) else (1 : Int32))), (.int (if r9 = (48 : Int32) then (2 : Int32) else (1 : Int32)))])) := fun tt hq => k217 tt (by
        show Steps _ _ _ (T217.setTop (mkF m 149 l208 [(.int (if r9 = (48 : Int32) then (2 : Int32) else (1 : Int32)))])) _
        refine XS.iload X217.here hx rfl (hb hby at_149) rfl ?_
        show Steps _ _ _ (T217.setTop (mkF m 151 l208 [(.int (if (if r9 = (48 : Int32) then (0 : Int32) else 1) = (0 : Int32) then (2 : Int32) else (1 : Int32))), (.int (if r9 = (48 : Int32) then (2 : Int32) else (1 : Int32)))])) _
        exact hq)
      by_cases hc151_219 : (if r9 = (48 : Int32) then (2 : Int32) else (1 : Int32)) = (if (if r9 = (48 : Int32) then (0 : Int32) else 1) = (0 : Int32) then (2 : Int32) else (1 : Int32))
      · -- pc 151, holds
        have k220 : To p.tables e below S0 (T217.setTop (mkF m 159 l208 [(.int (1 : Int32))])) := fun tt hq => k218 tt (by
          show Steps _ _ _ (T217.setTop (mkF m 151 l208 [(.int (if (if r9 = (48 : Int32) then (0 : Int32) else 1) = (0 : Int32) then (2 : Int32) else (1 : Int32))), (.int (if r9 = (48 : Int32) then (2 : Int32) else (1 : Int32)))])) _
          refine XS.icmpNo X217.here hx rfl (hb hby at_151) rfl (teq hc151_219).2 ?_
          show Steps _ _ _ (T217.setTop (mkF m 154 l208 [])) _
          refine XS.iconst X217.here hx rfl (hb hby at_154) ?_
          show Steps _ _ _ (T217.setTop (mkF m 155 l208 [(.int (1 : Int32))])) _
          refine XS.goto X217.here hx rfl (pc0 := 155) (pc' := 159) rfl (hb hby at_155) (by decide) (by decide) ?_
          show Steps _ _ _ (T217.setTop (mkF m 159 l208 [(.int (1 : Int32))])) _
          exact hq)
        have hE := e217
        refine retInt X217 hx hret hlk (by simp) rfl (hb hby at_159) k220 ?_ (by decide) (by decide)
        try rw [hE]
        exact ⟨rfl, N217⟩
      · -- pc 151, holds not
        exact absurd (by by_cases q1 : r9 = (48 : Int32) <;> simp [q1]) hc151_219
    · -- pc 69: (2 : Int32)
      have k221 : To p.tables e below S0 (T21.setTop (mkF m 69 l178 [(.int (2 : Int32)), (.int (1 : Int32))])) := by have hq := k179; rw [ht180] at hq; exact hq
      let l222 : Array Slot := #[.val (.int p0), .val (.int p1), .val (.int p2), .val (.int p3), .val (.int p4), .val (.int p5), .val (.ref b3), .val (.ref b17), .val (.int (1 : Int32)), .val (.int (3 : Int32)), .unset]
      let l223 : Array Slot := #[.val (.int p0), .val (.int p1), .val (.int p2), .val (.int p3), .val (.int p4), .val (.int p5), .val (.ref b3), .val (.ref b17), .val (.int (1 : Int32)), .val (.int (3 : Int32)), .val (.int (3 : Int32))]
      have k224 : To p.tables e below S0 (T21.setTop (mkF m 83 l223 [(.int (3 : Int32)), (.int (1 : Int32)), (.int (3 : Int32)), (.ref b3)])) := fun tt hq => k221 tt (by
        show Steps _ _ _ (T21.setTop (mkF m 69 l178 [(.int (2 : Int32)), (.int (1 : Int32))])) _
        refine XS.iadd X21.here hx rfl (hb hby at_69) rfl ?_
        show Steps _ _ _ (T21.setTop (mkF m 70 l178 [(.int (3 : Int32))])) _
        refine XS.istore X21.here hx rfl (hb hby at_70) rfl (l' := l222) rfl ?_
        show Steps _ _ _ (T21.setTop (mkF m 72 l222 [])) _
        refine XS.iload X21.here hx rfl (hb hby at_72) rfl ?_
        show Steps _ _ _ (T21.setTop (mkF m 74 l222 [(.int (3 : Int32))])) _
        refine XS.istore X21.here hx rfl (hb hby at_74) rfl (l' := l223) rfl ?_
        show Steps _ _ _ (T21.setTop (mkF m 76 l223 [])) _
        refine XS.aload X21.here hx rfl (hb hby at_76) rfl rfl ?_
        show Steps _ _ _ (T21.setTop (mkF m 78 l223 [(.ref b3)])) _
        refine XS.iconst X21.here hx rfl (hb hby at_78) ?_
        show Steps _ _ _ (T21.setTop (mkF m 79 l223 [(.int (3 : Int32)), (.ref b3)])) _
        refine XS.iload X21.here hx rfl (hb hby at_79) rfl ?_
        show Steps _ _ _ (T21.setTop (mkF m 81 l223 [(.int (1 : Int32)), (.int (3 : Int32)), (.ref b3)])) _
        refine XS.iload X21.here hx rfl (hb hby at_81) rfl ?_
        show Steps _ _ _ (T21.setTop (mkF m 83 l223 [(.int (3 : Int32)), (.int (1 : Int32)), (.int (3 : Int32)), (.ref b3)])) _
        exact hq)
      have f225 : Arv Z h21 b3 c3 .char (4 : Int32) [(.int r6), (.int r9), (.int r12), (.int r15)] (.int (0 : Int32)) := (f20.keep Kq21 (ninS (adr_ne (by omega)) nin0))
      obtain ⟨_, T226, L226, X226, ⟨rfl, Nq226, eq226⟩, k226a⟩ := callS' X21 hx hZ (y := (⟨"com/example/apportion/apportion/input/DecimalsFirstWholeDigitPinLaw", "stops", "([CIII)Z"⟩ : MethodName)) hown (hw _ (List.mem_of_getElem? (i := 35) rfl)) (hw _ (List.mem_of_getElem? (i := 36) rfl)) (hw _ (List.mem_of_getElem? (i := 3) rfl)) (hw _ (List.mem_of_getElem? (i := 37) rfl)) (by decide) (backC (W := 0) (rm_st3_1_3 l Z a0 hw b3 c3 r6 r9 r12 r15 (0 : Int32) h21 n0 (by omega) f225 rfl) hZ (hw _ (List.mem_of_getElem? (i := 37) rfl)) (hw _ (List.mem_of_getElem? (i := 3) rfl)) (by decide) (by decide)) e21 (argsL := [(.ref b3), (.int (3 : Int32)), (.int (1 : Int32)), (.int (3 : Int32))]) (rest := []) rfl rfl pd_10 rfl (by rw [hml]; rfl) (hb hby at_83) (Nat.le_of_eq rfl) (by decide) (by decide) k224
      have k226 : To p.tables e below S0 (T226.setTop (mkF m 86 l223 [(.int (0 : Int32))])) := k226a
      have N226 := N21.app Nq226
      have e226 : T226.heap = h21 := eq226
      have k227 : To p.tables e below S0 (T226.setTop (mkF m 99 l223 [(.int (3 : Int32)), (.int (1 : Int32)), (.int (2 : Int32)), (.ref b3)])) := fun tt hq => k226 tt (by
        show Steps _ _ _ (T226.setTop (mkF m 86 l223 [(.int (0 : Int32))])) _
        refine XS.ifYes X226.here hx rfl (pc0 := 86) (pc' := 92) rfl (hb hby at_86) rfl ((if0 _ _).trans (teq (by decide)).1) (by decide) (by decide) ?_
        show Steps _ _ _ (T226.setTop (mkF m 92 l223 [])) _
        refine XS.aload X226.here hx rfl (hb hby at_92) rfl rfl ?_
        show Steps _ _ _ (T226.setTop (mkF m 94 l223 [(.ref b3)])) _
        refine XS.iconst X226.here hx rfl (hb hby at_94) ?_
        show Steps _ _ _ (T226.setTop (mkF m 95 l223 [(.int (2 : Int32)), (.ref b3)])) _
        refine XS.iload X226.here hx rfl (hb hby at_95) rfl ?_
        show Steps _ _ _ (T226.setTop (mkF m 97 l223 [(.int (1 : Int32)), (.int (2 : Int32)), (.ref b3)])) _
        refine XS.iload X226.here hx rfl (hb hby at_97) rfl ?_
        show Steps _ _ _ (T226.setTop (mkF m 99 l223 [(.int (3 : Int32)), (.int (1 : Int32)), (.int (2 : Int32)), (.ref b3)])) _
        exact hq)
      obtain ⟨_, T228, L228, X228, ⟨rfl, Nq228, eq228⟩, k228a⟩ := callS' X226 hx hZ (y := (⟨"com/example/apportion/apportion/input/DecimalsFirstWholeDigitPinLaw", "stops", "([CIII)Z"⟩ : MethodName)) hown (hw _ (List.mem_of_getElem? (i := 35) rfl)) (hw _ (List.mem_of_getElem? (i := 36) rfl)) (hw _ (List.mem_of_getElem? (i := 3) rfl)) (hw _ (List.mem_of_getElem? (i := 37) rfl)) (by decide) (backC (W := 0) (rm_st2_1_3 l Z a0 hw b3 c3 r6 r9 r12 r15 (if r12 = (48 : Int32) then (0 : Int32) else 1) h21 n0 (by omega) f225 rfl) hZ (hw _ (List.mem_of_getElem? (i := 37) rfl)) (hw _ (List.mem_of_getElem? (i := 3) rfl)) (by decide) (by decide)) e226 (argsL := [(.ref b3), (.int (2 : Int32)), (.int (1 : Int32)), (.int (3 : Int32))]) (rest := []) rfl rfl pd_10 rfl (by rw [hml]; rfl) (hb hby at_99) (Nat.le_of_eq rfl) (by decide) (by decide) k227
      have k228 : To p.tables e below S0 (T228.setTop (mkF m 102 l223 [(.int (if r12 = (48 : Int32) then (0 : Int32) else 1))])) := k228a
      have N228 := N226.app Nq228
      have e228 : T228.heap = h21 := eq228
      let l230 : Array Slot := #[.val (.int p0), .val (.int p1), .val (.int p2), .val (.int p3), .val (.int p4), .val (.int p5), .val (.ref b3), .val (.ref b17), .val (.int (1 : Int32)), .val (.int (3 : Int32)), .val (.int (if (if r12 = (48 : Int32) then (0 : Int32) else 1) = (0 : Int32) then (3 : Int32) else (2 : Int32)))]
      refine joinT (S0 := S0) X228 e228 (mkF m 108 l230 []) (fun kont => ?_) (fun T229 X229 e229 k229 => ?_)
      · -- the roads to pc 108
        by_cases hc102_231 : (if r12 = (48 : Int32) then (0 : Int32) else 1) = (0 : Int32)
        · -- pc 102, holds
          have k232 : To p.tables e below S0 (T228.setTop (mkF m 108 l223 [])) := fun tt hq => k228 tt (by
            show Steps _ _ _ (T228.setTop (mkF m 102 l223 [(.int (if r12 = (48 : Int32) then (0 : Int32) else 1))])) _
            refine XS.ifYes X228.here hx rfl (pc0 := 102) (pc' := 108) rfl (hb hby at_102) rfl ((if0 _ _).trans (teq hc102_231).1) (by decide) (by decide) ?_
            show Steps _ _ _ (T228.setTop (mkF m 108 l223 [])) _
            exact hq)
          exact kont T228 X228 e228 (fun tt hq => k232 tt (by simpa only [if_pos hc102_231, l223, l230] using hq))
        · -- pc 102, holds not
          let l233 : Array Slot := #[.val (.int p0), .val (.int p1), .val (.int p2), .val (.int p3), .val (.int p4), .val (.int p5), .val (.ref b3), .val (.ref b17), .val (.int (1 : Int32)), .val (.int (3 : Int32)), .val (.int (2 : Int32))]
          have k234 : To p.tables e below S0 (T228.setTop (mkF m 108 l233 [])) := fun tt hq => k228 tt (by
            show Steps _ _ _ (T228.setTop (mkF m 102 l223 [(.int (if r12 = (48 : Int32) then (0 : Int32) else 1))])) _
            refine XS.ifNo X228.here hx rfl (hb hby at_102) rfl ((if0 _ _).trans (feq hc102_231).1) ?_
            show Steps _ _ _ (T228.setTop (mkF m 105 l223 [])) _
            refine XS.iconst X228.here hx rfl (hb hby at_105) ?_
            show Steps _ _ _ (T228.setTop (mkF m 106 l223 [(.int (2 : Int32))])) _
            refine XS.istore X228.here hx rfl (hb hby at_106) rfl (l' := l233) rfl ?_
            show Steps _ _ _ (T228.setTop (mkF m 108 l233 [])) _
            exact hq)
          exact kont T228 X228 e228 (fun tt hq => k234 tt (by simpa only [if_neg hc102_231, l233, l230] using hq))
      have k235 : To p.tables e below S0 (T229.setTop (mkF m 115 l230 [(.int (3 : Int32)), (.int (1 : Int32)), (.int (1 : Int32)), (.ref b3)])) := fun tt hq => k229 tt (by
        show Steps _ _ _ (T229.setTop (mkF m 108 l230 [])) _
        refine XS.aload X229.here hx rfl (hb hby at_108) rfl rfl ?_
        show Steps _ _ _ (T229.setTop (mkF m 110 l230 [(.ref b3)])) _
        refine XS.iconst X229.here hx rfl (hb hby at_110) ?_
        show Steps _ _ _ (T229.setTop (mkF m 111 l230 [(.int (1 : Int32)), (.ref b3)])) _
        refine XS.iload X229.here hx rfl (hb hby at_111) rfl ?_
        show Steps _ _ _ (T229.setTop (mkF m 113 l230 [(.int (1 : Int32)), (.int (1 : Int32)), (.ref b3)])) _
        refine XS.iload X229.here hx rfl (hb hby at_113) rfl ?_
        show Steps _ _ _ (T229.setTop (mkF m 115 l230 [(.int (3 : Int32)), (.int (1 : Int32)), (.int (1 : Int32)), (.ref b3)])) _
        exact hq)
      obtain ⟨_, T236, L236, X236, ⟨rfl, Nq236, eq236⟩, k236a⟩ := callS' X229 hx hZ (y := (⟨"com/example/apportion/apportion/input/DecimalsFirstWholeDigitPinLaw", "stops", "([CIII)Z"⟩ : MethodName)) hown (hw _ (List.mem_of_getElem? (i := 35) rfl)) (hw _ (List.mem_of_getElem? (i := 36) rfl)) (hw _ (List.mem_of_getElem? (i := 3) rfl)) (hw _ (List.mem_of_getElem? (i := 37) rfl)) (by decide) (backC (W := 0) (rm_st1_1_3 l Z a0 hw b3 c3 r6 r9 r12 r15 (if r9 = (48 : Int32) then (0 : Int32) else 1) h21 n0 (by omega) f225 rfl) hZ (hw _ (List.mem_of_getElem? (i := 37) rfl)) (hw _ (List.mem_of_getElem? (i := 3) rfl)) (by decide) (by decide)) e229 (argsL := [(.ref b3), (.int (1 : Int32)), (.int (1 : Int32)), (.int (3 : Int32))]) (rest := []) rfl rfl pd_10 rfl (by rw [hml]; rfl) (hb hby at_115) (Nat.le_of_eq rfl) (by decide) (by decide) k235
      have k236 : To p.tables e below S0 (T236.setTop (mkF m 118 l230 [(.int (if r9 = (48 : Int32) then (0 : Int32) else 1))])) := k236a
      have N236 := N228.app Nq236
      have e236 : T236.heap = h21 := eq236
      let l238 : Array Slot := #[.val (.int p0), .val (.int p1), .val (.int p2), .val (.int p3), .val (.int p4), .val (.int p5), .val (.ref b3), .val (.ref b17), .val (.int (1 : Int32)), .val (.int (3 : Int32)), .val (.int (if (if r9 = (48 : Int32) then (0 : Int32) else 1) = (0 : Int32) then (if (if r12 = (48 : Int32) then (0 : Int32) else 1) = (0 : Int32) then (3 : Int32) else (2 : Int32)) else (1 : Int32)))]
      refine joinT (S0 := S0) X236 e236 (mkF m 124 l238 []) (fun kont => ?_) (fun T237 X237 e237 k237 => ?_)
      · -- the roads to pc 124
        by_cases hc118_239 : (if r9 = (48 : Int32) then (0 : Int32) else 1) = (0 : Int32)
        · -- pc 118, holds
          have k240 : To p.tables e below S0 (T236.setTop (mkF m 124 l230 [])) := fun tt hq => k236 tt (by
            show Steps _ _ _ (T236.setTop (mkF m 118 l230 [(.int (if r9 = (48 : Int32) then (0 : Int32) else 1))])) _
            refine XS.ifYes X236.here hx rfl (pc0 := 118) (pc' := 124) rfl (hb hby at_118) rfl ((if0 _ _).trans (teq hc118_239).1) (by decide) (by decide) ?_
            show Steps _ _ _ (T236.setTop (mkF m 124 l230 [])) _
            exact hq)
          exact kont T236 X236 e236 (fun tt hq => k240 tt (by simpa only [if_pos hc118_239, l230, l238] using hq))
        · -- pc 118, holds not
          let l241 : Array Slot := #[.val (.int p0), .val (.int p1), .val (.int p2), .val (.int p3), .val (.int p4), .val (.int p5), .val (.ref b3), .val (.ref b17), .val (.int (1 : Int32)), .val (.int (3 : Int32)), .val (.int (1 : Int32))]
          have k242 : To p.tables e below S0 (T236.setTop (mkF m 124 l241 [])) := fun tt hq => k236 tt (by
            show Steps _ _ _ (T236.setTop (mkF m 118 l230 [(.int (if r9 = (48 : Int32) then (0 : Int32) else 1))])) _
            refine XS.ifNo X236.here hx rfl (hb hby at_118) rfl ((if0 _ _).trans (feq hc118_239).1) ?_
            show Steps _ _ _ (T236.setTop (mkF m 121 l230 [])) _
            refine XS.iconst X236.here hx rfl (hb hby at_121) ?_
            show Steps _ _ _ (T236.setTop (mkF m 122 l230 [(.int (1 : Int32))])) _
            refine XS.istore X236.here hx rfl (hb hby at_122) rfl (l' := l241) rfl ?_
            show Steps _ _ _ (T236.setTop (mkF m 124 l241 [])) _
            exact hq)
          exact kont T236 X236 e236 (fun tt hq => k242 tt (by simpa only [if_neg hc118_239, l241, l238] using hq))
      have k243 : To p.tables e below S0 (T237.setTop (mkF m 131 l238 [(.int (3 : Int32)), (.int (1 : Int32)), (.int (0 : Int32)), (.ref b3)])) := fun tt hq => k237 tt (by
        show Steps _ _ _ (T237.setTop (mkF m 124 l238 [])) _
        refine XS.aload X237.here hx rfl (hb hby at_124) rfl rfl ?_
        show Steps _ _ _ (T237.setTop (mkF m 126 l238 [(.ref b3)])) _
        refine XS.iconst X237.here hx rfl (hb hby at_126) ?_
        show Steps _ _ _ (T237.setTop (mkF m 127 l238 [(.int (0 : Int32)), (.ref b3)])) _
        refine XS.iload X237.here hx rfl (hb hby at_127) rfl ?_
        show Steps _ _ _ (T237.setTop (mkF m 129 l238 [(.int (1 : Int32)), (.int (0 : Int32)), (.ref b3)])) _
        refine XS.iload X237.here hx rfl (hb hby at_129) rfl ?_
        show Steps _ _ _ (T237.setTop (mkF m 131 l238 [(.int (3 : Int32)), (.int (1 : Int32)), (.int (0 : Int32)), (.ref b3)])) _
        exact hq)
      obtain ⟨_, T244, L244, X244, ⟨rfl, Nq244, eq244⟩, k244a⟩ := callS' X237 hx hZ (y := (⟨"com/example/apportion/apportion/input/DecimalsFirstWholeDigitPinLaw", "stops", "([CIII)Z"⟩ : MethodName)) hown (hw _ (List.mem_of_getElem? (i := 35) rfl)) (hw _ (List.mem_of_getElem? (i := 36) rfl)) (hw _ (List.mem_of_getElem? (i := 3) rfl)) (hw _ (List.mem_of_getElem? (i := 37) rfl)) (by decide) (backC (W := 0) (rm_st0_1_3 l Z a0 hw b3 c3 r6 r9 r12 r15 (0 : Int32) h21 n0 (by omega) f225 rfl) hZ (hw _ (List.mem_of_getElem? (i := 37) rfl)) (hw _ (List.mem_of_getElem? (i := 3) rfl)) (by decide) (by decide)) e237 (argsL := [(.ref b3), (.int (0 : Int32)), (.int (1 : Int32)), (.int (3 : Int32))]) (rest := []) rfl rfl pd_10 rfl (by rw [hml]; rfl) (hb hby at_131) (Nat.le_of_eq rfl) (by decide) (by decide) k243
      have k244 : To p.tables e below S0 (T244.setTop (mkF m 134 l238 [(.int (0 : Int32))])) := k244a
      have N244 := N236.app Nq244
      have e244 : T244.heap = h21 := eq244
      have k245 : To p.tables e below S0 (T244.setTop (mkF m 146 l238 [(.int (3 : Int32)), (.int (1 : Int32)), (.ref b17)])) := fun tt hq => k244 tt (by
        show Steps _ _ _ (T244.setTop (mkF m 134 l238 [(.int (0 : Int32))])) _
        refine XS.ifYes X244.here hx rfl (pc0 := 134) (pc' := 140) rfl (hb hby at_134) rfl ((if0 _ _).trans (teq (by decide)).1) (by decide) (by decide) ?_
        show Steps _ _ _ (T244.setTop (mkF m 140 l238 [])) _
        refine XS.aload X244.here hx rfl (hb hby at_140) rfl rfl ?_
        show Steps _ _ _ (T244.setTop (mkF m 142 l238 [(.ref b17)])) _
        refine XS.iload X244.here hx rfl (hb hby at_142) rfl ?_
        show Steps _ _ _ (T244.setTop (mkF m 144 l238 [(.int (1 : Int32)), (.ref b17)])) _
        refine XS.iload X244.here hx rfl (hb hby at_144) rfl ?_
        show Steps _ _ _ (T244.setTop (mkF m 146 l238 [(.int (3 : Int32)), (.int (1 : Int32)), (.ref b17)])) _
        exact hq)
      have f246 : Old Z n0 h21 := (f19.keep Kq21 (allS (by omega) all0))
      obtain ⟨_, T247, L247, X247, ⟨rfl, Nq247, eq247⟩, k247a⟩ := callS' X244 hx hZ (y := (⟨"com/example/apportion/apportion/input/Decimals", "firstWholeDigit", "(Ljava/lang/String;II)I"⟩ : MethodName)) hown (hw _ (List.mem_of_getElem? (i := 38) rfl)) (hw _ (List.mem_of_getElem? (i := 39) rfl)) (hw _ (List.mem_of_getElem? (i := 40) rfl)) (hw _ (List.mem_of_getElem? (i := 41) rfl)) (by decide) (backC (W := 0) (rm_fwd1_3 l Z a0 hw zc fm b17 t21 kt21 r6 r9 r12 r15 (if r9 = (48 : Int32) then (if r12 = (48 : Int32) then (3 : Int32) else (2 : Int32)) else (1 : Int32)) h21 n0 (by omega) S_c hzc S_f hfm f246 P210 P211 P212 P213 hr6 hr9 hr12 hr15 rfl) hZ (hw _ (List.mem_of_getElem? (i := 41) rfl)) (hw _ (List.mem_of_getElem? (i := 40) rfl)) (by decide) (by decide)) e244 (argsL := [(.ref b17), (.int (1 : Int32)), (.int (3 : Int32))]) (rest := []) rfl rfl pd_11 rfl (by rw [hml]; rfl) (hb hby at_146) (Nat.le_of_eq rfl) (by decide) (by decide) k245
      have k247 : To p.tables e below S0 (T247.setTop (mkF m 149 l238 [(.int (if r9 = (48 : Int32) then (if r12 = (48 : Int32) then (3 : Int32) else (2 : Int32)) else (1 : Int32)))])) := k247a
      have N247 := N244.app Nq247
      have e247 : T247.heap = h21 := eq247
      have k248 : To p.tables e below S0 (T247.setTop (mkF m 151 l238 [(.int (if (if r9 = (48 : Int32) then (0 : Int32) else 1) = (0 : Int32) then (if (if r12 = (48 : Int32) then (0 : Int32) else 1) = (0 : Int32) then (3 : Int32) else (2 : Int32)) else (1 : Int32))), (.int (if r9 = (48 : Int32) then (if r12 = (48 : Int32) then (3 : Int32) else (2 : Int32)) else (1 : Int32)))])) := fun tt hq => k247 tt (by
        show Steps _ _ _ (T247.setTop (mkF m 149 l238 [(.int (if r9 = (48 : Int32) then (if r12 = (48 : Int32) then (3 : Int32) else (2 : Int32)) else (1 : Int32)))])) _
        refine XS.iload X247.here hx rfl (hb hby at_149) rfl ?_
        show Steps _ _ _ (T247.setTop (mkF m 151 l238 [(.int (if (if r9 = (48 : Int32) then (0 : Int32) else 1) = (0 : Int32) then (if (if r12 = (48 : Int32) then (0 : Int32) else 1) = (0 : Int32) then (3 : Int32) else (2 : Int32)) else (1 : Int32))), (.int (if r9 = (48 : Int32) then (if r12 = (48 : Int32) then (3 : Int32) else (2 : Int32)) else (1 : Int32)))])) _
        exact hq)
      by_cases hc151_249 : (if r9 = (48 : Int32) then (if r12 = (48 : Int32) then (3 : Int32) else (2 : Int32)) else (1 : Int32)) = (if (if r9 = (48 : Int32) then (0 : Int32) else 1) = (0 : Int32) then (if (if r12 = (48 : Int32) then (0 : Int32) else 1) = (0 : Int32) then (3 : Int32) else (2 : Int32)) else (1 : Int32))
      · -- pc 151, holds
        have k250 : To p.tables e below S0 (T247.setTop (mkF m 159 l238 [(.int (1 : Int32))])) := fun tt hq => k248 tt (by
          show Steps _ _ _ (T247.setTop (mkF m 151 l238 [(.int (if (if r9 = (48 : Int32) then (0 : Int32) else 1) = (0 : Int32) then (if (if r12 = (48 : Int32) then (0 : Int32) else 1) = (0 : Int32) then (3 : Int32) else (2 : Int32)) else (1 : Int32))), (.int (if r9 = (48 : Int32) then (if r12 = (48 : Int32) then (3 : Int32) else (2 : Int32)) else (1 : Int32)))])) _
          refine XS.icmpNo X247.here hx rfl (hb hby at_151) rfl (teq hc151_249).2 ?_
          show Steps _ _ _ (T247.setTop (mkF m 154 l238 [])) _
          refine XS.iconst X247.here hx rfl (hb hby at_154) ?_
          show Steps _ _ _ (T247.setTop (mkF m 155 l238 [(.int (1 : Int32))])) _
          refine XS.goto X247.here hx rfl (pc0 := 155) (pc' := 159) rfl (hb hby at_155) (by decide) (by decide) ?_
          show Steps _ _ _ (T247.setTop (mkF m 159 l238 [(.int (1 : Int32))])) _
          exact hq)
        have hE := e247
        refine retInt X247 hx hret hlk (by simp) rfl (hb hby at_159) k250 ?_ (by decide) (by decide)
        try rw [hE]
        exact ⟨rfl, N247⟩
      · -- pc 151, holds not
        exact absurd (by by_cases q1 : r9 = (48 : Int32) <;> by_cases q2 : r12 = (48 : Int32) <;> simp [q1, q2]) hc151_249
    · -- pc 69: (3 : Int32)
      have k251 : To p.tables e below S0 (T21.setTop (mkF m 69 l178 [(.int (3 : Int32)), (.int (1 : Int32))])) := by have hq := k179; rw [ht180] at hq; exact hq
      let l252 : Array Slot := #[.val (.int p0), .val (.int p1), .val (.int p2), .val (.int p3), .val (.int p4), .val (.int p5), .val (.ref b3), .val (.ref b17), .val (.int (1 : Int32)), .val (.int (4 : Int32)), .unset]
      let l253 : Array Slot := #[.val (.int p0), .val (.int p1), .val (.int p2), .val (.int p3), .val (.int p4), .val (.int p5), .val (.ref b3), .val (.ref b17), .val (.int (1 : Int32)), .val (.int (4 : Int32)), .val (.int (4 : Int32))]
      have k254 : To p.tables e below S0 (T21.setTop (mkF m 83 l253 [(.int (4 : Int32)), (.int (1 : Int32)), (.int (3 : Int32)), (.ref b3)])) := fun tt hq => k251 tt (by
        show Steps _ _ _ (T21.setTop (mkF m 69 l178 [(.int (3 : Int32)), (.int (1 : Int32))])) _
        refine XS.iadd X21.here hx rfl (hb hby at_69) rfl ?_
        show Steps _ _ _ (T21.setTop (mkF m 70 l178 [(.int (4 : Int32))])) _
        refine XS.istore X21.here hx rfl (hb hby at_70) rfl (l' := l252) rfl ?_
        show Steps _ _ _ (T21.setTop (mkF m 72 l252 [])) _
        refine XS.iload X21.here hx rfl (hb hby at_72) rfl ?_
        show Steps _ _ _ (T21.setTop (mkF m 74 l252 [(.int (4 : Int32))])) _
        refine XS.istore X21.here hx rfl (hb hby at_74) rfl (l' := l253) rfl ?_
        show Steps _ _ _ (T21.setTop (mkF m 76 l253 [])) _
        refine XS.aload X21.here hx rfl (hb hby at_76) rfl rfl ?_
        show Steps _ _ _ (T21.setTop (mkF m 78 l253 [(.ref b3)])) _
        refine XS.iconst X21.here hx rfl (hb hby at_78) ?_
        show Steps _ _ _ (T21.setTop (mkF m 79 l253 [(.int (3 : Int32)), (.ref b3)])) _
        refine XS.iload X21.here hx rfl (hb hby at_79) rfl ?_
        show Steps _ _ _ (T21.setTop (mkF m 81 l253 [(.int (1 : Int32)), (.int (3 : Int32)), (.ref b3)])) _
        refine XS.iload X21.here hx rfl (hb hby at_81) rfl ?_
        show Steps _ _ _ (T21.setTop (mkF m 83 l253 [(.int (4 : Int32)), (.int (1 : Int32)), (.int (3 : Int32)), (.ref b3)])) _
        exact hq)
      have f255 : Arv Z h21 b3 c3 .char (4 : Int32) [(.int r6), (.int r9), (.int r12), (.int r15)] (.int (0 : Int32)) := (f20.keep Kq21 (ninS (adr_ne (by omega)) nin0))
      obtain ⟨_, T256, L256, X256, ⟨rfl, Nq256, eq256⟩, k256a⟩ := callS' X21 hx hZ (y := (⟨"com/example/apportion/apportion/input/DecimalsFirstWholeDigitPinLaw", "stops", "([CIII)Z"⟩ : MethodName)) hown (hw _ (List.mem_of_getElem? (i := 35) rfl)) (hw _ (List.mem_of_getElem? (i := 36) rfl)) (hw _ (List.mem_of_getElem? (i := 3) rfl)) (hw _ (List.mem_of_getElem? (i := 37) rfl)) (by decide) (backC (W := 0) (rm_st3_1_4 l Z a0 hw b3 c3 r6 r9 r12 r15 (if r15 = (48 : Int32) then (0 : Int32) else 1) h21 n0 (by omega) f255 rfl) hZ (hw _ (List.mem_of_getElem? (i := 37) rfl)) (hw _ (List.mem_of_getElem? (i := 3) rfl)) (by decide) (by decide)) e21 (argsL := [(.ref b3), (.int (3 : Int32)), (.int (1 : Int32)), (.int (4 : Int32))]) (rest := []) rfl rfl pd_10 rfl (by rw [hml]; rfl) (hb hby at_83) (Nat.le_of_eq rfl) (by decide) (by decide) k254
      have k256 : To p.tables e below S0 (T256.setTop (mkF m 86 l253 [(.int (if r15 = (48 : Int32) then (0 : Int32) else 1))])) := k256a
      have N256 := N21.app Nq256
      have e256 : T256.heap = h21 := eq256
      let l258 : Array Slot := #[.val (.int p0), .val (.int p1), .val (.int p2), .val (.int p3), .val (.int p4), .val (.int p5), .val (.ref b3), .val (.ref b17), .val (.int (1 : Int32)), .val (.int (4 : Int32)), .val (.int (if (if r15 = (48 : Int32) then (0 : Int32) else 1) = (0 : Int32) then (4 : Int32) else (3 : Int32)))]
      refine joinT (S0 := S0) X256 e256 (mkF m 92 l258 []) (fun kont => ?_) (fun T257 X257 e257 k257 => ?_)
      · -- the roads to pc 92
        by_cases hc86_259 : (if r15 = (48 : Int32) then (0 : Int32) else 1) = (0 : Int32)
        · -- pc 86, holds
          have k260 : To p.tables e below S0 (T256.setTop (mkF m 92 l253 [])) := fun tt hq => k256 tt (by
            show Steps _ _ _ (T256.setTop (mkF m 86 l253 [(.int (if r15 = (48 : Int32) then (0 : Int32) else 1))])) _
            refine XS.ifYes X256.here hx rfl (pc0 := 86) (pc' := 92) rfl (hb hby at_86) rfl ((if0 _ _).trans (teq hc86_259).1) (by decide) (by decide) ?_
            show Steps _ _ _ (T256.setTop (mkF m 92 l253 [])) _
            exact hq)
          exact kont T256 X256 e256 (fun tt hq => k260 tt (by simpa only [if_pos hc86_259, l253, l258] using hq))
        · -- pc 86, holds not
          let l261 : Array Slot := #[.val (.int p0), .val (.int p1), .val (.int p2), .val (.int p3), .val (.int p4), .val (.int p5), .val (.ref b3), .val (.ref b17), .val (.int (1 : Int32)), .val (.int (4 : Int32)), .val (.int (3 : Int32))]
          have k262 : To p.tables e below S0 (T256.setTop (mkF m 92 l261 [])) := fun tt hq => k256 tt (by
            show Steps _ _ _ (T256.setTop (mkF m 86 l253 [(.int (if r15 = (48 : Int32) then (0 : Int32) else 1))])) _
            refine XS.ifNo X256.here hx rfl (hb hby at_86) rfl ((if0 _ _).trans (feq hc86_259).1) ?_
            show Steps _ _ _ (T256.setTop (mkF m 89 l253 [])) _
            refine XS.iconst X256.here hx rfl (hb hby at_89) ?_
            show Steps _ _ _ (T256.setTop (mkF m 90 l253 [(.int (3 : Int32))])) _
            refine XS.istore X256.here hx rfl (hb hby at_90) rfl (l' := l261) rfl ?_
            show Steps _ _ _ (T256.setTop (mkF m 92 l261 [])) _
            exact hq)
          exact kont T256 X256 e256 (fun tt hq => k262 tt (by simpa only [if_neg hc86_259, l261, l258] using hq))
      have k263 : To p.tables e below S0 (T257.setTop (mkF m 99 l258 [(.int (4 : Int32)), (.int (1 : Int32)), (.int (2 : Int32)), (.ref b3)])) := fun tt hq => k257 tt (by
        show Steps _ _ _ (T257.setTop (mkF m 92 l258 [])) _
        refine XS.aload X257.here hx rfl (hb hby at_92) rfl rfl ?_
        show Steps _ _ _ (T257.setTop (mkF m 94 l258 [(.ref b3)])) _
        refine XS.iconst X257.here hx rfl (hb hby at_94) ?_
        show Steps _ _ _ (T257.setTop (mkF m 95 l258 [(.int (2 : Int32)), (.ref b3)])) _
        refine XS.iload X257.here hx rfl (hb hby at_95) rfl ?_
        show Steps _ _ _ (T257.setTop (mkF m 97 l258 [(.int (1 : Int32)), (.int (2 : Int32)), (.ref b3)])) _
        refine XS.iload X257.here hx rfl (hb hby at_97) rfl ?_
        show Steps _ _ _ (T257.setTop (mkF m 99 l258 [(.int (4 : Int32)), (.int (1 : Int32)), (.int (2 : Int32)), (.ref b3)])) _
        exact hq)
      obtain ⟨_, T264, L264, X264, ⟨rfl, Nq264, eq264⟩, k264a⟩ := callS' X257 hx hZ (y := (⟨"com/example/apportion/apportion/input/DecimalsFirstWholeDigitPinLaw", "stops", "([CIII)Z"⟩ : MethodName)) hown (hw _ (List.mem_of_getElem? (i := 35) rfl)) (hw _ (List.mem_of_getElem? (i := 36) rfl)) (hw _ (List.mem_of_getElem? (i := 3) rfl)) (hw _ (List.mem_of_getElem? (i := 37) rfl)) (by decide) (backC (W := 0) (rm_st2_1_4 l Z a0 hw b3 c3 r6 r9 r12 r15 (if r12 = (48 : Int32) then (0 : Int32) else 1) h21 n0 (by omega) f255 rfl) hZ (hw _ (List.mem_of_getElem? (i := 37) rfl)) (hw _ (List.mem_of_getElem? (i := 3) rfl)) (by decide) (by decide)) e257 (argsL := [(.ref b3), (.int (2 : Int32)), (.int (1 : Int32)), (.int (4 : Int32))]) (rest := []) rfl rfl pd_10 rfl (by rw [hml]; rfl) (hb hby at_99) (Nat.le_of_eq rfl) (by decide) (by decide) k263
      have k264 : To p.tables e below S0 (T264.setTop (mkF m 102 l258 [(.int (if r12 = (48 : Int32) then (0 : Int32) else 1))])) := k264a
      have N264 := N256.app Nq264
      have e264 : T264.heap = h21 := eq264
      let l266 : Array Slot := #[.val (.int p0), .val (.int p1), .val (.int p2), .val (.int p3), .val (.int p4), .val (.int p5), .val (.ref b3), .val (.ref b17), .val (.int (1 : Int32)), .val (.int (4 : Int32)), .val (.int (if (if r12 = (48 : Int32) then (0 : Int32) else 1) = (0 : Int32) then (if (if r15 = (48 : Int32) then (0 : Int32) else 1) = (0 : Int32) then (4 : Int32) else (3 : Int32)) else (2 : Int32)))]
      refine joinT (S0 := S0) X264 e264 (mkF m 108 l266 []) (fun kont => ?_) (fun T265 X265 e265 k265 => ?_)
      · -- the roads to pc 108
        by_cases hc102_267 : (if r12 = (48 : Int32) then (0 : Int32) else 1) = (0 : Int32)
        · -- pc 102, holds
          have k268 : To p.tables e below S0 (T264.setTop (mkF m 108 l258 [])) := fun tt hq => k264 tt (by
            show Steps _ _ _ (T264.setTop (mkF m 102 l258 [(.int (if r12 = (48 : Int32) then (0 : Int32) else 1))])) _
            refine XS.ifYes X264.here hx rfl (pc0 := 102) (pc' := 108) rfl (hb hby at_102) rfl ((if0 _ _).trans (teq hc102_267).1) (by decide) (by decide) ?_
            show Steps _ _ _ (T264.setTop (mkF m 108 l258 [])) _
            exact hq)
          exact kont T264 X264 e264 (fun tt hq => k268 tt (by simpa only [if_pos hc102_267, l258, l266] using hq))
        · -- pc 102, holds not
          let l269 : Array Slot := #[.val (.int p0), .val (.int p1), .val (.int p2), .val (.int p3), .val (.int p4), .val (.int p5), .val (.ref b3), .val (.ref b17), .val (.int (1 : Int32)), .val (.int (4 : Int32)), .val (.int (2 : Int32))]
          have k270 : To p.tables e below S0 (T264.setTop (mkF m 108 l269 [])) := fun tt hq => k264 tt (by
            show Steps _ _ _ (T264.setTop (mkF m 102 l258 [(.int (if r12 = (48 : Int32) then (0 : Int32) else 1))])) _
            refine XS.ifNo X264.here hx rfl (hb hby at_102) rfl ((if0 _ _).trans (feq hc102_267).1) ?_
            show Steps _ _ _ (T264.setTop (mkF m 105 l258 [])) _
            refine XS.iconst X264.here hx rfl (hb hby at_105) ?_
            show Steps _ _ _ (T264.setTop (mkF m 106 l258 [(.int (2 : Int32))])) _
            refine XS.istore X264.here hx rfl (hb hby at_106) rfl (l' := l269) rfl ?_
            show Steps _ _ _ (T264.setTop (mkF m 108 l269 [])) _
            exact hq)
          exact kont T264 X264 e264 (fun tt hq => k270 tt (by simpa only [if_neg hc102_267, l269, l266] using hq))
      have k271 : To p.tables e below S0 (T265.setTop (mkF m 115 l266 [(.int (4 : Int32)), (.int (1 : Int32)), (.int (1 : Int32)), (.ref b3)])) := fun tt hq => k265 tt (by
        show Steps _ _ _ (T265.setTop (mkF m 108 l266 [])) _
        refine XS.aload X265.here hx rfl (hb hby at_108) rfl rfl ?_
        show Steps _ _ _ (T265.setTop (mkF m 110 l266 [(.ref b3)])) _
        refine XS.iconst X265.here hx rfl (hb hby at_110) ?_
        show Steps _ _ _ (T265.setTop (mkF m 111 l266 [(.int (1 : Int32)), (.ref b3)])) _
        refine XS.iload X265.here hx rfl (hb hby at_111) rfl ?_
        show Steps _ _ _ (T265.setTop (mkF m 113 l266 [(.int (1 : Int32)), (.int (1 : Int32)), (.ref b3)])) _
        refine XS.iload X265.here hx rfl (hb hby at_113) rfl ?_
        show Steps _ _ _ (T265.setTop (mkF m 115 l266 [(.int (4 : Int32)), (.int (1 : Int32)), (.int (1 : Int32)), (.ref b3)])) _
        exact hq)
      obtain ⟨_, T272, L272, X272, ⟨rfl, Nq272, eq272⟩, k272a⟩ := callS' X265 hx hZ (y := (⟨"com/example/apportion/apportion/input/DecimalsFirstWholeDigitPinLaw", "stops", "([CIII)Z"⟩ : MethodName)) hown (hw _ (List.mem_of_getElem? (i := 35) rfl)) (hw _ (List.mem_of_getElem? (i := 36) rfl)) (hw _ (List.mem_of_getElem? (i := 3) rfl)) (hw _ (List.mem_of_getElem? (i := 37) rfl)) (by decide) (backC (W := 0) (rm_st1_1_4 l Z a0 hw b3 c3 r6 r9 r12 r15 (if r9 = (48 : Int32) then (0 : Int32) else 1) h21 n0 (by omega) f255 rfl) hZ (hw _ (List.mem_of_getElem? (i := 37) rfl)) (hw _ (List.mem_of_getElem? (i := 3) rfl)) (by decide) (by decide)) e265 (argsL := [(.ref b3), (.int (1 : Int32)), (.int (1 : Int32)), (.int (4 : Int32))]) (rest := []) rfl rfl pd_10 rfl (by rw [hml]; rfl) (hb hby at_115) (Nat.le_of_eq rfl) (by decide) (by decide) k271
      have k272 : To p.tables e below S0 (T272.setTop (mkF m 118 l266 [(.int (if r9 = (48 : Int32) then (0 : Int32) else 1))])) := k272a
      have N272 := N264.app Nq272
      have e272 : T272.heap = h21 := eq272
      let l274 : Array Slot := #[.val (.int p0), .val (.int p1), .val (.int p2), .val (.int p3), .val (.int p4), .val (.int p5), .val (.ref b3), .val (.ref b17), .val (.int (1 : Int32)), .val (.int (4 : Int32)), .val (.int (if (if r9 = (48 : Int32) then (0 : Int32) else 1) = (0 : Int32) then (if (if r12 = (48 : Int32) then (0 : Int32) else 1) = (0 : Int32) then (if (if r15 = (48 : Int32) then (0 : Int32) else 1) = (0 : Int32) then (4 : Int32) else (3 : Int32)) else (2 : Int32)) else (1 : Int32)))]
      refine joinT (S0 := S0) X272 e272 (mkF m 124 l274 []) (fun kont => ?_) (fun T273 X273 e273 k273 => ?_)
      · -- the roads to pc 124
        by_cases hc118_275 : (if r9 = (48 : Int32) then (0 : Int32) else 1) = (0 : Int32)
        · -- pc 118, holds
          have k276 : To p.tables e below S0 (T272.setTop (mkF m 124 l266 [])) := fun tt hq => k272 tt (by
            show Steps _ _ _ (T272.setTop (mkF m 118 l266 [(.int (if r9 = (48 : Int32) then (0 : Int32) else 1))])) _
            refine XS.ifYes X272.here hx rfl (pc0 := 118) (pc' := 124) rfl (hb hby at_118) rfl ((if0 _ _).trans (teq hc118_275).1) (by decide) (by decide) ?_
            show Steps _ _ _ (T272.setTop (mkF m 124 l266 [])) _
            exact hq)
          exact kont T272 X272 e272 (fun tt hq => k276 tt (by simpa only [if_pos hc118_275, l266, l274] using hq))
        · -- pc 118, holds not
          let l277 : Array Slot := #[.val (.int p0), .val (.int p1), .val (.int p2), .val (.int p3), .val (.int p4), .val (.int p5), .val (.ref b3), .val (.ref b17), .val (.int (1 : Int32)), .val (.int (4 : Int32)), .val (.int (1 : Int32))]
          have k278 : To p.tables e below S0 (T272.setTop (mkF m 124 l277 [])) := fun tt hq => k272 tt (by
            show Steps _ _ _ (T272.setTop (mkF m 118 l266 [(.int (if r9 = (48 : Int32) then (0 : Int32) else 1))])) _
            refine XS.ifNo X272.here hx rfl (hb hby at_118) rfl ((if0 _ _).trans (feq hc118_275).1) ?_
            show Steps _ _ _ (T272.setTop (mkF m 121 l266 [])) _
            refine XS.iconst X272.here hx rfl (hb hby at_121) ?_
            show Steps _ _ _ (T272.setTop (mkF m 122 l266 [(.int (1 : Int32))])) _
            refine XS.istore X272.here hx rfl (hb hby at_122) rfl (l' := l277) rfl ?_
            show Steps _ _ _ (T272.setTop (mkF m 124 l277 [])) _
            exact hq)
          exact kont T272 X272 e272 (fun tt hq => k278 tt (by simpa only [if_neg hc118_275, l277, l274] using hq))
      have k279 : To p.tables e below S0 (T273.setTop (mkF m 131 l274 [(.int (4 : Int32)), (.int (1 : Int32)), (.int (0 : Int32)), (.ref b3)])) := fun tt hq => k273 tt (by
        show Steps _ _ _ (T273.setTop (mkF m 124 l274 [])) _
        refine XS.aload X273.here hx rfl (hb hby at_124) rfl rfl ?_
        show Steps _ _ _ (T273.setTop (mkF m 126 l274 [(.ref b3)])) _
        refine XS.iconst X273.here hx rfl (hb hby at_126) ?_
        show Steps _ _ _ (T273.setTop (mkF m 127 l274 [(.int (0 : Int32)), (.ref b3)])) _
        refine XS.iload X273.here hx rfl (hb hby at_127) rfl ?_
        show Steps _ _ _ (T273.setTop (mkF m 129 l274 [(.int (1 : Int32)), (.int (0 : Int32)), (.ref b3)])) _
        refine XS.iload X273.here hx rfl (hb hby at_129) rfl ?_
        show Steps _ _ _ (T273.setTop (mkF m 131 l274 [(.int (4 : Int32)), (.int (1 : Int32)), (.int (0 : Int32)), (.ref b3)])) _
        exact hq)
      obtain ⟨_, T280, L280, X280, ⟨rfl, Nq280, eq280⟩, k280a⟩ := callS' X273 hx hZ (y := (⟨"com/example/apportion/apportion/input/DecimalsFirstWholeDigitPinLaw", "stops", "([CIII)Z"⟩ : MethodName)) hown (hw _ (List.mem_of_getElem? (i := 35) rfl)) (hw _ (List.mem_of_getElem? (i := 36) rfl)) (hw _ (List.mem_of_getElem? (i := 3) rfl)) (hw _ (List.mem_of_getElem? (i := 37) rfl)) (by decide) (backC (W := 0) (rm_st0_1_4 l Z a0 hw b3 c3 r6 r9 r12 r15 (0 : Int32) h21 n0 (by omega) f255 rfl) hZ (hw _ (List.mem_of_getElem? (i := 37) rfl)) (hw _ (List.mem_of_getElem? (i := 3) rfl)) (by decide) (by decide)) e273 (argsL := [(.ref b3), (.int (0 : Int32)), (.int (1 : Int32)), (.int (4 : Int32))]) (rest := []) rfl rfl pd_10 rfl (by rw [hml]; rfl) (hb hby at_131) (Nat.le_of_eq rfl) (by decide) (by decide) k279
      have k280 : To p.tables e below S0 (T280.setTop (mkF m 134 l274 [(.int (0 : Int32))])) := k280a
      have N280 := N272.app Nq280
      have e280 : T280.heap = h21 := eq280
      have k281 : To p.tables e below S0 (T280.setTop (mkF m 146 l274 [(.int (4 : Int32)), (.int (1 : Int32)), (.ref b17)])) := fun tt hq => k280 tt (by
        show Steps _ _ _ (T280.setTop (mkF m 134 l274 [(.int (0 : Int32))])) _
        refine XS.ifYes X280.here hx rfl (pc0 := 134) (pc' := 140) rfl (hb hby at_134) rfl ((if0 _ _).trans (teq (by decide)).1) (by decide) (by decide) ?_
        show Steps _ _ _ (T280.setTop (mkF m 140 l274 [])) _
        refine XS.aload X280.here hx rfl (hb hby at_140) rfl rfl ?_
        show Steps _ _ _ (T280.setTop (mkF m 142 l274 [(.ref b17)])) _
        refine XS.iload X280.here hx rfl (hb hby at_142) rfl ?_
        show Steps _ _ _ (T280.setTop (mkF m 144 l274 [(.int (1 : Int32)), (.ref b17)])) _
        refine XS.iload X280.here hx rfl (hb hby at_144) rfl ?_
        show Steps _ _ _ (T280.setTop (mkF m 146 l274 [(.int (4 : Int32)), (.int (1 : Int32)), (.ref b17)])) _
        exact hq)
      have f282 : Old Z n0 h21 := (f19.keep Kq21 (allS (by omega) all0))
      obtain ⟨_, T283, L283, X283, ⟨rfl, Nq283, eq283⟩, k283a⟩ := callS' X280 hx hZ (y := (⟨"com/example/apportion/apportion/input/Decimals", "firstWholeDigit", "(Ljava/lang/String;II)I"⟩ : MethodName)) hown (hw _ (List.mem_of_getElem? (i := 38) rfl)) (hw _ (List.mem_of_getElem? (i := 39) rfl)) (hw _ (List.mem_of_getElem? (i := 40) rfl)) (hw _ (List.mem_of_getElem? (i := 41) rfl)) (by decide) (backC (W := 0) (rm_fwd1_4 l Z a0 hw zc fm b17 t21 kt21 r6 r9 r12 r15 (if r9 = (48 : Int32) then (if r12 = (48 : Int32) then (if r15 = (48 : Int32) then (4 : Int32) else (3 : Int32)) else (2 : Int32)) else (1 : Int32)) h21 n0 (by omega) S_c hzc S_f hfm f282 P210 P211 P212 P213 hr6 hr9 hr12 hr15 rfl) hZ (hw _ (List.mem_of_getElem? (i := 41) rfl)) (hw _ (List.mem_of_getElem? (i := 40) rfl)) (by decide) (by decide)) e280 (argsL := [(.ref b17), (.int (1 : Int32)), (.int (4 : Int32))]) (rest := []) rfl rfl pd_11 rfl (by rw [hml]; rfl) (hb hby at_146) (Nat.le_of_eq rfl) (by decide) (by decide) k281
      have k283 : To p.tables e below S0 (T283.setTop (mkF m 149 l274 [(.int (if r9 = (48 : Int32) then (if r12 = (48 : Int32) then (if r15 = (48 : Int32) then (4 : Int32) else (3 : Int32)) else (2 : Int32)) else (1 : Int32)))])) := k283a
      have N283 := N280.app Nq283
      have e283 : T283.heap = h21 := eq283
      have k284 : To p.tables e below S0 (T283.setTop (mkF m 151 l274 [(.int (if (if r9 = (48 : Int32) then (0 : Int32) else 1) = (0 : Int32) then (if (if r12 = (48 : Int32) then (0 : Int32) else 1) = (0 : Int32) then (if (if r15 = (48 : Int32) then (0 : Int32) else 1) = (0 : Int32) then (4 : Int32) else (3 : Int32)) else (2 : Int32)) else (1 : Int32))), (.int (if r9 = (48 : Int32) then (if r12 = (48 : Int32) then (if r15 = (48 : Int32) then (4 : Int32) else (3 : Int32)) else (2 : Int32)) else (1 : Int32)))])) := fun tt hq => k283 tt (by
        show Steps _ _ _ (T283.setTop (mkF m 149 l274 [(.int (if r9 = (48 : Int32) then (if r12 = (48 : Int32) then (if r15 = (48 : Int32) then (4 : Int32) else (3 : Int32)) else (2 : Int32)) else (1 : Int32)))])) _
        refine XS.iload X283.here hx rfl (hb hby at_149) rfl ?_
        show Steps _ _ _ (T283.setTop (mkF m 151 l274 [(.int (if (if r9 = (48 : Int32) then (0 : Int32) else 1) = (0 : Int32) then (if (if r12 = (48 : Int32) then (0 : Int32) else 1) = (0 : Int32) then (if (if r15 = (48 : Int32) then (0 : Int32) else 1) = (0 : Int32) then (4 : Int32) else (3 : Int32)) else (2 : Int32)) else (1 : Int32))), (.int (if r9 = (48 : Int32) then (if r12 = (48 : Int32) then (if r15 = (48 : Int32) then (4 : Int32) else (3 : Int32)) else (2 : Int32)) else (1 : Int32)))])) _
        exact hq)
      by_cases hc151_285 : (if r9 = (48 : Int32) then (if r12 = (48 : Int32) then (if r15 = (48 : Int32) then (4 : Int32) else (3 : Int32)) else (2 : Int32)) else (1 : Int32)) = (if (if r9 = (48 : Int32) then (0 : Int32) else 1) = (0 : Int32) then (if (if r12 = (48 : Int32) then (0 : Int32) else 1) = (0 : Int32) then (if (if r15 = (48 : Int32) then (0 : Int32) else 1) = (0 : Int32) then (4 : Int32) else (3 : Int32)) else (2 : Int32)) else (1 : Int32))
      · -- pc 151, holds
        have k286 : To p.tables e below S0 (T283.setTop (mkF m 159 l274 [(.int (1 : Int32))])) := fun tt hq => k284 tt (by
          show Steps _ _ _ (T283.setTop (mkF m 151 l274 [(.int (if (if r9 = (48 : Int32) then (0 : Int32) else 1) = (0 : Int32) then (if (if r12 = (48 : Int32) then (0 : Int32) else 1) = (0 : Int32) then (if (if r15 = (48 : Int32) then (0 : Int32) else 1) = (0 : Int32) then (4 : Int32) else (3 : Int32)) else (2 : Int32)) else (1 : Int32))), (.int (if r9 = (48 : Int32) then (if r12 = (48 : Int32) then (if r15 = (48 : Int32) then (4 : Int32) else (3 : Int32)) else (2 : Int32)) else (1 : Int32)))])) _
          refine XS.icmpNo X283.here hx rfl (hb hby at_151) rfl (teq hc151_285).2 ?_
          show Steps _ _ _ (T283.setTop (mkF m 154 l274 [])) _
          refine XS.iconst X283.here hx rfl (hb hby at_154) ?_
          show Steps _ _ _ (T283.setTop (mkF m 155 l274 [(.int (1 : Int32))])) _
          refine XS.goto X283.here hx rfl (pc0 := 155) (pc' := 159) rfl (hb hby at_155) (by decide) (by decide) ?_
          show Steps _ _ _ (T283.setTop (mkF m 159 l274 [(.int (1 : Int32))])) _
          exact hq)
        have hE := e283
        refine retInt X283 hx hret hlk (by simp) rfl (hb hby at_159) k286 ?_ (by decide) (by decide)
        try rw [hE]
        exact ⟨rfl, N283⟩
      · -- pc 151, holds not
        exact absurd (by by_cases q1 : r9 = (48 : Int32) <;> by_cases q2 : r12 = (48 : Int32) <;> by_cases q3 : r15 = (48 : Int32) <;> simp [q1, q2, q3]) hc151_285
  · -- pc 55: (2 : Int32)
    have k287 : To p.tables e below S0 (T21.setTop (mkF m 55 l22 [(.int (2 : Int32))])) := by have hq := k23; rw [ht24] at hq; exact hq
    let l288 : Array Slot := #[.val (.int p0), .val (.int p1), .val (.int p2), .val (.int p3), .val (.int p4), .val (.int p5), .val (.ref b3), .val (.ref b17), .val (.int (2 : Int32)), .unset, .unset]
    have k289 : To p.tables e below S0 (T21.setTop (mkF m 69 l288 [(.int ((p5 &&& (2147483647 : Int32)) % (3 : Int32))), (.int (2 : Int32))])) := fun tt hq => k287 tt (by
      show Steps _ _ _ (T21.setTop (mkF m 55 l22 [(.int (2 : Int32))])) _
      refine XS.istore X21.here hx rfl (hb hby at_55) rfl (l' := l288) rfl ?_
      show Steps _ _ _ (T21.setTop (mkF m 57 l288 [])) _
      refine XS.iload X21.here hx rfl (hb hby at_57) rfl ?_
      show Steps _ _ _ (T21.setTop (mkF m 59 l288 [(.int (2 : Int32))])) _
      refine XS.iload X21.here hx rfl (hb hby at_59) rfl ?_
      show Steps _ _ _ (T21.setTop (mkF m 61 l288 [(.int p5), (.int (2 : Int32))])) _
      refine X21.ldcInt hx hown (mvT hZ (hw _ (List.mem_of_getElem? (i := 34) rfl))) (g := (mkF m 61 l288 [(.int p5), (.int (2 : Int32))])) rfl (hb hby at_61) _ ?_
      show Steps _ _ _ (T21.setTop (mkF m 63 l288 [(.int (2147483647 : Int32)), (.int p5), (.int (2 : Int32))])) _
      refine XS.iand X21.here hx rfl (hb hby at_63) rfl ?_
      show Steps _ _ _ (T21.setTop (mkF m 64 l288 [(.int (p5 &&& (2147483647 : Int32))), (.int (2 : Int32))])) _
      refine XS.iconst X21.here hx rfl (hb hby at_64) ?_
      show Steps _ _ _ (T21.setTop (mkF m 65 l288 [(.int (5 : Int32)), (.int (p5 &&& (2147483647 : Int32))), (.int (2 : Int32))])) _
      refine XS.iload X21.here hx rfl (hb hby at_65) rfl ?_
      show Steps _ _ _ (T21.setTop (mkF m 67 l288 [(.int (2 : Int32)), (.int (5 : Int32)), (.int (p5 &&& (2147483647 : Int32))), (.int (2 : Int32))])) _
      refine XS.isub X21.here hx rfl (hb hby at_67) rfl ?_
      show Steps _ _ _ (T21.setTop (mkF m 68 l288 [(.int (3 : Int32)), (.int (p5 &&& (2147483647 : Int32))), (.int (2 : Int32))])) _
      refine iremM X21 hx rfl (hb hby at_68) rfl (by decide) ?_
      show Steps _ _ _ (T21.setTop (mkF m 69 l288 [(.int ((p5 &&& (2147483647 : Int32)) % (3 : Int32))), (.int (2 : Int32))])) _
      exact hq)
    rcases own_md3 p5 with ht290 | ht290 | ht290
    · -- pc 69: (0 : Int32)
      have k291 : To p.tables e below S0 (T21.setTop (mkF m 69 l288 [(.int (0 : Int32)), (.int (2 : Int32))])) := by have hq := k289; rw [ht290] at hq; exact hq
      let l292 : Array Slot := #[.val (.int p0), .val (.int p1), .val (.int p2), .val (.int p3), .val (.int p4), .val (.int p5), .val (.ref b3), .val (.ref b17), .val (.int (2 : Int32)), .val (.int (2 : Int32)), .unset]
      let l293 : Array Slot := #[.val (.int p0), .val (.int p1), .val (.int p2), .val (.int p3), .val (.int p4), .val (.int p5), .val (.ref b3), .val (.ref b17), .val (.int (2 : Int32)), .val (.int (2 : Int32)), .val (.int (2 : Int32))]
      have k294 : To p.tables e below S0 (T21.setTop (mkF m 83 l293 [(.int (2 : Int32)), (.int (2 : Int32)), (.int (3 : Int32)), (.ref b3)])) := fun tt hq => k291 tt (by
        show Steps _ _ _ (T21.setTop (mkF m 69 l288 [(.int (0 : Int32)), (.int (2 : Int32))])) _
        refine XS.iadd X21.here hx rfl (hb hby at_69) rfl ?_
        show Steps _ _ _ (T21.setTop (mkF m 70 l288 [(.int (2 : Int32))])) _
        refine XS.istore X21.here hx rfl (hb hby at_70) rfl (l' := l292) rfl ?_
        show Steps _ _ _ (T21.setTop (mkF m 72 l292 [])) _
        refine XS.iload X21.here hx rfl (hb hby at_72) rfl ?_
        show Steps _ _ _ (T21.setTop (mkF m 74 l292 [(.int (2 : Int32))])) _
        refine XS.istore X21.here hx rfl (hb hby at_74) rfl (l' := l293) rfl ?_
        show Steps _ _ _ (T21.setTop (mkF m 76 l293 [])) _
        refine XS.aload X21.here hx rfl (hb hby at_76) rfl rfl ?_
        show Steps _ _ _ (T21.setTop (mkF m 78 l293 [(.ref b3)])) _
        refine XS.iconst X21.here hx rfl (hb hby at_78) ?_
        show Steps _ _ _ (T21.setTop (mkF m 79 l293 [(.int (3 : Int32)), (.ref b3)])) _
        refine XS.iload X21.here hx rfl (hb hby at_79) rfl ?_
        show Steps _ _ _ (T21.setTop (mkF m 81 l293 [(.int (2 : Int32)), (.int (3 : Int32)), (.ref b3)])) _
        refine XS.iload X21.here hx rfl (hb hby at_81) rfl ?_
        show Steps _ _ _ (T21.setTop (mkF m 83 l293 [(.int (2 : Int32)), (.int (2 : Int32)), (.int (3 : Int32)), (.ref b3)])) _
        exact hq)
      have f295 : Arv Z h21 b3 c3 .char (4 : Int32) [(.int r6), (.int r9), (.int r12), (.int r15)] (.int (0 : Int32)) := (f20.keep Kq21 (ninS (adr_ne (by omega)) nin0))
      obtain ⟨_, T296, L296, X296, ⟨rfl, Nq296, eq296⟩, k296a⟩ := callS' X21 hx hZ (y := (⟨"com/example/apportion/apportion/input/DecimalsFirstWholeDigitPinLaw", "stops", "([CIII)Z"⟩ : MethodName)) hown (hw _ (List.mem_of_getElem? (i := 35) rfl)) (hw _ (List.mem_of_getElem? (i := 36) rfl)) (hw _ (List.mem_of_getElem? (i := 3) rfl)) (hw _ (List.mem_of_getElem? (i := 37) rfl)) (by decide) (backC (W := 0) (rm_st3_2_2 l Z a0 hw b3 c3 r6 r9 r12 r15 (0 : Int32) h21 n0 (by omega) f295 rfl) hZ (hw _ (List.mem_of_getElem? (i := 37) rfl)) (hw _ (List.mem_of_getElem? (i := 3) rfl)) (by decide) (by decide)) e21 (argsL := [(.ref b3), (.int (3 : Int32)), (.int (2 : Int32)), (.int (2 : Int32))]) (rest := []) rfl rfl pd_10 rfl (by rw [hml]; rfl) (hb hby at_83) (Nat.le_of_eq rfl) (by decide) (by decide) k294
      have k296 : To p.tables e below S0 (T296.setTop (mkF m 86 l293 [(.int (0 : Int32))])) := k296a
      have N296 := N21.app Nq296
      have e296 : T296.heap = h21 := eq296
      have k297 : To p.tables e below S0 (T296.setTop (mkF m 99 l293 [(.int (2 : Int32)), (.int (2 : Int32)), (.int (2 : Int32)), (.ref b3)])) := fun tt hq => k296 tt (by
        show Steps _ _ _ (T296.setTop (mkF m 86 l293 [(.int (0 : Int32))])) _
        refine XS.ifYes X296.here hx rfl (pc0 := 86) (pc' := 92) rfl (hb hby at_86) rfl ((if0 _ _).trans (teq (by decide)).1) (by decide) (by decide) ?_
        show Steps _ _ _ (T296.setTop (mkF m 92 l293 [])) _
        refine XS.aload X296.here hx rfl (hb hby at_92) rfl rfl ?_
        show Steps _ _ _ (T296.setTop (mkF m 94 l293 [(.ref b3)])) _
        refine XS.iconst X296.here hx rfl (hb hby at_94) ?_
        show Steps _ _ _ (T296.setTop (mkF m 95 l293 [(.int (2 : Int32)), (.ref b3)])) _
        refine XS.iload X296.here hx rfl (hb hby at_95) rfl ?_
        show Steps _ _ _ (T296.setTop (mkF m 97 l293 [(.int (2 : Int32)), (.int (2 : Int32)), (.ref b3)])) _
        refine XS.iload X296.here hx rfl (hb hby at_97) rfl ?_
        show Steps _ _ _ (T296.setTop (mkF m 99 l293 [(.int (2 : Int32)), (.int (2 : Int32)), (.int (2 : Int32)), (.ref b3)])) _
        exact hq)
      obtain ⟨_, T298, L298, X298, ⟨rfl, Nq298, eq298⟩, k298a⟩ := callS' X296 hx hZ (y := (⟨"com/example/apportion/apportion/input/DecimalsFirstWholeDigitPinLaw", "stops", "([CIII)Z"⟩ : MethodName)) hown (hw _ (List.mem_of_getElem? (i := 35) rfl)) (hw _ (List.mem_of_getElem? (i := 36) rfl)) (hw _ (List.mem_of_getElem? (i := 3) rfl)) (hw _ (List.mem_of_getElem? (i := 37) rfl)) (by decide) (backC (W := 0) (rm_st2_2_2 l Z a0 hw b3 c3 r6 r9 r12 r15 (0 : Int32) h21 n0 (by omega) f295 rfl) hZ (hw _ (List.mem_of_getElem? (i := 37) rfl)) (hw _ (List.mem_of_getElem? (i := 3) rfl)) (by decide) (by decide)) e296 (argsL := [(.ref b3), (.int (2 : Int32)), (.int (2 : Int32)), (.int (2 : Int32))]) (rest := []) rfl rfl pd_10 rfl (by rw [hml]; rfl) (hb hby at_99) (Nat.le_of_eq rfl) (by decide) (by decide) k297
      have k298 : To p.tables e below S0 (T298.setTop (mkF m 102 l293 [(.int (0 : Int32))])) := k298a
      have N298 := N296.app Nq298
      have e298 : T298.heap = h21 := eq298
      have k299 : To p.tables e below S0 (T298.setTop (mkF m 115 l293 [(.int (2 : Int32)), (.int (2 : Int32)), (.int (1 : Int32)), (.ref b3)])) := fun tt hq => k298 tt (by
        show Steps _ _ _ (T298.setTop (mkF m 102 l293 [(.int (0 : Int32))])) _
        refine XS.ifYes X298.here hx rfl (pc0 := 102) (pc' := 108) rfl (hb hby at_102) rfl ((if0 _ _).trans (teq (by decide)).1) (by decide) (by decide) ?_
        show Steps _ _ _ (T298.setTop (mkF m 108 l293 [])) _
        refine XS.aload X298.here hx rfl (hb hby at_108) rfl rfl ?_
        show Steps _ _ _ (T298.setTop (mkF m 110 l293 [(.ref b3)])) _
        refine XS.iconst X298.here hx rfl (hb hby at_110) ?_
        show Steps _ _ _ (T298.setTop (mkF m 111 l293 [(.int (1 : Int32)), (.ref b3)])) _
        refine XS.iload X298.here hx rfl (hb hby at_111) rfl ?_
        show Steps _ _ _ (T298.setTop (mkF m 113 l293 [(.int (2 : Int32)), (.int (1 : Int32)), (.ref b3)])) _
        refine XS.iload X298.here hx rfl (hb hby at_113) rfl ?_
        show Steps _ _ _ (T298.setTop (mkF m 115 l293 [(.int (2 : Int32)), (.int (2 : Int32)), (.int (1 : Int32)), (.ref b3)])) _
        exact hq)
      obtain ⟨_, T300, L300, X300, ⟨rfl, Nq300, eq300⟩, k300a⟩ := callS' X298 hx hZ (y := (⟨"com/example/apportion/apportion/input/DecimalsFirstWholeDigitPinLaw", "stops", "([CIII)Z"⟩ : MethodName)) hown (hw _ (List.mem_of_getElem? (i := 35) rfl)) (hw _ (List.mem_of_getElem? (i := 36) rfl)) (hw _ (List.mem_of_getElem? (i := 3) rfl)) (hw _ (List.mem_of_getElem? (i := 37) rfl)) (by decide) (backC (W := 0) (rm_st1_2_2 l Z a0 hw b3 c3 r6 r9 r12 r15 (0 : Int32) h21 n0 (by omega) f295 rfl) hZ (hw _ (List.mem_of_getElem? (i := 37) rfl)) (hw _ (List.mem_of_getElem? (i := 3) rfl)) (by decide) (by decide)) e298 (argsL := [(.ref b3), (.int (1 : Int32)), (.int (2 : Int32)), (.int (2 : Int32))]) (rest := []) rfl rfl pd_10 rfl (by rw [hml]; rfl) (hb hby at_115) (Nat.le_of_eq rfl) (by decide) (by decide) k299
      have k300 : To p.tables e below S0 (T300.setTop (mkF m 118 l293 [(.int (0 : Int32))])) := k300a
      have N300 := N298.app Nq300
      have e300 : T300.heap = h21 := eq300
      have k301 : To p.tables e below S0 (T300.setTop (mkF m 131 l293 [(.int (2 : Int32)), (.int (2 : Int32)), (.int (0 : Int32)), (.ref b3)])) := fun tt hq => k300 tt (by
        show Steps _ _ _ (T300.setTop (mkF m 118 l293 [(.int (0 : Int32))])) _
        refine XS.ifYes X300.here hx rfl (pc0 := 118) (pc' := 124) rfl (hb hby at_118) rfl ((if0 _ _).trans (teq (by decide)).1) (by decide) (by decide) ?_
        show Steps _ _ _ (T300.setTop (mkF m 124 l293 [])) _
        refine XS.aload X300.here hx rfl (hb hby at_124) rfl rfl ?_
        show Steps _ _ _ (T300.setTop (mkF m 126 l293 [(.ref b3)])) _
        refine XS.iconst X300.here hx rfl (hb hby at_126) ?_
        show Steps _ _ _ (T300.setTop (mkF m 127 l293 [(.int (0 : Int32)), (.ref b3)])) _
        refine XS.iload X300.here hx rfl (hb hby at_127) rfl ?_
        show Steps _ _ _ (T300.setTop (mkF m 129 l293 [(.int (2 : Int32)), (.int (0 : Int32)), (.ref b3)])) _
        refine XS.iload X300.here hx rfl (hb hby at_129) rfl ?_
        show Steps _ _ _ (T300.setTop (mkF m 131 l293 [(.int (2 : Int32)), (.int (2 : Int32)), (.int (0 : Int32)), (.ref b3)])) _
        exact hq)
      obtain ⟨_, T302, L302, X302, ⟨rfl, Nq302, eq302⟩, k302a⟩ := callS' X300 hx hZ (y := (⟨"com/example/apportion/apportion/input/DecimalsFirstWholeDigitPinLaw", "stops", "([CIII)Z"⟩ : MethodName)) hown (hw _ (List.mem_of_getElem? (i := 35) rfl)) (hw _ (List.mem_of_getElem? (i := 36) rfl)) (hw _ (List.mem_of_getElem? (i := 3) rfl)) (hw _ (List.mem_of_getElem? (i := 37) rfl)) (by decide) (backC (W := 0) (rm_st0_2_2 l Z a0 hw b3 c3 r6 r9 r12 r15 (0 : Int32) h21 n0 (by omega) f295 rfl) hZ (hw _ (List.mem_of_getElem? (i := 37) rfl)) (hw _ (List.mem_of_getElem? (i := 3) rfl)) (by decide) (by decide)) e300 (argsL := [(.ref b3), (.int (0 : Int32)), (.int (2 : Int32)), (.int (2 : Int32))]) (rest := []) rfl rfl pd_10 rfl (by rw [hml]; rfl) (hb hby at_131) (Nat.le_of_eq rfl) (by decide) (by decide) k301
      have k302 : To p.tables e below S0 (T302.setTop (mkF m 134 l293 [(.int (0 : Int32))])) := k302a
      have N302 := N300.app Nq302
      have e302 : T302.heap = h21 := eq302
      have k303 : To p.tables e below S0 (T302.setTop (mkF m 146 l293 [(.int (2 : Int32)), (.int (2 : Int32)), (.ref b17)])) := fun tt hq => k302 tt (by
        show Steps _ _ _ (T302.setTop (mkF m 134 l293 [(.int (0 : Int32))])) _
        refine XS.ifYes X302.here hx rfl (pc0 := 134) (pc' := 140) rfl (hb hby at_134) rfl ((if0 _ _).trans (teq (by decide)).1) (by decide) (by decide) ?_
        show Steps _ _ _ (T302.setTop (mkF m 140 l293 [])) _
        refine XS.aload X302.here hx rfl (hb hby at_140) rfl rfl ?_
        show Steps _ _ _ (T302.setTop (mkF m 142 l293 [(.ref b17)])) _
        refine XS.iload X302.here hx rfl (hb hby at_142) rfl ?_
        show Steps _ _ _ (T302.setTop (mkF m 144 l293 [(.int (2 : Int32)), (.ref b17)])) _
        refine XS.iload X302.here hx rfl (hb hby at_144) rfl ?_
        show Steps _ _ _ (T302.setTop (mkF m 146 l293 [(.int (2 : Int32)), (.int (2 : Int32)), (.ref b17)])) _
        exact hq)
      have f304 : Old Z n0 h21 := (f19.keep Kq21 (allS (by omega) all0))
      obtain ⟨_, T305, L305, X305, ⟨rfl, Nq305, eq305⟩, k305a⟩ := callS' X302 hx hZ (y := (⟨"com/example/apportion/apportion/input/Decimals", "firstWholeDigit", "(Ljava/lang/String;II)I"⟩ : MethodName)) hown (hw _ (List.mem_of_getElem? (i := 38) rfl)) (hw _ (List.mem_of_getElem? (i := 39) rfl)) (hw _ (List.mem_of_getElem? (i := 40) rfl)) (hw _ (List.mem_of_getElem? (i := 41) rfl)) (by decide) (backC (W := 0) (rm_fwd2_2 l Z a0 hw zc fm b17 t21 kt21 r6 r9 r12 r15 (2 : Int32) h21 n0 (by omega) S_c hzc S_f hfm f304 P210 P211 P212 P213 hr6 hr9 hr12 hr15 rfl) hZ (hw _ (List.mem_of_getElem? (i := 41) rfl)) (hw _ (List.mem_of_getElem? (i := 40) rfl)) (by decide) (by decide)) e302 (argsL := [(.ref b17), (.int (2 : Int32)), (.int (2 : Int32))]) (rest := []) rfl rfl pd_11 rfl (by rw [hml]; rfl) (hb hby at_146) (Nat.le_of_eq rfl) (by decide) (by decide) k303
      have k305 : To p.tables e below S0 (T305.setTop (mkF m 149 l293 [(.int (2 : Int32))])) := k305a
      have N305 := N302.app Nq305
      have e305 : T305.heap = h21 := eq305
      have k306 : To p.tables e below S0 (T305.setTop (mkF m 159 l293 [(.int (1 : Int32))])) := fun tt hq => k305 tt (by
        show Steps _ _ _ (T305.setTop (mkF m 149 l293 [(.int (2 : Int32))])) _
        refine XS.iload X305.here hx rfl (hb hby at_149) rfl ?_
        show Steps _ _ _ (T305.setTop (mkF m 151 l293 [(.int (2 : Int32)), (.int (2 : Int32))])) _
        refine XS.icmpNo X305.here hx rfl (hb hby at_151) rfl (teq (by decide)).2 ?_
        show Steps _ _ _ (T305.setTop (mkF m 154 l293 [])) _
        refine XS.iconst X305.here hx rfl (hb hby at_154) ?_
        show Steps _ _ _ (T305.setTop (mkF m 155 l293 [(.int (1 : Int32))])) _
        refine XS.goto X305.here hx rfl (pc0 := 155) (pc' := 159) rfl (hb hby at_155) (by decide) (by decide) ?_
        show Steps _ _ _ (T305.setTop (mkF m 159 l293 [(.int (1 : Int32))])) _
        exact hq)
      have hE := e305
      refine retInt X305 hx hret hlk (by simp) rfl (hb hby at_159) k306 ?_ (by decide) (by decide)
      try rw [hE]
      exact ⟨rfl, N305⟩
    · -- pc 69: (1 : Int32)
      have k307 : To p.tables e below S0 (T21.setTop (mkF m 69 l288 [(.int (1 : Int32)), (.int (2 : Int32))])) := by have hq := k289; rw [ht290] at hq; exact hq
      let l308 : Array Slot := #[.val (.int p0), .val (.int p1), .val (.int p2), .val (.int p3), .val (.int p4), .val (.int p5), .val (.ref b3), .val (.ref b17), .val (.int (2 : Int32)), .val (.int (3 : Int32)), .unset]
      let l309 : Array Slot := #[.val (.int p0), .val (.int p1), .val (.int p2), .val (.int p3), .val (.int p4), .val (.int p5), .val (.ref b3), .val (.ref b17), .val (.int (2 : Int32)), .val (.int (3 : Int32)), .val (.int (3 : Int32))]
      have k310 : To p.tables e below S0 (T21.setTop (mkF m 83 l309 [(.int (3 : Int32)), (.int (2 : Int32)), (.int (3 : Int32)), (.ref b3)])) := fun tt hq => k307 tt (by
        show Steps _ _ _ (T21.setTop (mkF m 69 l288 [(.int (1 : Int32)), (.int (2 : Int32))])) _
        refine XS.iadd X21.here hx rfl (hb hby at_69) rfl ?_
        show Steps _ _ _ (T21.setTop (mkF m 70 l288 [(.int (3 : Int32))])) _
        refine XS.istore X21.here hx rfl (hb hby at_70) rfl (l' := l308) rfl ?_
        show Steps _ _ _ (T21.setTop (mkF m 72 l308 [])) _
        refine XS.iload X21.here hx rfl (hb hby at_72) rfl ?_
        show Steps _ _ _ (T21.setTop (mkF m 74 l308 [(.int (3 : Int32))])) _
        refine XS.istore X21.here hx rfl (hb hby at_74) rfl (l' := l309) rfl ?_
        show Steps _ _ _ (T21.setTop (mkF m 76 l309 [])) _
        refine XS.aload X21.here hx rfl (hb hby at_76) rfl rfl ?_
        show Steps _ _ _ (T21.setTop (mkF m 78 l309 [(.ref b3)])) _
        refine XS.iconst X21.here hx rfl (hb hby at_78) ?_
        show Steps _ _ _ (T21.setTop (mkF m 79 l309 [(.int (3 : Int32)), (.ref b3)])) _
        refine XS.iload X21.here hx rfl (hb hby at_79) rfl ?_
        show Steps _ _ _ (T21.setTop (mkF m 81 l309 [(.int (2 : Int32)), (.int (3 : Int32)), (.ref b3)])) _
        refine XS.iload X21.here hx rfl (hb hby at_81) rfl ?_
        show Steps _ _ _ (T21.setTop (mkF m 83 l309 [(.int (3 : Int32)), (.int (2 : Int32)), (.int (3 : Int32)), (.ref b3)])) _
        exact hq)
      have f311 : Arv Z h21 b3 c3 .char (4 : Int32) [(.int r6), (.int r9), (.int r12), (.int r15)] (.int (0 : Int32)) := (f20.keep Kq21 (ninS (adr_ne (by omega)) nin0))
      obtain ⟨_, T312, L312, X312, ⟨rfl, Nq312, eq312⟩, k312a⟩ := callS' X21 hx hZ (y := (⟨"com/example/apportion/apportion/input/DecimalsFirstWholeDigitPinLaw", "stops", "([CIII)Z"⟩ : MethodName)) hown (hw _ (List.mem_of_getElem? (i := 35) rfl)) (hw _ (List.mem_of_getElem? (i := 36) rfl)) (hw _ (List.mem_of_getElem? (i := 3) rfl)) (hw _ (List.mem_of_getElem? (i := 37) rfl)) (by decide) (backC (W := 0) (rm_st3_2_3 l Z a0 hw b3 c3 r6 r9 r12 r15 (0 : Int32) h21 n0 (by omega) f311 rfl) hZ (hw _ (List.mem_of_getElem? (i := 37) rfl)) (hw _ (List.mem_of_getElem? (i := 3) rfl)) (by decide) (by decide)) e21 (argsL := [(.ref b3), (.int (3 : Int32)), (.int (2 : Int32)), (.int (3 : Int32))]) (rest := []) rfl rfl pd_10 rfl (by rw [hml]; rfl) (hb hby at_83) (Nat.le_of_eq rfl) (by decide) (by decide) k310
      have k312 : To p.tables e below S0 (T312.setTop (mkF m 86 l309 [(.int (0 : Int32))])) := k312a
      have N312 := N21.app Nq312
      have e312 : T312.heap = h21 := eq312
      have k313 : To p.tables e below S0 (T312.setTop (mkF m 99 l309 [(.int (3 : Int32)), (.int (2 : Int32)), (.int (2 : Int32)), (.ref b3)])) := fun tt hq => k312 tt (by
        show Steps _ _ _ (T312.setTop (mkF m 86 l309 [(.int (0 : Int32))])) _
        refine XS.ifYes X312.here hx rfl (pc0 := 86) (pc' := 92) rfl (hb hby at_86) rfl ((if0 _ _).trans (teq (by decide)).1) (by decide) (by decide) ?_
        show Steps _ _ _ (T312.setTop (mkF m 92 l309 [])) _
        refine XS.aload X312.here hx rfl (hb hby at_92) rfl rfl ?_
        show Steps _ _ _ (T312.setTop (mkF m 94 l309 [(.ref b3)])) _
        refine XS.iconst X312.here hx rfl (hb hby at_94) ?_
        show Steps _ _ _ (T312.setTop (mkF m 95 l309 [(.int (2 : Int32)), (.ref b3)])) _
        refine XS.iload X312.here hx rfl (hb hby at_95) rfl ?_
        show Steps _ _ _ (T312.setTop (mkF m 97 l309 [(.int (2 : Int32)), (.int (2 : Int32)), (.ref b3)])) _
        refine XS.iload X312.here hx rfl (hb hby at_97) rfl ?_
        show Steps _ _ _ (T312.setTop (mkF m 99 l309 [(.int (3 : Int32)), (.int (2 : Int32)), (.int (2 : Int32)), (.ref b3)])) _
        exact hq)
      obtain ⟨_, T314, L314, X314, ⟨rfl, Nq314, eq314⟩, k314a⟩ := callS' X312 hx hZ (y := (⟨"com/example/apportion/apportion/input/DecimalsFirstWholeDigitPinLaw", "stops", "([CIII)Z"⟩ : MethodName)) hown (hw _ (List.mem_of_getElem? (i := 35) rfl)) (hw _ (List.mem_of_getElem? (i := 36) rfl)) (hw _ (List.mem_of_getElem? (i := 3) rfl)) (hw _ (List.mem_of_getElem? (i := 37) rfl)) (by decide) (backC (W := 0) (rm_st2_2_3 l Z a0 hw b3 c3 r6 r9 r12 r15 (if r12 = (48 : Int32) then (0 : Int32) else 1) h21 n0 (by omega) f311 rfl) hZ (hw _ (List.mem_of_getElem? (i := 37) rfl)) (hw _ (List.mem_of_getElem? (i := 3) rfl)) (by decide) (by decide)) e312 (argsL := [(.ref b3), (.int (2 : Int32)), (.int (2 : Int32)), (.int (3 : Int32))]) (rest := []) rfl rfl pd_10 rfl (by rw [hml]; rfl) (hb hby at_99) (Nat.le_of_eq rfl) (by decide) (by decide) k313
      have k314 : To p.tables e below S0 (T314.setTop (mkF m 102 l309 [(.int (if r12 = (48 : Int32) then (0 : Int32) else 1))])) := k314a
      have N314 := N312.app Nq314
      have e314 : T314.heap = h21 := eq314
      let l316 : Array Slot := #[.val (.int p0), .val (.int p1), .val (.int p2), .val (.int p3), .val (.int p4), .val (.int p5), .val (.ref b3), .val (.ref b17), .val (.int (2 : Int32)), .val (.int (3 : Int32)), .val (.int (if (if r12 = (48 : Int32) then (0 : Int32) else 1) = (0 : Int32) then (3 : Int32) else (2 : Int32)))]
      refine joinT (S0 := S0) X314 e314 (mkF m 108 l316 []) (fun kont => ?_) (fun T315 X315 e315 k315 => ?_)
      · -- the roads to pc 108
        by_cases hc102_317 : (if r12 = (48 : Int32) then (0 : Int32) else 1) = (0 : Int32)
        · -- pc 102, holds
          have k318 : To p.tables e below S0 (T314.setTop (mkF m 108 l309 [])) := fun tt hq => k314 tt (by
            show Steps _ _ _ (T314.setTop (mkF m 102 l309 [(.int (if r12 = (48 : Int32) then (0 : Int32) else 1))])) _
            refine XS.ifYes X314.here hx rfl (pc0 := 102) (pc' := 108) rfl (hb hby at_102) rfl ((if0 _ _).trans (teq hc102_317).1) (by decide) (by decide) ?_
            show Steps _ _ _ (T314.setTop (mkF m 108 l309 [])) _
            exact hq)
          exact kont T314 X314 e314 (fun tt hq => k318 tt (by simpa only [if_pos hc102_317, l309, l316] using hq))
        · -- pc 102, holds not
          let l319 : Array Slot := #[.val (.int p0), .val (.int p1), .val (.int p2), .val (.int p3), .val (.int p4), .val (.int p5), .val (.ref b3), .val (.ref b17), .val (.int (2 : Int32)), .val (.int (3 : Int32)), .val (.int (2 : Int32))]
          have k320 : To p.tables e below S0 (T314.setTop (mkF m 108 l319 [])) := fun tt hq => k314 tt (by
            show Steps _ _ _ (T314.setTop (mkF m 102 l309 [(.int (if r12 = (48 : Int32) then (0 : Int32) else 1))])) _
            refine XS.ifNo X314.here hx rfl (hb hby at_102) rfl ((if0 _ _).trans (feq hc102_317).1) ?_
            show Steps _ _ _ (T314.setTop (mkF m 105 l309 [])) _
            refine XS.iconst X314.here hx rfl (hb hby at_105) ?_
            show Steps _ _ _ (T314.setTop (mkF m 106 l309 [(.int (2 : Int32))])) _
            refine XS.istore X314.here hx rfl (hb hby at_106) rfl (l' := l319) rfl ?_
            show Steps _ _ _ (T314.setTop (mkF m 108 l319 [])) _
            exact hq)
          exact kont T314 X314 e314 (fun tt hq => k320 tt (by simpa only [if_neg hc102_317, l319, l316] using hq))
      have k321 : To p.tables e below S0 (T315.setTop (mkF m 115 l316 [(.int (3 : Int32)), (.int (2 : Int32)), (.int (1 : Int32)), (.ref b3)])) := fun tt hq => k315 tt (by
        show Steps _ _ _ (T315.setTop (mkF m 108 l316 [])) _
        refine XS.aload X315.here hx rfl (hb hby at_108) rfl rfl ?_
        show Steps _ _ _ (T315.setTop (mkF m 110 l316 [(.ref b3)])) _
        refine XS.iconst X315.here hx rfl (hb hby at_110) ?_
        show Steps _ _ _ (T315.setTop (mkF m 111 l316 [(.int (1 : Int32)), (.ref b3)])) _
        refine XS.iload X315.here hx rfl (hb hby at_111) rfl ?_
        show Steps _ _ _ (T315.setTop (mkF m 113 l316 [(.int (2 : Int32)), (.int (1 : Int32)), (.ref b3)])) _
        refine XS.iload X315.here hx rfl (hb hby at_113) rfl ?_
        show Steps _ _ _ (T315.setTop (mkF m 115 l316 [(.int (3 : Int32)), (.int (2 : Int32)), (.int (1 : Int32)), (.ref b3)])) _
        exact hq)
      obtain ⟨_, T322, L322, X322, ⟨rfl, Nq322, eq322⟩, k322a⟩ := callS' X315 hx hZ (y := (⟨"com/example/apportion/apportion/input/DecimalsFirstWholeDigitPinLaw", "stops", "([CIII)Z"⟩ : MethodName)) hown (hw _ (List.mem_of_getElem? (i := 35) rfl)) (hw _ (List.mem_of_getElem? (i := 36) rfl)) (hw _ (List.mem_of_getElem? (i := 3) rfl)) (hw _ (List.mem_of_getElem? (i := 37) rfl)) (by decide) (backC (W := 0) (rm_st1_2_3 l Z a0 hw b3 c3 r6 r9 r12 r15 (0 : Int32) h21 n0 (by omega) f311 rfl) hZ (hw _ (List.mem_of_getElem? (i := 37) rfl)) (hw _ (List.mem_of_getElem? (i := 3) rfl)) (by decide) (by decide)) e315 (argsL := [(.ref b3), (.int (1 : Int32)), (.int (2 : Int32)), (.int (3 : Int32))]) (rest := []) rfl rfl pd_10 rfl (by rw [hml]; rfl) (hb hby at_115) (Nat.le_of_eq rfl) (by decide) (by decide) k321
      have k322 : To p.tables e below S0 (T322.setTop (mkF m 118 l316 [(.int (0 : Int32))])) := k322a
      have N322 := N314.app Nq322
      have e322 : T322.heap = h21 := eq322
      have k323 : To p.tables e below S0 (T322.setTop (mkF m 131 l316 [(.int (3 : Int32)), (.int (2 : Int32)), (.int (0 : Int32)), (.ref b3)])) := fun tt hq => k322 tt (by
        show Steps _ _ _ (T322.setTop (mkF m 118 l316 [(.int (0 : Int32))])) _
        refine XS.ifYes X322.here hx rfl (pc0 := 118) (pc' := 124) rfl (hb hby at_118) rfl ((if0 _ _).trans (teq (by decide)).1) (by decide) (by decide) ?_
        show Steps _ _ _ (T322.setTop (mkF m 124 l316 [])) _
        refine XS.aload X322.here hx rfl (hb hby at_124) rfl rfl ?_
        show Steps _ _ _ (T322.setTop (mkF m 126 l316 [(.ref b3)])) _
        refine XS.iconst X322.here hx rfl (hb hby at_126) ?_
        show Steps _ _ _ (T322.setTop (mkF m 127 l316 [(.int (0 : Int32)), (.ref b3)])) _
        refine XS.iload X322.here hx rfl (hb hby at_127) rfl ?_
        show Steps _ _ _ (T322.setTop (mkF m 129 l316 [(.int (2 : Int32)), (.int (0 : Int32)), (.ref b3)])) _
        refine XS.iload X322.here hx rfl (hb hby at_129) rfl ?_
        show Steps _ _ _ (T322.setTop (mkF m 131 l316 [(.int (3 : Int32)), (.int (2 : Int32)), (.int (0 : Int32)), (.ref b3)])) _
        exact hq)
      obtain ⟨_, T324, L324, X324, ⟨rfl, Nq324, eq324⟩, k324a⟩ := callS' X322 hx hZ (y := (⟨"com/example/apportion/apportion/input/DecimalsFirstWholeDigitPinLaw", "stops", "([CIII)Z"⟩ : MethodName)) hown (hw _ (List.mem_of_getElem? (i := 35) rfl)) (hw _ (List.mem_of_getElem? (i := 36) rfl)) (hw _ (List.mem_of_getElem? (i := 3) rfl)) (hw _ (List.mem_of_getElem? (i := 37) rfl)) (by decide) (backC (W := 0) (rm_st0_2_3 l Z a0 hw b3 c3 r6 r9 r12 r15 (0 : Int32) h21 n0 (by omega) f311 rfl) hZ (hw _ (List.mem_of_getElem? (i := 37) rfl)) (hw _ (List.mem_of_getElem? (i := 3) rfl)) (by decide) (by decide)) e322 (argsL := [(.ref b3), (.int (0 : Int32)), (.int (2 : Int32)), (.int (3 : Int32))]) (rest := []) rfl rfl pd_10 rfl (by rw [hml]; rfl) (hb hby at_131) (Nat.le_of_eq rfl) (by decide) (by decide) k323
      have k324 : To p.tables e below S0 (T324.setTop (mkF m 134 l316 [(.int (0 : Int32))])) := k324a
      have N324 := N322.app Nq324
      have e324 : T324.heap = h21 := eq324
      have k325 : To p.tables e below S0 (T324.setTop (mkF m 146 l316 [(.int (3 : Int32)), (.int (2 : Int32)), (.ref b17)])) := fun tt hq => k324 tt (by
        show Steps _ _ _ (T324.setTop (mkF m 134 l316 [(.int (0 : Int32))])) _
        refine XS.ifYes X324.here hx rfl (pc0 := 134) (pc' := 140) rfl (hb hby at_134) rfl ((if0 _ _).trans (teq (by decide)).1) (by decide) (by decide) ?_
        show Steps _ _ _ (T324.setTop (mkF m 140 l316 [])) _
        refine XS.aload X324.here hx rfl (hb hby at_140) rfl rfl ?_
        show Steps _ _ _ (T324.setTop (mkF m 142 l316 [(.ref b17)])) _
        refine XS.iload X324.here hx rfl (hb hby at_142) rfl ?_
        show Steps _ _ _ (T324.setTop (mkF m 144 l316 [(.int (2 : Int32)), (.ref b17)])) _
        refine XS.iload X324.here hx rfl (hb hby at_144) rfl ?_
        show Steps _ _ _ (T324.setTop (mkF m 146 l316 [(.int (3 : Int32)), (.int (2 : Int32)), (.ref b17)])) _
        exact hq)
      have f326 : Old Z n0 h21 := (f19.keep Kq21 (allS (by omega) all0))
      obtain ⟨_, T327, L327, X327, ⟨rfl, Nq327, eq327⟩, k327a⟩ := callS' X324 hx hZ (y := (⟨"com/example/apportion/apportion/input/Decimals", "firstWholeDigit", "(Ljava/lang/String;II)I"⟩ : MethodName)) hown (hw _ (List.mem_of_getElem? (i := 38) rfl)) (hw _ (List.mem_of_getElem? (i := 39) rfl)) (hw _ (List.mem_of_getElem? (i := 40) rfl)) (hw _ (List.mem_of_getElem? (i := 41) rfl)) (by decide) (backC (W := 0) (rm_fwd2_3 l Z a0 hw zc fm b17 t21 kt21 r6 r9 r12 r15 (if r12 = (48 : Int32) then (3 : Int32) else (2 : Int32)) h21 n0 (by omega) S_c hzc S_f hfm f326 P210 P211 P212 P213 hr6 hr9 hr12 hr15 rfl) hZ (hw _ (List.mem_of_getElem? (i := 41) rfl)) (hw _ (List.mem_of_getElem? (i := 40) rfl)) (by decide) (by decide)) e324 (argsL := [(.ref b17), (.int (2 : Int32)), (.int (3 : Int32))]) (rest := []) rfl rfl pd_11 rfl (by rw [hml]; rfl) (hb hby at_146) (Nat.le_of_eq rfl) (by decide) (by decide) k325
      have k327 : To p.tables e below S0 (T327.setTop (mkF m 149 l316 [(.int (if r12 = (48 : Int32) then (3 : Int32) else (2 : Int32)))])) := k327a
      have N327 := N324.app Nq327
      have e327 : T327.heap = h21 := eq327
      have k328 : To p.tables e below S0 (T327.setTop (mkF m 151 l316 [(.int (if (if r12 = (48 : Int32) then (0 : Int32) else 1) = (0 : Int32) then (3 : Int32) else (2 : Int32))), (.int (if r12 = (48 : Int32) then (3 : Int32) else (2 : Int32)))])) := fun tt hq => k327 tt (by
        show Steps _ _ _ (T327.setTop (mkF m 149 l316 [(.int (if r12 = (48 : Int32) then (3 : Int32) else (2 : Int32)))])) _
        refine XS.iload X327.here hx rfl (hb hby at_149) rfl ?_
        show Steps _ _ _ (T327.setTop (mkF m 151 l316 [(.int (if (if r12 = (48 : Int32) then (0 : Int32) else 1) = (0 : Int32) then (3 : Int32) else (2 : Int32))), (.int (if r12 = (48 : Int32) then (3 : Int32) else (2 : Int32)))])) _
        exact hq)
      by_cases hc151_329 : (if r12 = (48 : Int32) then (3 : Int32) else (2 : Int32)) = (if (if r12 = (48 : Int32) then (0 : Int32) else 1) = (0 : Int32) then (3 : Int32) else (2 : Int32))
      · -- pc 151, holds
        have k330 : To p.tables e below S0 (T327.setTop (mkF m 159 l316 [(.int (1 : Int32))])) := fun tt hq => k328 tt (by
          show Steps _ _ _ (T327.setTop (mkF m 151 l316 [(.int (if (if r12 = (48 : Int32) then (0 : Int32) else 1) = (0 : Int32) then (3 : Int32) else (2 : Int32))), (.int (if r12 = (48 : Int32) then (3 : Int32) else (2 : Int32)))])) _
          refine XS.icmpNo X327.here hx rfl (hb hby at_151) rfl (teq hc151_329).2 ?_
          show Steps _ _ _ (T327.setTop (mkF m 154 l316 [])) _
          refine XS.iconst X327.here hx rfl (hb hby at_154) ?_
          show Steps _ _ _ (T327.setTop (mkF m 155 l316 [(.int (1 : Int32))])) _
          refine XS.goto X327.here hx rfl (pc0 := 155) (pc' := 159) rfl (hb hby at_155) (by decide) (by decide) ?_
          show Steps _ _ _ (T327.setTop (mkF m 159 l316 [(.int (1 : Int32))])) _
          exact hq)
        have hE := e327
        refine retInt X327 hx hret hlk (by simp) rfl (hb hby at_159) k330 ?_ (by decide) (by decide)
        try rw [hE]
        exact ⟨rfl, N327⟩
      · -- pc 151, holds not
        exact absurd (by by_cases q2 : r12 = (48 : Int32) <;> simp [q2]) hc151_329
    · -- pc 69: (2 : Int32)
      have k331 : To p.tables e below S0 (T21.setTop (mkF m 69 l288 [(.int (2 : Int32)), (.int (2 : Int32))])) := by have hq := k289; rw [ht290] at hq; exact hq
      let l332 : Array Slot := #[.val (.int p0), .val (.int p1), .val (.int p2), .val (.int p3), .val (.int p4), .val (.int p5), .val (.ref b3), .val (.ref b17), .val (.int (2 : Int32)), .val (.int (4 : Int32)), .unset]
      let l333 : Array Slot := #[.val (.int p0), .val (.int p1), .val (.int p2), .val (.int p3), .val (.int p4), .val (.int p5), .val (.ref b3), .val (.ref b17), .val (.int (2 : Int32)), .val (.int (4 : Int32)), .val (.int (4 : Int32))]
      have k334 : To p.tables e below S0 (T21.setTop (mkF m 83 l333 [(.int (4 : Int32)), (.int (2 : Int32)), (.int (3 : Int32)), (.ref b3)])) := fun tt hq => k331 tt (by
        show Steps _ _ _ (T21.setTop (mkF m 69 l288 [(.int (2 : Int32)), (.int (2 : Int32))])) _
        refine XS.iadd X21.here hx rfl (hb hby at_69) rfl ?_
        show Steps _ _ _ (T21.setTop (mkF m 70 l288 [(.int (4 : Int32))])) _
        refine XS.istore X21.here hx rfl (hb hby at_70) rfl (l' := l332) rfl ?_
        show Steps _ _ _ (T21.setTop (mkF m 72 l332 [])) _
        refine XS.iload X21.here hx rfl (hb hby at_72) rfl ?_
        show Steps _ _ _ (T21.setTop (mkF m 74 l332 [(.int (4 : Int32))])) _
        refine XS.istore X21.here hx rfl (hb hby at_74) rfl (l' := l333) rfl ?_
        show Steps _ _ _ (T21.setTop (mkF m 76 l333 [])) _
        refine XS.aload X21.here hx rfl (hb hby at_76) rfl rfl ?_
        show Steps _ _ _ (T21.setTop (mkF m 78 l333 [(.ref b3)])) _
        refine XS.iconst X21.here hx rfl (hb hby at_78) ?_
        show Steps _ _ _ (T21.setTop (mkF m 79 l333 [(.int (3 : Int32)), (.ref b3)])) _
        refine XS.iload X21.here hx rfl (hb hby at_79) rfl ?_
        show Steps _ _ _ (T21.setTop (mkF m 81 l333 [(.int (2 : Int32)), (.int (3 : Int32)), (.ref b3)])) _
        refine XS.iload X21.here hx rfl (hb hby at_81) rfl ?_
        show Steps _ _ _ (T21.setTop (mkF m 83 l333 [(.int (4 : Int32)), (.int (2 : Int32)), (.int (3 : Int32)), (.ref b3)])) _
        exact hq)
      have f335 : Arv Z h21 b3 c3 .char (4 : Int32) [(.int r6), (.int r9), (.int r12), (.int r15)] (.int (0 : Int32)) := (f20.keep Kq21 (ninS (adr_ne (by omega)) nin0))
      obtain ⟨_, T336, L336, X336, ⟨rfl, Nq336, eq336⟩, k336a⟩ := callS' X21 hx hZ (y := (⟨"com/example/apportion/apportion/input/DecimalsFirstWholeDigitPinLaw", "stops", "([CIII)Z"⟩ : MethodName)) hown (hw _ (List.mem_of_getElem? (i := 35) rfl)) (hw _ (List.mem_of_getElem? (i := 36) rfl)) (hw _ (List.mem_of_getElem? (i := 3) rfl)) (hw _ (List.mem_of_getElem? (i := 37) rfl)) (by decide) (backC (W := 0) (rm_st3_2_4 l Z a0 hw b3 c3 r6 r9 r12 r15 (if r15 = (48 : Int32) then (0 : Int32) else 1) h21 n0 (by omega) f335 rfl) hZ (hw _ (List.mem_of_getElem? (i := 37) rfl)) (hw _ (List.mem_of_getElem? (i := 3) rfl)) (by decide) (by decide)) e21 (argsL := [(.ref b3), (.int (3 : Int32)), (.int (2 : Int32)), (.int (4 : Int32))]) (rest := []) rfl rfl pd_10 rfl (by rw [hml]; rfl) (hb hby at_83) (Nat.le_of_eq rfl) (by decide) (by decide) k334
      have k336 : To p.tables e below S0 (T336.setTop (mkF m 86 l333 [(.int (if r15 = (48 : Int32) then (0 : Int32) else 1))])) := k336a
      have N336 := N21.app Nq336
      have e336 : T336.heap = h21 := eq336
      let l338 : Array Slot := #[.val (.int p0), .val (.int p1), .val (.int p2), .val (.int p3), .val (.int p4), .val (.int p5), .val (.ref b3), .val (.ref b17), .val (.int (2 : Int32)), .val (.int (4 : Int32)), .val (.int (if (if r15 = (48 : Int32) then (0 : Int32) else 1) = (0 : Int32) then (4 : Int32) else (3 : Int32)))]
      refine joinT (S0 := S0) X336 e336 (mkF m 92 l338 []) (fun kont => ?_) (fun T337 X337 e337 k337 => ?_)
      · -- the roads to pc 92
        by_cases hc86_339 : (if r15 = (48 : Int32) then (0 : Int32) else 1) = (0 : Int32)
        · -- pc 86, holds
          have k340 : To p.tables e below S0 (T336.setTop (mkF m 92 l333 [])) := fun tt hq => k336 tt (by
            show Steps _ _ _ (T336.setTop (mkF m 86 l333 [(.int (if r15 = (48 : Int32) then (0 : Int32) else 1))])) _
            refine XS.ifYes X336.here hx rfl (pc0 := 86) (pc' := 92) rfl (hb hby at_86) rfl ((if0 _ _).trans (teq hc86_339).1) (by decide) (by decide) ?_
            show Steps _ _ _ (T336.setTop (mkF m 92 l333 [])) _
            exact hq)
          exact kont T336 X336 e336 (fun tt hq => k340 tt (by simpa only [if_pos hc86_339, l333, l338] using hq))
        · -- pc 86, holds not
          let l341 : Array Slot := #[.val (.int p0), .val (.int p1), .val (.int p2), .val (.int p3), .val (.int p4), .val (.int p5), .val (.ref b3), .val (.ref b17), .val (.int (2 : Int32)), .val (.int (4 : Int32)), .val (.int (3 : Int32))]
          have k342 : To p.tables e below S0 (T336.setTop (mkF m 92 l341 [])) := fun tt hq => k336 tt (by
            show Steps _ _ _ (T336.setTop (mkF m 86 l333 [(.int (if r15 = (48 : Int32) then (0 : Int32) else 1))])) _
            refine XS.ifNo X336.here hx rfl (hb hby at_86) rfl ((if0 _ _).trans (feq hc86_339).1) ?_
            show Steps _ _ _ (T336.setTop (mkF m 89 l333 [])) _
            refine XS.iconst X336.here hx rfl (hb hby at_89) ?_
            show Steps _ _ _ (T336.setTop (mkF m 90 l333 [(.int (3 : Int32))])) _
            refine XS.istore X336.here hx rfl (hb hby at_90) rfl (l' := l341) rfl ?_
            show Steps _ _ _ (T336.setTop (mkF m 92 l341 [])) _
            exact hq)
          exact kont T336 X336 e336 (fun tt hq => k342 tt (by simpa only [if_neg hc86_339, l341, l338] using hq))
      have k343 : To p.tables e below S0 (T337.setTop (mkF m 99 l338 [(.int (4 : Int32)), (.int (2 : Int32)), (.int (2 : Int32)), (.ref b3)])) := fun tt hq => k337 tt (by
        show Steps _ _ _ (T337.setTop (mkF m 92 l338 [])) _
        refine XS.aload X337.here hx rfl (hb hby at_92) rfl rfl ?_
        show Steps _ _ _ (T337.setTop (mkF m 94 l338 [(.ref b3)])) _
        refine XS.iconst X337.here hx rfl (hb hby at_94) ?_
        show Steps _ _ _ (T337.setTop (mkF m 95 l338 [(.int (2 : Int32)), (.ref b3)])) _
        refine XS.iload X337.here hx rfl (hb hby at_95) rfl ?_
        show Steps _ _ _ (T337.setTop (mkF m 97 l338 [(.int (2 : Int32)), (.int (2 : Int32)), (.ref b3)])) _
        refine XS.iload X337.here hx rfl (hb hby at_97) rfl ?_
        show Steps _ _ _ (T337.setTop (mkF m 99 l338 [(.int (4 : Int32)), (.int (2 : Int32)), (.int (2 : Int32)), (.ref b3)])) _
        exact hq)
      obtain ⟨_, T344, L344, X344, ⟨rfl, Nq344, eq344⟩, k344a⟩ := callS' X337 hx hZ (y := (⟨"com/example/apportion/apportion/input/DecimalsFirstWholeDigitPinLaw", "stops", "([CIII)Z"⟩ : MethodName)) hown (hw _ (List.mem_of_getElem? (i := 35) rfl)) (hw _ (List.mem_of_getElem? (i := 36) rfl)) (hw _ (List.mem_of_getElem? (i := 3) rfl)) (hw _ (List.mem_of_getElem? (i := 37) rfl)) (by decide) (backC (W := 0) (rm_st2_2_4 l Z a0 hw b3 c3 r6 r9 r12 r15 (if r12 = (48 : Int32) then (0 : Int32) else 1) h21 n0 (by omega) f335 rfl) hZ (hw _ (List.mem_of_getElem? (i := 37) rfl)) (hw _ (List.mem_of_getElem? (i := 3) rfl)) (by decide) (by decide)) e337 (argsL := [(.ref b3), (.int (2 : Int32)), (.int (2 : Int32)), (.int (4 : Int32))]) (rest := []) rfl rfl pd_10 rfl (by rw [hml]; rfl) (hb hby at_99) (Nat.le_of_eq rfl) (by decide) (by decide) k343
      have k344 : To p.tables e below S0 (T344.setTop (mkF m 102 l338 [(.int (if r12 = (48 : Int32) then (0 : Int32) else 1))])) := k344a
      have N344 := N336.app Nq344
      have e344 : T344.heap = h21 := eq344
      let l346 : Array Slot := #[.val (.int p0), .val (.int p1), .val (.int p2), .val (.int p3), .val (.int p4), .val (.int p5), .val (.ref b3), .val (.ref b17), .val (.int (2 : Int32)), .val (.int (4 : Int32)), .val (.int (if (if r12 = (48 : Int32) then (0 : Int32) else 1) = (0 : Int32) then (if (if r15 = (48 : Int32) then (0 : Int32) else 1) = (0 : Int32) then (4 : Int32) else (3 : Int32)) else (2 : Int32)))]
      refine joinT (S0 := S0) X344 e344 (mkF m 108 l346 []) (fun kont => ?_) (fun T345 X345 e345 k345 => ?_)
      · -- the roads to pc 108
        by_cases hc102_347 : (if r12 = (48 : Int32) then (0 : Int32) else 1) = (0 : Int32)
        · -- pc 102, holds
          have k348 : To p.tables e below S0 (T344.setTop (mkF m 108 l338 [])) := fun tt hq => k344 tt (by
            show Steps _ _ _ (T344.setTop (mkF m 102 l338 [(.int (if r12 = (48 : Int32) then (0 : Int32) else 1))])) _
            refine XS.ifYes X344.here hx rfl (pc0 := 102) (pc' := 108) rfl (hb hby at_102) rfl ((if0 _ _).trans (teq hc102_347).1) (by decide) (by decide) ?_
            show Steps _ _ _ (T344.setTop (mkF m 108 l338 [])) _
            exact hq)
          exact kont T344 X344 e344 (fun tt hq => k348 tt (by simpa only [if_pos hc102_347, l338, l346] using hq))
        · -- pc 102, holds not
          let l349 : Array Slot := #[.val (.int p0), .val (.int p1), .val (.int p2), .val (.int p3), .val (.int p4), .val (.int p5), .val (.ref b3), .val (.ref b17), .val (.int (2 : Int32)), .val (.int (4 : Int32)), .val (.int (2 : Int32))]
          have k350 : To p.tables e below S0 (T344.setTop (mkF m 108 l349 [])) := fun tt hq => k344 tt (by
            show Steps _ _ _ (T344.setTop (mkF m 102 l338 [(.int (if r12 = (48 : Int32) then (0 : Int32) else 1))])) _
            refine XS.ifNo X344.here hx rfl (hb hby at_102) rfl ((if0 _ _).trans (feq hc102_347).1) ?_
            show Steps _ _ _ (T344.setTop (mkF m 105 l338 [])) _
            refine XS.iconst X344.here hx rfl (hb hby at_105) ?_
            show Steps _ _ _ (T344.setTop (mkF m 106 l338 [(.int (2 : Int32))])) _
            refine XS.istore X344.here hx rfl (hb hby at_106) rfl (l' := l349) rfl ?_
            show Steps _ _ _ (T344.setTop (mkF m 108 l349 [])) _
            exact hq)
          exact kont T344 X344 e344 (fun tt hq => k350 tt (by simpa only [if_neg hc102_347, l349, l346] using hq))
      have k351 : To p.tables e below S0 (T345.setTop (mkF m 115 l346 [(.int (4 : Int32)), (.int (2 : Int32)), (.int (1 : Int32)), (.ref b3)])) := fun tt hq => k345 tt (by
        show Steps _ _ _ (T345.setTop (mkF m 108 l346 [])) _
        refine XS.aload X345.here hx rfl (hb hby at_108) rfl rfl ?_
        show Steps _ _ _ (T345.setTop (mkF m 110 l346 [(.ref b3)])) _
        refine XS.iconst X345.here hx rfl (hb hby at_110) ?_
        show Steps _ _ _ (T345.setTop (mkF m 111 l346 [(.int (1 : Int32)), (.ref b3)])) _
        refine XS.iload X345.here hx rfl (hb hby at_111) rfl ?_
        show Steps _ _ _ (T345.setTop (mkF m 113 l346 [(.int (2 : Int32)), (.int (1 : Int32)), (.ref b3)])) _
        refine XS.iload X345.here hx rfl (hb hby at_113) rfl ?_
        show Steps _ _ _ (T345.setTop (mkF m 115 l346 [(.int (4 : Int32)), (.int (2 : Int32)), (.int (1 : Int32)), (.ref b3)])) _
        exact hq)
      obtain ⟨_, T352, L352, X352, ⟨rfl, Nq352, eq352⟩, k352a⟩ := callS' X345 hx hZ (y := (⟨"com/example/apportion/apportion/input/DecimalsFirstWholeDigitPinLaw", "stops", "([CIII)Z"⟩ : MethodName)) hown (hw _ (List.mem_of_getElem? (i := 35) rfl)) (hw _ (List.mem_of_getElem? (i := 36) rfl)) (hw _ (List.mem_of_getElem? (i := 3) rfl)) (hw _ (List.mem_of_getElem? (i := 37) rfl)) (by decide) (backC (W := 0) (rm_st1_2_4 l Z a0 hw b3 c3 r6 r9 r12 r15 (0 : Int32) h21 n0 (by omega) f335 rfl) hZ (hw _ (List.mem_of_getElem? (i := 37) rfl)) (hw _ (List.mem_of_getElem? (i := 3) rfl)) (by decide) (by decide)) e345 (argsL := [(.ref b3), (.int (1 : Int32)), (.int (2 : Int32)), (.int (4 : Int32))]) (rest := []) rfl rfl pd_10 rfl (by rw [hml]; rfl) (hb hby at_115) (Nat.le_of_eq rfl) (by decide) (by decide) k351
      have k352 : To p.tables e below S0 (T352.setTop (mkF m 118 l346 [(.int (0 : Int32))])) := k352a
      have N352 := N344.app Nq352
      have e352 : T352.heap = h21 := eq352
      have k353 : To p.tables e below S0 (T352.setTop (mkF m 131 l346 [(.int (4 : Int32)), (.int (2 : Int32)), (.int (0 : Int32)), (.ref b3)])) := fun tt hq => k352 tt (by
        show Steps _ _ _ (T352.setTop (mkF m 118 l346 [(.int (0 : Int32))])) _
        refine XS.ifYes X352.here hx rfl (pc0 := 118) (pc' := 124) rfl (hb hby at_118) rfl ((if0 _ _).trans (teq (by decide)).1) (by decide) (by decide) ?_
        show Steps _ _ _ (T352.setTop (mkF m 124 l346 [])) _
        refine XS.aload X352.here hx rfl (hb hby at_124) rfl rfl ?_
        show Steps _ _ _ (T352.setTop (mkF m 126 l346 [(.ref b3)])) _
        refine XS.iconst X352.here hx rfl (hb hby at_126) ?_
        show Steps _ _ _ (T352.setTop (mkF m 127 l346 [(.int (0 : Int32)), (.ref b3)])) _
        refine XS.iload X352.here hx rfl (hb hby at_127) rfl ?_
        show Steps _ _ _ (T352.setTop (mkF m 129 l346 [(.int (2 : Int32)), (.int (0 : Int32)), (.ref b3)])) _
        refine XS.iload X352.here hx rfl (hb hby at_129) rfl ?_
        show Steps _ _ _ (T352.setTop (mkF m 131 l346 [(.int (4 : Int32)), (.int (2 : Int32)), (.int (0 : Int32)), (.ref b3)])) _
        exact hq)
      obtain ⟨_, T354, L354, X354, ⟨rfl, Nq354, eq354⟩, k354a⟩ := callS' X352 hx hZ (y := (⟨"com/example/apportion/apportion/input/DecimalsFirstWholeDigitPinLaw", "stops", "([CIII)Z"⟩ : MethodName)) hown (hw _ (List.mem_of_getElem? (i := 35) rfl)) (hw _ (List.mem_of_getElem? (i := 36) rfl)) (hw _ (List.mem_of_getElem? (i := 3) rfl)) (hw _ (List.mem_of_getElem? (i := 37) rfl)) (by decide) (backC (W := 0) (rm_st0_2_4 l Z a0 hw b3 c3 r6 r9 r12 r15 (0 : Int32) h21 n0 (by omega) f335 rfl) hZ (hw _ (List.mem_of_getElem? (i := 37) rfl)) (hw _ (List.mem_of_getElem? (i := 3) rfl)) (by decide) (by decide)) e352 (argsL := [(.ref b3), (.int (0 : Int32)), (.int (2 : Int32)), (.int (4 : Int32))]) (rest := []) rfl rfl pd_10 rfl (by rw [hml]; rfl) (hb hby at_131) (Nat.le_of_eq rfl) (by decide) (by decide) k353
      have k354 : To p.tables e below S0 (T354.setTop (mkF m 134 l346 [(.int (0 : Int32))])) := k354a
      have N354 := N352.app Nq354
      have e354 : T354.heap = h21 := eq354
      have k355 : To p.tables e below S0 (T354.setTop (mkF m 146 l346 [(.int (4 : Int32)), (.int (2 : Int32)), (.ref b17)])) := fun tt hq => k354 tt (by
        show Steps _ _ _ (T354.setTop (mkF m 134 l346 [(.int (0 : Int32))])) _
        refine XS.ifYes X354.here hx rfl (pc0 := 134) (pc' := 140) rfl (hb hby at_134) rfl ((if0 _ _).trans (teq (by decide)).1) (by decide) (by decide) ?_
        show Steps _ _ _ (T354.setTop (mkF m 140 l346 [])) _
        refine XS.aload X354.here hx rfl (hb hby at_140) rfl rfl ?_
        show Steps _ _ _ (T354.setTop (mkF m 142 l346 [(.ref b17)])) _
        refine XS.iload X354.here hx rfl (hb hby at_142) rfl ?_
        show Steps _ _ _ (T354.setTop (mkF m 144 l346 [(.int (2 : Int32)), (.ref b17)])) _
        refine XS.iload X354.here hx rfl (hb hby at_144) rfl ?_
        show Steps _ _ _ (T354.setTop (mkF m 146 l346 [(.int (4 : Int32)), (.int (2 : Int32)), (.ref b17)])) _
        exact hq)
      have f356 : Old Z n0 h21 := (f19.keep Kq21 (allS (by omega) all0))
      obtain ⟨_, T357, L357, X357, ⟨rfl, Nq357, eq357⟩, k357a⟩ := callS' X354 hx hZ (y := (⟨"com/example/apportion/apportion/input/Decimals", "firstWholeDigit", "(Ljava/lang/String;II)I"⟩ : MethodName)) hown (hw _ (List.mem_of_getElem? (i := 38) rfl)) (hw _ (List.mem_of_getElem? (i := 39) rfl)) (hw _ (List.mem_of_getElem? (i := 40) rfl)) (hw _ (List.mem_of_getElem? (i := 41) rfl)) (by decide) (backC (W := 0) (rm_fwd2_4 l Z a0 hw zc fm b17 t21 kt21 r6 r9 r12 r15 (if r12 = (48 : Int32) then (if r15 = (48 : Int32) then (4 : Int32) else (3 : Int32)) else (2 : Int32)) h21 n0 (by omega) S_c hzc S_f hfm f356 P210 P211 P212 P213 hr6 hr9 hr12 hr15 rfl) hZ (hw _ (List.mem_of_getElem? (i := 41) rfl)) (hw _ (List.mem_of_getElem? (i := 40) rfl)) (by decide) (by decide)) e354 (argsL := [(.ref b17), (.int (2 : Int32)), (.int (4 : Int32))]) (rest := []) rfl rfl pd_11 rfl (by rw [hml]; rfl) (hb hby at_146) (Nat.le_of_eq rfl) (by decide) (by decide) k355
      have k357 : To p.tables e below S0 (T357.setTop (mkF m 149 l346 [(.int (if r12 = (48 : Int32) then (if r15 = (48 : Int32) then (4 : Int32) else (3 : Int32)) else (2 : Int32)))])) := k357a
      have N357 := N354.app Nq357
      have e357 : T357.heap = h21 := eq357
      have k358 : To p.tables e below S0 (T357.setTop (mkF m 151 l346 [(.int (if (if r12 = (48 : Int32) then (0 : Int32) else 1) = (0 : Int32) then (if (if r15 = (48 : Int32) then (0 : Int32) else 1) = (0 : Int32) then (4 : Int32) else (3 : Int32)) else (2 : Int32))), (.int (if r12 = (48 : Int32) then (if r15 = (48 : Int32) then (4 : Int32) else (3 : Int32)) else (2 : Int32)))])) := fun tt hq => k357 tt (by
        show Steps _ _ _ (T357.setTop (mkF m 149 l346 [(.int (if r12 = (48 : Int32) then (if r15 = (48 : Int32) then (4 : Int32) else (3 : Int32)) else (2 : Int32)))])) _
        refine XS.iload X357.here hx rfl (hb hby at_149) rfl ?_
        show Steps _ _ _ (T357.setTop (mkF m 151 l346 [(.int (if (if r12 = (48 : Int32) then (0 : Int32) else 1) = (0 : Int32) then (if (if r15 = (48 : Int32) then (0 : Int32) else 1) = (0 : Int32) then (4 : Int32) else (3 : Int32)) else (2 : Int32))), (.int (if r12 = (48 : Int32) then (if r15 = (48 : Int32) then (4 : Int32) else (3 : Int32)) else (2 : Int32)))])) _
        exact hq)
      by_cases hc151_359 : (if r12 = (48 : Int32) then (if r15 = (48 : Int32) then (4 : Int32) else (3 : Int32)) else (2 : Int32)) = (if (if r12 = (48 : Int32) then (0 : Int32) else 1) = (0 : Int32) then (if (if r15 = (48 : Int32) then (0 : Int32) else 1) = (0 : Int32) then (4 : Int32) else (3 : Int32)) else (2 : Int32))
      · -- pc 151, holds
        have k360 : To p.tables e below S0 (T357.setTop (mkF m 159 l346 [(.int (1 : Int32))])) := fun tt hq => k358 tt (by
          show Steps _ _ _ (T357.setTop (mkF m 151 l346 [(.int (if (if r12 = (48 : Int32) then (0 : Int32) else 1) = (0 : Int32) then (if (if r15 = (48 : Int32) then (0 : Int32) else 1) = (0 : Int32) then (4 : Int32) else (3 : Int32)) else (2 : Int32))), (.int (if r12 = (48 : Int32) then (if r15 = (48 : Int32) then (4 : Int32) else (3 : Int32)) else (2 : Int32)))])) _
          refine XS.icmpNo X357.here hx rfl (hb hby at_151) rfl (teq hc151_359).2 ?_
          show Steps _ _ _ (T357.setTop (mkF m 154 l346 [])) _
          refine XS.iconst X357.here hx rfl (hb hby at_154) ?_
          show Steps _ _ _ (T357.setTop (mkF m 155 l346 [(.int (1 : Int32))])) _
          refine XS.goto X357.here hx rfl (pc0 := 155) (pc' := 159) rfl (hb hby at_155) (by decide) (by decide) ?_
          show Steps _ _ _ (T357.setTop (mkF m 159 l346 [(.int (1 : Int32))])) _
          exact hq)
        have hE := e357
        refine retInt X357 hx hret hlk (by simp) rfl (hb hby at_159) k360 ?_ (by decide) (by decide)
        try rw [hE]
        exact ⟨rfl, N357⟩
      · -- pc 151, holds not
        exact absurd (by by_cases q2 : r12 = (48 : Int32) <;> by_cases q3 : r15 = (48 : Int32) <;> simp [q2, q3]) hc151_359
  · -- pc 55: (3 : Int32)
    have k361 : To p.tables e below S0 (T21.setTop (mkF m 55 l22 [(.int (3 : Int32))])) := by have hq := k23; rw [ht24] at hq; exact hq
    let l362 : Array Slot := #[.val (.int p0), .val (.int p1), .val (.int p2), .val (.int p3), .val (.int p4), .val (.int p5), .val (.ref b3), .val (.ref b17), .val (.int (3 : Int32)), .unset, .unset]
    have k363 : To p.tables e below S0 (T21.setTop (mkF m 69 l362 [(.int ((p5 &&& (2147483647 : Int32)) % (2 : Int32))), (.int (3 : Int32))])) := fun tt hq => k361 tt (by
      show Steps _ _ _ (T21.setTop (mkF m 55 l22 [(.int (3 : Int32))])) _
      refine XS.istore X21.here hx rfl (hb hby at_55) rfl (l' := l362) rfl ?_
      show Steps _ _ _ (T21.setTop (mkF m 57 l362 [])) _
      refine XS.iload X21.here hx rfl (hb hby at_57) rfl ?_
      show Steps _ _ _ (T21.setTop (mkF m 59 l362 [(.int (3 : Int32))])) _
      refine XS.iload X21.here hx rfl (hb hby at_59) rfl ?_
      show Steps _ _ _ (T21.setTop (mkF m 61 l362 [(.int p5), (.int (3 : Int32))])) _
      refine X21.ldcInt hx hown (mvT hZ (hw _ (List.mem_of_getElem? (i := 34) rfl))) (g := (mkF m 61 l362 [(.int p5), (.int (3 : Int32))])) rfl (hb hby at_61) _ ?_
      show Steps _ _ _ (T21.setTop (mkF m 63 l362 [(.int (2147483647 : Int32)), (.int p5), (.int (3 : Int32))])) _
      refine XS.iand X21.here hx rfl (hb hby at_63) rfl ?_
      show Steps _ _ _ (T21.setTop (mkF m 64 l362 [(.int (p5 &&& (2147483647 : Int32))), (.int (3 : Int32))])) _
      refine XS.iconst X21.here hx rfl (hb hby at_64) ?_
      show Steps _ _ _ (T21.setTop (mkF m 65 l362 [(.int (5 : Int32)), (.int (p5 &&& (2147483647 : Int32))), (.int (3 : Int32))])) _
      refine XS.iload X21.here hx rfl (hb hby at_65) rfl ?_
      show Steps _ _ _ (T21.setTop (mkF m 67 l362 [(.int (3 : Int32)), (.int (5 : Int32)), (.int (p5 &&& (2147483647 : Int32))), (.int (3 : Int32))])) _
      refine XS.isub X21.here hx rfl (hb hby at_67) rfl ?_
      show Steps _ _ _ (T21.setTop (mkF m 68 l362 [(.int (2 : Int32)), (.int (p5 &&& (2147483647 : Int32))), (.int (3 : Int32))])) _
      refine iremM X21 hx rfl (hb hby at_68) rfl (by decide) ?_
      show Steps _ _ _ (T21.setTop (mkF m 69 l362 [(.int ((p5 &&& (2147483647 : Int32)) % (2 : Int32))), (.int (3 : Int32))])) _
      exact hq)
    rcases own_md2 p5 with ht364 | ht364
    · -- pc 69: (0 : Int32)
      have k365 : To p.tables e below S0 (T21.setTop (mkF m 69 l362 [(.int (0 : Int32)), (.int (3 : Int32))])) := by have hq := k363; rw [ht364] at hq; exact hq
      let l366 : Array Slot := #[.val (.int p0), .val (.int p1), .val (.int p2), .val (.int p3), .val (.int p4), .val (.int p5), .val (.ref b3), .val (.ref b17), .val (.int (3 : Int32)), .val (.int (3 : Int32)), .unset]
      let l367 : Array Slot := #[.val (.int p0), .val (.int p1), .val (.int p2), .val (.int p3), .val (.int p4), .val (.int p5), .val (.ref b3), .val (.ref b17), .val (.int (3 : Int32)), .val (.int (3 : Int32)), .val (.int (3 : Int32))]
      have k368 : To p.tables e below S0 (T21.setTop (mkF m 83 l367 [(.int (3 : Int32)), (.int (3 : Int32)), (.int (3 : Int32)), (.ref b3)])) := fun tt hq => k365 tt (by
        show Steps _ _ _ (T21.setTop (mkF m 69 l362 [(.int (0 : Int32)), (.int (3 : Int32))])) _
        refine XS.iadd X21.here hx rfl (hb hby at_69) rfl ?_
        show Steps _ _ _ (T21.setTop (mkF m 70 l362 [(.int (3 : Int32))])) _
        refine XS.istore X21.here hx rfl (hb hby at_70) rfl (l' := l366) rfl ?_
        show Steps _ _ _ (T21.setTop (mkF m 72 l366 [])) _
        refine XS.iload X21.here hx rfl (hb hby at_72) rfl ?_
        show Steps _ _ _ (T21.setTop (mkF m 74 l366 [(.int (3 : Int32))])) _
        refine XS.istore X21.here hx rfl (hb hby at_74) rfl (l' := l367) rfl ?_
        show Steps _ _ _ (T21.setTop (mkF m 76 l367 [])) _
        refine XS.aload X21.here hx rfl (hb hby at_76) rfl rfl ?_
        show Steps _ _ _ (T21.setTop (mkF m 78 l367 [(.ref b3)])) _
        refine XS.iconst X21.here hx rfl (hb hby at_78) ?_
        show Steps _ _ _ (T21.setTop (mkF m 79 l367 [(.int (3 : Int32)), (.ref b3)])) _
        refine XS.iload X21.here hx rfl (hb hby at_79) rfl ?_
        show Steps _ _ _ (T21.setTop (mkF m 81 l367 [(.int (3 : Int32)), (.int (3 : Int32)), (.ref b3)])) _
        refine XS.iload X21.here hx rfl (hb hby at_81) rfl ?_
        show Steps _ _ _ (T21.setTop (mkF m 83 l367 [(.int (3 : Int32)), (.int (3 : Int32)), (.int (3 : Int32)), (.ref b3)])) _
        exact hq)
      have f369 : Arv Z h21 b3 c3 .char (4 : Int32) [(.int r6), (.int r9), (.int r12), (.int r15)] (.int (0 : Int32)) := (f20.keep Kq21 (ninS (adr_ne (by omega)) nin0))
      obtain ⟨_, T370, L370, X370, ⟨rfl, Nq370, eq370⟩, k370a⟩ := callS' X21 hx hZ (y := (⟨"com/example/apportion/apportion/input/DecimalsFirstWholeDigitPinLaw", "stops", "([CIII)Z"⟩ : MethodName)) hown (hw _ (List.mem_of_getElem? (i := 35) rfl)) (hw _ (List.mem_of_getElem? (i := 36) rfl)) (hw _ (List.mem_of_getElem? (i := 3) rfl)) (hw _ (List.mem_of_getElem? (i := 37) rfl)) (by decide) (backC (W := 0) (rm_st3_3_3 l Z a0 hw b3 c3 r6 r9 r12 r15 (0 : Int32) h21 n0 (by omega) f369 rfl) hZ (hw _ (List.mem_of_getElem? (i := 37) rfl)) (hw _ (List.mem_of_getElem? (i := 3) rfl)) (by decide) (by decide)) e21 (argsL := [(.ref b3), (.int (3 : Int32)), (.int (3 : Int32)), (.int (3 : Int32))]) (rest := []) rfl rfl pd_10 rfl (by rw [hml]; rfl) (hb hby at_83) (Nat.le_of_eq rfl) (by decide) (by decide) k368
      have k370 : To p.tables e below S0 (T370.setTop (mkF m 86 l367 [(.int (0 : Int32))])) := k370a
      have N370 := N21.app Nq370
      have e370 : T370.heap = h21 := eq370
      have k371 : To p.tables e below S0 (T370.setTop (mkF m 99 l367 [(.int (3 : Int32)), (.int (3 : Int32)), (.int (2 : Int32)), (.ref b3)])) := fun tt hq => k370 tt (by
        show Steps _ _ _ (T370.setTop (mkF m 86 l367 [(.int (0 : Int32))])) _
        refine XS.ifYes X370.here hx rfl (pc0 := 86) (pc' := 92) rfl (hb hby at_86) rfl ((if0 _ _).trans (teq (by decide)).1) (by decide) (by decide) ?_
        show Steps _ _ _ (T370.setTop (mkF m 92 l367 [])) _
        refine XS.aload X370.here hx rfl (hb hby at_92) rfl rfl ?_
        show Steps _ _ _ (T370.setTop (mkF m 94 l367 [(.ref b3)])) _
        refine XS.iconst X370.here hx rfl (hb hby at_94) ?_
        show Steps _ _ _ (T370.setTop (mkF m 95 l367 [(.int (2 : Int32)), (.ref b3)])) _
        refine XS.iload X370.here hx rfl (hb hby at_95) rfl ?_
        show Steps _ _ _ (T370.setTop (mkF m 97 l367 [(.int (3 : Int32)), (.int (2 : Int32)), (.ref b3)])) _
        refine XS.iload X370.here hx rfl (hb hby at_97) rfl ?_
        show Steps _ _ _ (T370.setTop (mkF m 99 l367 [(.int (3 : Int32)), (.int (3 : Int32)), (.int (2 : Int32)), (.ref b3)])) _
        exact hq)
      obtain ⟨_, T372, L372, X372, ⟨rfl, Nq372, eq372⟩, k372a⟩ := callS' X370 hx hZ (y := (⟨"com/example/apportion/apportion/input/DecimalsFirstWholeDigitPinLaw", "stops", "([CIII)Z"⟩ : MethodName)) hown (hw _ (List.mem_of_getElem? (i := 35) rfl)) (hw _ (List.mem_of_getElem? (i := 36) rfl)) (hw _ (List.mem_of_getElem? (i := 3) rfl)) (hw _ (List.mem_of_getElem? (i := 37) rfl)) (by decide) (backC (W := 0) (rm_st2_3_3 l Z a0 hw b3 c3 r6 r9 r12 r15 (0 : Int32) h21 n0 (by omega) f369 rfl) hZ (hw _ (List.mem_of_getElem? (i := 37) rfl)) (hw _ (List.mem_of_getElem? (i := 3) rfl)) (by decide) (by decide)) e370 (argsL := [(.ref b3), (.int (2 : Int32)), (.int (3 : Int32)), (.int (3 : Int32))]) (rest := []) rfl rfl pd_10 rfl (by rw [hml]; rfl) (hb hby at_99) (Nat.le_of_eq rfl) (by decide) (by decide) k371
      have k372 : To p.tables e below S0 (T372.setTop (mkF m 102 l367 [(.int (0 : Int32))])) := k372a
      have N372 := N370.app Nq372
      have e372 : T372.heap = h21 := eq372
      have k373 : To p.tables e below S0 (T372.setTop (mkF m 115 l367 [(.int (3 : Int32)), (.int (3 : Int32)), (.int (1 : Int32)), (.ref b3)])) := fun tt hq => k372 tt (by
        show Steps _ _ _ (T372.setTop (mkF m 102 l367 [(.int (0 : Int32))])) _
        refine XS.ifYes X372.here hx rfl (pc0 := 102) (pc' := 108) rfl (hb hby at_102) rfl ((if0 _ _).trans (teq (by decide)).1) (by decide) (by decide) ?_
        show Steps _ _ _ (T372.setTop (mkF m 108 l367 [])) _
        refine XS.aload X372.here hx rfl (hb hby at_108) rfl rfl ?_
        show Steps _ _ _ (T372.setTop (mkF m 110 l367 [(.ref b3)])) _
        refine XS.iconst X372.here hx rfl (hb hby at_110) ?_
        show Steps _ _ _ (T372.setTop (mkF m 111 l367 [(.int (1 : Int32)), (.ref b3)])) _
        refine XS.iload X372.here hx rfl (hb hby at_111) rfl ?_
        show Steps _ _ _ (T372.setTop (mkF m 113 l367 [(.int (3 : Int32)), (.int (1 : Int32)), (.ref b3)])) _
        refine XS.iload X372.here hx rfl (hb hby at_113) rfl ?_
        show Steps _ _ _ (T372.setTop (mkF m 115 l367 [(.int (3 : Int32)), (.int (3 : Int32)), (.int (1 : Int32)), (.ref b3)])) _
        exact hq)
      obtain ⟨_, T374, L374, X374, ⟨rfl, Nq374, eq374⟩, k374a⟩ := callS' X372 hx hZ (y := (⟨"com/example/apportion/apportion/input/DecimalsFirstWholeDigitPinLaw", "stops", "([CIII)Z"⟩ : MethodName)) hown (hw _ (List.mem_of_getElem? (i := 35) rfl)) (hw _ (List.mem_of_getElem? (i := 36) rfl)) (hw _ (List.mem_of_getElem? (i := 3) rfl)) (hw _ (List.mem_of_getElem? (i := 37) rfl)) (by decide) (backC (W := 0) (rm_st1_3_3 l Z a0 hw b3 c3 r6 r9 r12 r15 (0 : Int32) h21 n0 (by omega) f369 rfl) hZ (hw _ (List.mem_of_getElem? (i := 37) rfl)) (hw _ (List.mem_of_getElem? (i := 3) rfl)) (by decide) (by decide)) e372 (argsL := [(.ref b3), (.int (1 : Int32)), (.int (3 : Int32)), (.int (3 : Int32))]) (rest := []) rfl rfl pd_10 rfl (by rw [hml]; rfl) (hb hby at_115) (Nat.le_of_eq rfl) (by decide) (by decide) k373
      have k374 : To p.tables e below S0 (T374.setTop (mkF m 118 l367 [(.int (0 : Int32))])) := k374a
      have N374 := N372.app Nq374
      have e374 : T374.heap = h21 := eq374
      have k375 : To p.tables e below S0 (T374.setTop (mkF m 131 l367 [(.int (3 : Int32)), (.int (3 : Int32)), (.int (0 : Int32)), (.ref b3)])) := fun tt hq => k374 tt (by
        show Steps _ _ _ (T374.setTop (mkF m 118 l367 [(.int (0 : Int32))])) _
        refine XS.ifYes X374.here hx rfl (pc0 := 118) (pc' := 124) rfl (hb hby at_118) rfl ((if0 _ _).trans (teq (by decide)).1) (by decide) (by decide) ?_
        show Steps _ _ _ (T374.setTop (mkF m 124 l367 [])) _
        refine XS.aload X374.here hx rfl (hb hby at_124) rfl rfl ?_
        show Steps _ _ _ (T374.setTop (mkF m 126 l367 [(.ref b3)])) _
        refine XS.iconst X374.here hx rfl (hb hby at_126) ?_
        show Steps _ _ _ (T374.setTop (mkF m 127 l367 [(.int (0 : Int32)), (.ref b3)])) _
        refine XS.iload X374.here hx rfl (hb hby at_127) rfl ?_
        show Steps _ _ _ (T374.setTop (mkF m 129 l367 [(.int (3 : Int32)), (.int (0 : Int32)), (.ref b3)])) _
        refine XS.iload X374.here hx rfl (hb hby at_129) rfl ?_
        show Steps _ _ _ (T374.setTop (mkF m 131 l367 [(.int (3 : Int32)), (.int (3 : Int32)), (.int (0 : Int32)), (.ref b3)])) _
        exact hq)
      obtain ⟨_, T376, L376, X376, ⟨rfl, Nq376, eq376⟩, k376a⟩ := callS' X374 hx hZ (y := (⟨"com/example/apportion/apportion/input/DecimalsFirstWholeDigitPinLaw", "stops", "([CIII)Z"⟩ : MethodName)) hown (hw _ (List.mem_of_getElem? (i := 35) rfl)) (hw _ (List.mem_of_getElem? (i := 36) rfl)) (hw _ (List.mem_of_getElem? (i := 3) rfl)) (hw _ (List.mem_of_getElem? (i := 37) rfl)) (by decide) (backC (W := 0) (rm_st0_3_3 l Z a0 hw b3 c3 r6 r9 r12 r15 (0 : Int32) h21 n0 (by omega) f369 rfl) hZ (hw _ (List.mem_of_getElem? (i := 37) rfl)) (hw _ (List.mem_of_getElem? (i := 3) rfl)) (by decide) (by decide)) e374 (argsL := [(.ref b3), (.int (0 : Int32)), (.int (3 : Int32)), (.int (3 : Int32))]) (rest := []) rfl rfl pd_10 rfl (by rw [hml]; rfl) (hb hby at_131) (Nat.le_of_eq rfl) (by decide) (by decide) k375
      have k376 : To p.tables e below S0 (T376.setTop (mkF m 134 l367 [(.int (0 : Int32))])) := k376a
      have N376 := N374.app Nq376
      have e376 : T376.heap = h21 := eq376
      have k377 : To p.tables e below S0 (T376.setTop (mkF m 146 l367 [(.int (3 : Int32)), (.int (3 : Int32)), (.ref b17)])) := fun tt hq => k376 tt (by
        show Steps _ _ _ (T376.setTop (mkF m 134 l367 [(.int (0 : Int32))])) _
        refine XS.ifYes X376.here hx rfl (pc0 := 134) (pc' := 140) rfl (hb hby at_134) rfl ((if0 _ _).trans (teq (by decide)).1) (by decide) (by decide) ?_
        show Steps _ _ _ (T376.setTop (mkF m 140 l367 [])) _
        refine XS.aload X376.here hx rfl (hb hby at_140) rfl rfl ?_
        show Steps _ _ _ (T376.setTop (mkF m 142 l367 [(.ref b17)])) _
        refine XS.iload X376.here hx rfl (hb hby at_142) rfl ?_
        show Steps _ _ _ (T376.setTop (mkF m 144 l367 [(.int (3 : Int32)), (.ref b17)])) _
        refine XS.iload X376.here hx rfl (hb hby at_144) rfl ?_
        show Steps _ _ _ (T376.setTop (mkF m 146 l367 [(.int (3 : Int32)), (.int (3 : Int32)), (.ref b17)])) _
        exact hq)
      have f378 : Old Z n0 h21 := (f19.keep Kq21 (allS (by omega) all0))
      obtain ⟨_, T379, L379, X379, ⟨rfl, Nq379, eq379⟩, k379a⟩ := callS' X376 hx hZ (y := (⟨"com/example/apportion/apportion/input/Decimals", "firstWholeDigit", "(Ljava/lang/String;II)I"⟩ : MethodName)) hown (hw _ (List.mem_of_getElem? (i := 38) rfl)) (hw _ (List.mem_of_getElem? (i := 39) rfl)) (hw _ (List.mem_of_getElem? (i := 40) rfl)) (hw _ (List.mem_of_getElem? (i := 41) rfl)) (by decide) (backC (W := 0) (rm_fwd3_3 l Z a0 hw zc fm b17 t21 kt21 r6 r9 r12 r15 (3 : Int32) h21 n0 (by omega) S_c hzc S_f hfm f378 P210 P211 P212 P213 hr6 hr9 hr12 hr15 rfl) hZ (hw _ (List.mem_of_getElem? (i := 41) rfl)) (hw _ (List.mem_of_getElem? (i := 40) rfl)) (by decide) (by decide)) e376 (argsL := [(.ref b17), (.int (3 : Int32)), (.int (3 : Int32))]) (rest := []) rfl rfl pd_11 rfl (by rw [hml]; rfl) (hb hby at_146) (Nat.le_of_eq rfl) (by decide) (by decide) k377
      have k379 : To p.tables e below S0 (T379.setTop (mkF m 149 l367 [(.int (3 : Int32))])) := k379a
      have N379 := N376.app Nq379
      have e379 : T379.heap = h21 := eq379
      have k380 : To p.tables e below S0 (T379.setTop (mkF m 159 l367 [(.int (1 : Int32))])) := fun tt hq => k379 tt (by
        show Steps _ _ _ (T379.setTop (mkF m 149 l367 [(.int (3 : Int32))])) _
        refine XS.iload X379.here hx rfl (hb hby at_149) rfl ?_
        show Steps _ _ _ (T379.setTop (mkF m 151 l367 [(.int (3 : Int32)), (.int (3 : Int32))])) _
        refine XS.icmpNo X379.here hx rfl (hb hby at_151) rfl (teq (by decide)).2 ?_
        show Steps _ _ _ (T379.setTop (mkF m 154 l367 [])) _
        refine XS.iconst X379.here hx rfl (hb hby at_154) ?_
        show Steps _ _ _ (T379.setTop (mkF m 155 l367 [(.int (1 : Int32))])) _
        refine XS.goto X379.here hx rfl (pc0 := 155) (pc' := 159) rfl (hb hby at_155) (by decide) (by decide) ?_
        show Steps _ _ _ (T379.setTop (mkF m 159 l367 [(.int (1 : Int32))])) _
        exact hq)
      have hE := e379
      refine retInt X379 hx hret hlk (by simp) rfl (hb hby at_159) k380 ?_ (by decide) (by decide)
      try rw [hE]
      exact ⟨rfl, N379⟩
    · -- pc 69: (1 : Int32)
      have k381 : To p.tables e below S0 (T21.setTop (mkF m 69 l362 [(.int (1 : Int32)), (.int (3 : Int32))])) := by have hq := k363; rw [ht364] at hq; exact hq
      let l382 : Array Slot := #[.val (.int p0), .val (.int p1), .val (.int p2), .val (.int p3), .val (.int p4), .val (.int p5), .val (.ref b3), .val (.ref b17), .val (.int (3 : Int32)), .val (.int (4 : Int32)), .unset]
      let l383 : Array Slot := #[.val (.int p0), .val (.int p1), .val (.int p2), .val (.int p3), .val (.int p4), .val (.int p5), .val (.ref b3), .val (.ref b17), .val (.int (3 : Int32)), .val (.int (4 : Int32)), .val (.int (4 : Int32))]
      have k384 : To p.tables e below S0 (T21.setTop (mkF m 83 l383 [(.int (4 : Int32)), (.int (3 : Int32)), (.int (3 : Int32)), (.ref b3)])) := fun tt hq => k381 tt (by
        show Steps _ _ _ (T21.setTop (mkF m 69 l362 [(.int (1 : Int32)), (.int (3 : Int32))])) _
        refine XS.iadd X21.here hx rfl (hb hby at_69) rfl ?_
        show Steps _ _ _ (T21.setTop (mkF m 70 l362 [(.int (4 : Int32))])) _
        refine XS.istore X21.here hx rfl (hb hby at_70) rfl (l' := l382) rfl ?_
        show Steps _ _ _ (T21.setTop (mkF m 72 l382 [])) _
        refine XS.iload X21.here hx rfl (hb hby at_72) rfl ?_
        show Steps _ _ _ (T21.setTop (mkF m 74 l382 [(.int (4 : Int32))])) _
        refine XS.istore X21.here hx rfl (hb hby at_74) rfl (l' := l383) rfl ?_
        show Steps _ _ _ (T21.setTop (mkF m 76 l383 [])) _
        refine XS.aload X21.here hx rfl (hb hby at_76) rfl rfl ?_
        show Steps _ _ _ (T21.setTop (mkF m 78 l383 [(.ref b3)])) _
        refine XS.iconst X21.here hx rfl (hb hby at_78) ?_
        show Steps _ _ _ (T21.setTop (mkF m 79 l383 [(.int (3 : Int32)), (.ref b3)])) _
        refine XS.iload X21.here hx rfl (hb hby at_79) rfl ?_
        show Steps _ _ _ (T21.setTop (mkF m 81 l383 [(.int (3 : Int32)), (.int (3 : Int32)), (.ref b3)])) _
        refine XS.iload X21.here hx rfl (hb hby at_81) rfl ?_
        show Steps _ _ _ (T21.setTop (mkF m 83 l383 [(.int (4 : Int32)), (.int (3 : Int32)), (.int (3 : Int32)), (.ref b3)])) _
        exact hq)
      have f385 : Arv Z h21 b3 c3 .char (4 : Int32) [(.int r6), (.int r9), (.int r12), (.int r15)] (.int (0 : Int32)) := (f20.keep Kq21 (ninS (adr_ne (by omega)) nin0))
      obtain ⟨_, T386, L386, X386, ⟨rfl, Nq386, eq386⟩, k386a⟩ := callS' X21 hx hZ (y := (⟨"com/example/apportion/apportion/input/DecimalsFirstWholeDigitPinLaw", "stops", "([CIII)Z"⟩ : MethodName)) hown (hw _ (List.mem_of_getElem? (i := 35) rfl)) (hw _ (List.mem_of_getElem? (i := 36) rfl)) (hw _ (List.mem_of_getElem? (i := 3) rfl)) (hw _ (List.mem_of_getElem? (i := 37) rfl)) (by decide) (backC (W := 0) (rm_st3_3_4 l Z a0 hw b3 c3 r6 r9 r12 r15 (if r15 = (48 : Int32) then (0 : Int32) else 1) h21 n0 (by omega) f385 rfl) hZ (hw _ (List.mem_of_getElem? (i := 37) rfl)) (hw _ (List.mem_of_getElem? (i := 3) rfl)) (by decide) (by decide)) e21 (argsL := [(.ref b3), (.int (3 : Int32)), (.int (3 : Int32)), (.int (4 : Int32))]) (rest := []) rfl rfl pd_10 rfl (by rw [hml]; rfl) (hb hby at_83) (Nat.le_of_eq rfl) (by decide) (by decide) k384
      have k386 : To p.tables e below S0 (T386.setTop (mkF m 86 l383 [(.int (if r15 = (48 : Int32) then (0 : Int32) else 1))])) := k386a
      have N386 := N21.app Nq386
      have e386 : T386.heap = h21 := eq386
      let l388 : Array Slot := #[.val (.int p0), .val (.int p1), .val (.int p2), .val (.int p3), .val (.int p4), .val (.int p5), .val (.ref b3), .val (.ref b17), .val (.int (3 : Int32)), .val (.int (4 : Int32)), .val (.int (if (if r15 = (48 : Int32) then (0 : Int32) else 1) = (0 : Int32) then (4 : Int32) else (3 : Int32)))]
      refine joinT (S0 := S0) X386 e386 (mkF m 92 l388 []) (fun kont => ?_) (fun T387 X387 e387 k387 => ?_)
      · -- the roads to pc 92
        by_cases hc86_389 : (if r15 = (48 : Int32) then (0 : Int32) else 1) = (0 : Int32)
        · -- pc 86, holds
          have k390 : To p.tables e below S0 (T386.setTop (mkF m 92 l383 [])) := fun tt hq => k386 tt (by
            show Steps _ _ _ (T386.setTop (mkF m 86 l383 [(.int (if r15 = (48 : Int32) then (0 : Int32) else 1))])) _
            refine XS.ifYes X386.here hx rfl (pc0 := 86) (pc' := 92) rfl (hb hby at_86) rfl ((if0 _ _).trans (teq hc86_389).1) (by decide) (by decide) ?_
            show Steps _ _ _ (T386.setTop (mkF m 92 l383 [])) _
            exact hq)
          exact kont T386 X386 e386 (fun tt hq => k390 tt (by simpa only [if_pos hc86_389, l383, l388] using hq))
        · -- pc 86, holds not
          let l391 : Array Slot := #[.val (.int p0), .val (.int p1), .val (.int p2), .val (.int p3), .val (.int p4), .val (.int p5), .val (.ref b3), .val (.ref b17), .val (.int (3 : Int32)), .val (.int (4 : Int32)), .val (.int (3 : Int32))]
          have k392 : To p.tables e below S0 (T386.setTop (mkF m 92 l391 [])) := fun tt hq => k386 tt (by
            show Steps _ _ _ (T386.setTop (mkF m 86 l383 [(.int (if r15 = (48 : Int32) then (0 : Int32) else 1))])) _
            refine XS.ifNo X386.here hx rfl (hb hby at_86) rfl ((if0 _ _).trans (feq hc86_389).1) ?_
            show Steps _ _ _ (T386.setTop (mkF m 89 l383 [])) _
            refine XS.iconst X386.here hx rfl (hb hby at_89) ?_
            show Steps _ _ _ (T386.setTop (mkF m 90 l383 [(.int (3 : Int32))])) _
            refine XS.istore X386.here hx rfl (hb hby at_90) rfl (l' := l391) rfl ?_
            show Steps _ _ _ (T386.setTop (mkF m 92 l391 [])) _
            exact hq)
          exact kont T386 X386 e386 (fun tt hq => k392 tt (by simpa only [if_neg hc86_389, l391, l388] using hq))
      have k393 : To p.tables e below S0 (T387.setTop (mkF m 99 l388 [(.int (4 : Int32)), (.int (3 : Int32)), (.int (2 : Int32)), (.ref b3)])) := fun tt hq => k387 tt (by
        show Steps _ _ _ (T387.setTop (mkF m 92 l388 [])) _
        refine XS.aload X387.here hx rfl (hb hby at_92) rfl rfl ?_
        show Steps _ _ _ (T387.setTop (mkF m 94 l388 [(.ref b3)])) _
        refine XS.iconst X387.here hx rfl (hb hby at_94) ?_
        show Steps _ _ _ (T387.setTop (mkF m 95 l388 [(.int (2 : Int32)), (.ref b3)])) _
        refine XS.iload X387.here hx rfl (hb hby at_95) rfl ?_
        show Steps _ _ _ (T387.setTop (mkF m 97 l388 [(.int (3 : Int32)), (.int (2 : Int32)), (.ref b3)])) _
        refine XS.iload X387.here hx rfl (hb hby at_97) rfl ?_
        show Steps _ _ _ (T387.setTop (mkF m 99 l388 [(.int (4 : Int32)), (.int (3 : Int32)), (.int (2 : Int32)), (.ref b3)])) _
        exact hq)
      obtain ⟨_, T394, L394, X394, ⟨rfl, Nq394, eq394⟩, k394a⟩ := callS' X387 hx hZ (y := (⟨"com/example/apportion/apportion/input/DecimalsFirstWholeDigitPinLaw", "stops", "([CIII)Z"⟩ : MethodName)) hown (hw _ (List.mem_of_getElem? (i := 35) rfl)) (hw _ (List.mem_of_getElem? (i := 36) rfl)) (hw _ (List.mem_of_getElem? (i := 3) rfl)) (hw _ (List.mem_of_getElem? (i := 37) rfl)) (by decide) (backC (W := 0) (rm_st2_3_4 l Z a0 hw b3 c3 r6 r9 r12 r15 (0 : Int32) h21 n0 (by omega) f385 rfl) hZ (hw _ (List.mem_of_getElem? (i := 37) rfl)) (hw _ (List.mem_of_getElem? (i := 3) rfl)) (by decide) (by decide)) e387 (argsL := [(.ref b3), (.int (2 : Int32)), (.int (3 : Int32)), (.int (4 : Int32))]) (rest := []) rfl rfl pd_10 rfl (by rw [hml]; rfl) (hb hby at_99) (Nat.le_of_eq rfl) (by decide) (by decide) k393
      have k394 : To p.tables e below S0 (T394.setTop (mkF m 102 l388 [(.int (0 : Int32))])) := k394a
      have N394 := N386.app Nq394
      have e394 : T394.heap = h21 := eq394
      have k395 : To p.tables e below S0 (T394.setTop (mkF m 115 l388 [(.int (4 : Int32)), (.int (3 : Int32)), (.int (1 : Int32)), (.ref b3)])) := fun tt hq => k394 tt (by
        show Steps _ _ _ (T394.setTop (mkF m 102 l388 [(.int (0 : Int32))])) _
        refine XS.ifYes X394.here hx rfl (pc0 := 102) (pc' := 108) rfl (hb hby at_102) rfl ((if0 _ _).trans (teq (by decide)).1) (by decide) (by decide) ?_
        show Steps _ _ _ (T394.setTop (mkF m 108 l388 [])) _
        refine XS.aload X394.here hx rfl (hb hby at_108) rfl rfl ?_
        show Steps _ _ _ (T394.setTop (mkF m 110 l388 [(.ref b3)])) _
        refine XS.iconst X394.here hx rfl (hb hby at_110) ?_
        show Steps _ _ _ (T394.setTop (mkF m 111 l388 [(.int (1 : Int32)), (.ref b3)])) _
        refine XS.iload X394.here hx rfl (hb hby at_111) rfl ?_
        show Steps _ _ _ (T394.setTop (mkF m 113 l388 [(.int (3 : Int32)), (.int (1 : Int32)), (.ref b3)])) _
        refine XS.iload X394.here hx rfl (hb hby at_113) rfl ?_
        show Steps _ _ _ (T394.setTop (mkF m 115 l388 [(.int (4 : Int32)), (.int (3 : Int32)), (.int (1 : Int32)), (.ref b3)])) _
        exact hq)
      obtain ⟨_, T396, L396, X396, ⟨rfl, Nq396, eq396⟩, k396a⟩ := callS' X394 hx hZ (y := (⟨"com/example/apportion/apportion/input/DecimalsFirstWholeDigitPinLaw", "stops", "([CIII)Z"⟩ : MethodName)) hown (hw _ (List.mem_of_getElem? (i := 35) rfl)) (hw _ (List.mem_of_getElem? (i := 36) rfl)) (hw _ (List.mem_of_getElem? (i := 3) rfl)) (hw _ (List.mem_of_getElem? (i := 37) rfl)) (by decide) (backC (W := 0) (rm_st1_3_4 l Z a0 hw b3 c3 r6 r9 r12 r15 (0 : Int32) h21 n0 (by omega) f385 rfl) hZ (hw _ (List.mem_of_getElem? (i := 37) rfl)) (hw _ (List.mem_of_getElem? (i := 3) rfl)) (by decide) (by decide)) e394 (argsL := [(.ref b3), (.int (1 : Int32)), (.int (3 : Int32)), (.int (4 : Int32))]) (rest := []) rfl rfl pd_10 rfl (by rw [hml]; rfl) (hb hby at_115) (Nat.le_of_eq rfl) (by decide) (by decide) k395
      have k396 : To p.tables e below S0 (T396.setTop (mkF m 118 l388 [(.int (0 : Int32))])) := k396a
      have N396 := N394.app Nq396
      have e396 : T396.heap = h21 := eq396
      have k397 : To p.tables e below S0 (T396.setTop (mkF m 131 l388 [(.int (4 : Int32)), (.int (3 : Int32)), (.int (0 : Int32)), (.ref b3)])) := fun tt hq => k396 tt (by
        show Steps _ _ _ (T396.setTop (mkF m 118 l388 [(.int (0 : Int32))])) _
        refine XS.ifYes X396.here hx rfl (pc0 := 118) (pc' := 124) rfl (hb hby at_118) rfl ((if0 _ _).trans (teq (by decide)).1) (by decide) (by decide) ?_
        show Steps _ _ _ (T396.setTop (mkF m 124 l388 [])) _
        refine XS.aload X396.here hx rfl (hb hby at_124) rfl rfl ?_
        show Steps _ _ _ (T396.setTop (mkF m 126 l388 [(.ref b3)])) _
        refine XS.iconst X396.here hx rfl (hb hby at_126) ?_
        show Steps _ _ _ (T396.setTop (mkF m 127 l388 [(.int (0 : Int32)), (.ref b3)])) _
        refine XS.iload X396.here hx rfl (hb hby at_127) rfl ?_
        show Steps _ _ _ (T396.setTop (mkF m 129 l388 [(.int (3 : Int32)), (.int (0 : Int32)), (.ref b3)])) _
        refine XS.iload X396.here hx rfl (hb hby at_129) rfl ?_
        show Steps _ _ _ (T396.setTop (mkF m 131 l388 [(.int (4 : Int32)), (.int (3 : Int32)), (.int (0 : Int32)), (.ref b3)])) _
        exact hq)
      obtain ⟨_, T398, L398, X398, ⟨rfl, Nq398, eq398⟩, k398a⟩ := callS' X396 hx hZ (y := (⟨"com/example/apportion/apportion/input/DecimalsFirstWholeDigitPinLaw", "stops", "([CIII)Z"⟩ : MethodName)) hown (hw _ (List.mem_of_getElem? (i := 35) rfl)) (hw _ (List.mem_of_getElem? (i := 36) rfl)) (hw _ (List.mem_of_getElem? (i := 3) rfl)) (hw _ (List.mem_of_getElem? (i := 37) rfl)) (by decide) (backC (W := 0) (rm_st0_3_4 l Z a0 hw b3 c3 r6 r9 r12 r15 (0 : Int32) h21 n0 (by omega) f385 rfl) hZ (hw _ (List.mem_of_getElem? (i := 37) rfl)) (hw _ (List.mem_of_getElem? (i := 3) rfl)) (by decide) (by decide)) e396 (argsL := [(.ref b3), (.int (0 : Int32)), (.int (3 : Int32)), (.int (4 : Int32))]) (rest := []) rfl rfl pd_10 rfl (by rw [hml]; rfl) (hb hby at_131) (Nat.le_of_eq rfl) (by decide) (by decide) k397
      have k398 : To p.tables e below S0 (T398.setTop (mkF m 134 l388 [(.int (0 : Int32))])) := k398a
      have N398 := N396.app Nq398
      have e398 : T398.heap = h21 := eq398
      have k399 : To p.tables e below S0 (T398.setTop (mkF m 146 l388 [(.int (4 : Int32)), (.int (3 : Int32)), (.ref b17)])) := fun tt hq => k398 tt (by
        show Steps _ _ _ (T398.setTop (mkF m 134 l388 [(.int (0 : Int32))])) _
        refine XS.ifYes X398.here hx rfl (pc0 := 134) (pc' := 140) rfl (hb hby at_134) rfl ((if0 _ _).trans (teq (by decide)).1) (by decide) (by decide) ?_
        show Steps _ _ _ (T398.setTop (mkF m 140 l388 [])) _
        refine XS.aload X398.here hx rfl (hb hby at_140) rfl rfl ?_
        show Steps _ _ _ (T398.setTop (mkF m 142 l388 [(.ref b17)])) _
        refine XS.iload X398.here hx rfl (hb hby at_142) rfl ?_
        show Steps _ _ _ (T398.setTop (mkF m 144 l388 [(.int (3 : Int32)), (.ref b17)])) _
        refine XS.iload X398.here hx rfl (hb hby at_144) rfl ?_
        show Steps _ _ _ (T398.setTop (mkF m 146 l388 [(.int (4 : Int32)), (.int (3 : Int32)), (.ref b17)])) _
        exact hq)
      have f400 : Old Z n0 h21 := (f19.keep Kq21 (allS (by omega) all0))
      obtain ⟨_, T401, L401, X401, ⟨rfl, Nq401, eq401⟩, k401a⟩ := callS' X398 hx hZ (y := (⟨"com/example/apportion/apportion/input/Decimals", "firstWholeDigit", "(Ljava/lang/String;II)I"⟩ : MethodName)) hown (hw _ (List.mem_of_getElem? (i := 38) rfl)) (hw _ (List.mem_of_getElem? (i := 39) rfl)) (hw _ (List.mem_of_getElem? (i := 40) rfl)) (hw _ (List.mem_of_getElem? (i := 41) rfl)) (by decide) (backC (W := 0) (rm_fwd3_4 l Z a0 hw zc fm b17 t21 kt21 r6 r9 r12 r15 (if r15 = (48 : Int32) then (4 : Int32) else (3 : Int32)) h21 n0 (by omega) S_c hzc S_f hfm f400 P210 P211 P212 P213 hr6 hr9 hr12 hr15 rfl) hZ (hw _ (List.mem_of_getElem? (i := 41) rfl)) (hw _ (List.mem_of_getElem? (i := 40) rfl)) (by decide) (by decide)) e398 (argsL := [(.ref b17), (.int (3 : Int32)), (.int (4 : Int32))]) (rest := []) rfl rfl pd_11 rfl (by rw [hml]; rfl) (hb hby at_146) (Nat.le_of_eq rfl) (by decide) (by decide) k399
      have k401 : To p.tables e below S0 (T401.setTop (mkF m 149 l388 [(.int (if r15 = (48 : Int32) then (4 : Int32) else (3 : Int32)))])) := k401a
      have N401 := N398.app Nq401
      have e401 : T401.heap = h21 := eq401
      have k402 : To p.tables e below S0 (T401.setTop (mkF m 151 l388 [(.int (if (if r15 = (48 : Int32) then (0 : Int32) else 1) = (0 : Int32) then (4 : Int32) else (3 : Int32))), (.int (if r15 = (48 : Int32) then (4 : Int32) else (3 : Int32)))])) := fun tt hq => k401 tt (by
        show Steps _ _ _ (T401.setTop (mkF m 149 l388 [(.int (if r15 = (48 : Int32) then (4 : Int32) else (3 : Int32)))])) _
        refine XS.iload X401.here hx rfl (hb hby at_149) rfl ?_
        show Steps _ _ _ (T401.setTop (mkF m 151 l388 [(.int (if (if r15 = (48 : Int32) then (0 : Int32) else 1) = (0 : Int32) then (4 : Int32) else (3 : Int32))), (.int (if r15 = (48 : Int32) then (4 : Int32) else (3 : Int32)))])) _
        exact hq)
      by_cases hc151_403 : (if r15 = (48 : Int32) then (4 : Int32) else (3 : Int32)) = (if (if r15 = (48 : Int32) then (0 : Int32) else 1) = (0 : Int32) then (4 : Int32) else (3 : Int32))
      · -- pc 151, holds
        have k404 : To p.tables e below S0 (T401.setTop (mkF m 159 l388 [(.int (1 : Int32))])) := fun tt hq => k402 tt (by
          show Steps _ _ _ (T401.setTop (mkF m 151 l388 [(.int (if (if r15 = (48 : Int32) then (0 : Int32) else 1) = (0 : Int32) then (4 : Int32) else (3 : Int32))), (.int (if r15 = (48 : Int32) then (4 : Int32) else (3 : Int32)))])) _
          refine XS.icmpNo X401.here hx rfl (hb hby at_151) rfl (teq hc151_403).2 ?_
          show Steps _ _ _ (T401.setTop (mkF m 154 l388 [])) _
          refine XS.iconst X401.here hx rfl (hb hby at_154) ?_
          show Steps _ _ _ (T401.setTop (mkF m 155 l388 [(.int (1 : Int32))])) _
          refine XS.goto X401.here hx rfl (pc0 := 155) (pc' := 159) rfl (hb hby at_155) (by decide) (by decide) ?_
          show Steps _ _ _ (T401.setTop (mkF m 159 l388 [(.int (1 : Int32))])) _
          exact hq)
        have hE := e401
        refine retInt X401 hx hret hlk (by simp) rfl (hb hby at_159) k404 ?_ (by decide) (by decide)
        try rw [hE]
        exact ⟨rfl, N401⟩
      · -- pc 151, holds not
        exact absurd (by by_cases q3 : r15 = (48 : Int32) <;> simp [q3]) hc151_403
  · -- pc 55: (4 : Int32)
    have k405 : To p.tables e below S0 (T21.setTop (mkF m 55 l22 [(.int (4 : Int32))])) := by have hq := k23; rw [ht24] at hq; exact hq
    let l406 : Array Slot := #[.val (.int p0), .val (.int p1), .val (.int p2), .val (.int p3), .val (.int p4), .val (.int p5), .val (.ref b3), .val (.ref b17), .val (.int (4 : Int32)), .unset, .unset]
    have k407 : To p.tables e below S0 (T21.setTop (mkF m 69 l406 [(.int ((p5 &&& (2147483647 : Int32)) % (1 : Int32))), (.int (4 : Int32))])) := fun tt hq => k405 tt (by
      show Steps _ _ _ (T21.setTop (mkF m 55 l22 [(.int (4 : Int32))])) _
      refine XS.istore X21.here hx rfl (hb hby at_55) rfl (l' := l406) rfl ?_
      show Steps _ _ _ (T21.setTop (mkF m 57 l406 [])) _
      refine XS.iload X21.here hx rfl (hb hby at_57) rfl ?_
      show Steps _ _ _ (T21.setTop (mkF m 59 l406 [(.int (4 : Int32))])) _
      refine XS.iload X21.here hx rfl (hb hby at_59) rfl ?_
      show Steps _ _ _ (T21.setTop (mkF m 61 l406 [(.int p5), (.int (4 : Int32))])) _
      refine X21.ldcInt hx hown (mvT hZ (hw _ (List.mem_of_getElem? (i := 34) rfl))) (g := (mkF m 61 l406 [(.int p5), (.int (4 : Int32))])) rfl (hb hby at_61) _ ?_
      show Steps _ _ _ (T21.setTop (mkF m 63 l406 [(.int (2147483647 : Int32)), (.int p5), (.int (4 : Int32))])) _
      refine XS.iand X21.here hx rfl (hb hby at_63) rfl ?_
      show Steps _ _ _ (T21.setTop (mkF m 64 l406 [(.int (p5 &&& (2147483647 : Int32))), (.int (4 : Int32))])) _
      refine XS.iconst X21.here hx rfl (hb hby at_64) ?_
      show Steps _ _ _ (T21.setTop (mkF m 65 l406 [(.int (5 : Int32)), (.int (p5 &&& (2147483647 : Int32))), (.int (4 : Int32))])) _
      refine XS.iload X21.here hx rfl (hb hby at_65) rfl ?_
      show Steps _ _ _ (T21.setTop (mkF m 67 l406 [(.int (4 : Int32)), (.int (5 : Int32)), (.int (p5 &&& (2147483647 : Int32))), (.int (4 : Int32))])) _
      refine XS.isub X21.here hx rfl (hb hby at_67) rfl ?_
      show Steps _ _ _ (T21.setTop (mkF m 68 l406 [(.int (1 : Int32)), (.int (p5 &&& (2147483647 : Int32))), (.int (4 : Int32))])) _
      refine iremM X21 hx rfl (hb hby at_68) rfl (by decide) ?_
      show Steps _ _ _ (T21.setTop (mkF m 69 l406 [(.int ((p5 &&& (2147483647 : Int32)) % (1 : Int32))), (.int (4 : Int32))])) _
      exact hq)
    rcases own_md1 p5 with ht408
    · -- pc 69: (0 : Int32)
      have k409 : To p.tables e below S0 (T21.setTop (mkF m 69 l406 [(.int (0 : Int32)), (.int (4 : Int32))])) := by have hq := k407; rw [ht408] at hq; exact hq
      let l410 : Array Slot := #[.val (.int p0), .val (.int p1), .val (.int p2), .val (.int p3), .val (.int p4), .val (.int p5), .val (.ref b3), .val (.ref b17), .val (.int (4 : Int32)), .val (.int (4 : Int32)), .unset]
      let l411 : Array Slot := #[.val (.int p0), .val (.int p1), .val (.int p2), .val (.int p3), .val (.int p4), .val (.int p5), .val (.ref b3), .val (.ref b17), .val (.int (4 : Int32)), .val (.int (4 : Int32)), .val (.int (4 : Int32))]
      have k412 : To p.tables e below S0 (T21.setTop (mkF m 83 l411 [(.int (4 : Int32)), (.int (4 : Int32)), (.int (3 : Int32)), (.ref b3)])) := fun tt hq => k409 tt (by
        show Steps _ _ _ (T21.setTop (mkF m 69 l406 [(.int (0 : Int32)), (.int (4 : Int32))])) _
        refine XS.iadd X21.here hx rfl (hb hby at_69) rfl ?_
        show Steps _ _ _ (T21.setTop (mkF m 70 l406 [(.int (4 : Int32))])) _
        refine XS.istore X21.here hx rfl (hb hby at_70) rfl (l' := l410) rfl ?_
        show Steps _ _ _ (T21.setTop (mkF m 72 l410 [])) _
        refine XS.iload X21.here hx rfl (hb hby at_72) rfl ?_
        show Steps _ _ _ (T21.setTop (mkF m 74 l410 [(.int (4 : Int32))])) _
        refine XS.istore X21.here hx rfl (hb hby at_74) rfl (l' := l411) rfl ?_
        show Steps _ _ _ (T21.setTop (mkF m 76 l411 [])) _
        refine XS.aload X21.here hx rfl (hb hby at_76) rfl rfl ?_
        show Steps _ _ _ (T21.setTop (mkF m 78 l411 [(.ref b3)])) _
        refine XS.iconst X21.here hx rfl (hb hby at_78) ?_
        show Steps _ _ _ (T21.setTop (mkF m 79 l411 [(.int (3 : Int32)), (.ref b3)])) _
        refine XS.iload X21.here hx rfl (hb hby at_79) rfl ?_
        show Steps _ _ _ (T21.setTop (mkF m 81 l411 [(.int (4 : Int32)), (.int (3 : Int32)), (.ref b3)])) _
        refine XS.iload X21.here hx rfl (hb hby at_81) rfl ?_
        show Steps _ _ _ (T21.setTop (mkF m 83 l411 [(.int (4 : Int32)), (.int (4 : Int32)), (.int (3 : Int32)), (.ref b3)])) _
        exact hq)
      have f413 : Arv Z h21 b3 c3 .char (4 : Int32) [(.int r6), (.int r9), (.int r12), (.int r15)] (.int (0 : Int32)) := (f20.keep Kq21 (ninS (adr_ne (by omega)) nin0))
      obtain ⟨_, T414, L414, X414, ⟨rfl, Nq414, eq414⟩, k414a⟩ := callS' X21 hx hZ (y := (⟨"com/example/apportion/apportion/input/DecimalsFirstWholeDigitPinLaw", "stops", "([CIII)Z"⟩ : MethodName)) hown (hw _ (List.mem_of_getElem? (i := 35) rfl)) (hw _ (List.mem_of_getElem? (i := 36) rfl)) (hw _ (List.mem_of_getElem? (i := 3) rfl)) (hw _ (List.mem_of_getElem? (i := 37) rfl)) (by decide) (backC (W := 0) (rm_st3_4_4 l Z a0 hw b3 c3 r6 r9 r12 r15 (0 : Int32) h21 n0 (by omega) f413 rfl) hZ (hw _ (List.mem_of_getElem? (i := 37) rfl)) (hw _ (List.mem_of_getElem? (i := 3) rfl)) (by decide) (by decide)) e21 (argsL := [(.ref b3), (.int (3 : Int32)), (.int (4 : Int32)), (.int (4 : Int32))]) (rest := []) rfl rfl pd_10 rfl (by rw [hml]; rfl) (hb hby at_83) (Nat.le_of_eq rfl) (by decide) (by decide) k412
      have k414 : To p.tables e below S0 (T414.setTop (mkF m 86 l411 [(.int (0 : Int32))])) := k414a
      have N414 := N21.app Nq414
      have e414 : T414.heap = h21 := eq414
      have k415 : To p.tables e below S0 (T414.setTop (mkF m 99 l411 [(.int (4 : Int32)), (.int (4 : Int32)), (.int (2 : Int32)), (.ref b3)])) := fun tt hq => k414 tt (by
        show Steps _ _ _ (T414.setTop (mkF m 86 l411 [(.int (0 : Int32))])) _
        refine XS.ifYes X414.here hx rfl (pc0 := 86) (pc' := 92) rfl (hb hby at_86) rfl ((if0 _ _).trans (teq (by decide)).1) (by decide) (by decide) ?_
        show Steps _ _ _ (T414.setTop (mkF m 92 l411 [])) _
        refine XS.aload X414.here hx rfl (hb hby at_92) rfl rfl ?_
        show Steps _ _ _ (T414.setTop (mkF m 94 l411 [(.ref b3)])) _
        refine XS.iconst X414.here hx rfl (hb hby at_94) ?_
        show Steps _ _ _ (T414.setTop (mkF m 95 l411 [(.int (2 : Int32)), (.ref b3)])) _
        refine XS.iload X414.here hx rfl (hb hby at_95) rfl ?_
        show Steps _ _ _ (T414.setTop (mkF m 97 l411 [(.int (4 : Int32)), (.int (2 : Int32)), (.ref b3)])) _
        refine XS.iload X414.here hx rfl (hb hby at_97) rfl ?_
        show Steps _ _ _ (T414.setTop (mkF m 99 l411 [(.int (4 : Int32)), (.int (4 : Int32)), (.int (2 : Int32)), (.ref b3)])) _
        exact hq)
      obtain ⟨_, T416, L416, X416, ⟨rfl, Nq416, eq416⟩, k416a⟩ := callS' X414 hx hZ (y := (⟨"com/example/apportion/apportion/input/DecimalsFirstWholeDigitPinLaw", "stops", "([CIII)Z"⟩ : MethodName)) hown (hw _ (List.mem_of_getElem? (i := 35) rfl)) (hw _ (List.mem_of_getElem? (i := 36) rfl)) (hw _ (List.mem_of_getElem? (i := 3) rfl)) (hw _ (List.mem_of_getElem? (i := 37) rfl)) (by decide) (backC (W := 0) (rm_st2_4_4 l Z a0 hw b3 c3 r6 r9 r12 r15 (0 : Int32) h21 n0 (by omega) f413 rfl) hZ (hw _ (List.mem_of_getElem? (i := 37) rfl)) (hw _ (List.mem_of_getElem? (i := 3) rfl)) (by decide) (by decide)) e414 (argsL := [(.ref b3), (.int (2 : Int32)), (.int (4 : Int32)), (.int (4 : Int32))]) (rest := []) rfl rfl pd_10 rfl (by rw [hml]; rfl) (hb hby at_99) (Nat.le_of_eq rfl) (by decide) (by decide) k415
      have k416 : To p.tables e below S0 (T416.setTop (mkF m 102 l411 [(.int (0 : Int32))])) := k416a
      have N416 := N414.app Nq416
      have e416 : T416.heap = h21 := eq416
      have k417 : To p.tables e below S0 (T416.setTop (mkF m 115 l411 [(.int (4 : Int32)), (.int (4 : Int32)), (.int (1 : Int32)), (.ref b3)])) := fun tt hq => k416 tt (by
        show Steps _ _ _ (T416.setTop (mkF m 102 l411 [(.int (0 : Int32))])) _
        refine XS.ifYes X416.here hx rfl (pc0 := 102) (pc' := 108) rfl (hb hby at_102) rfl ((if0 _ _).trans (teq (by decide)).1) (by decide) (by decide) ?_
        show Steps _ _ _ (T416.setTop (mkF m 108 l411 [])) _
        refine XS.aload X416.here hx rfl (hb hby at_108) rfl rfl ?_
        show Steps _ _ _ (T416.setTop (mkF m 110 l411 [(.ref b3)])) _
        refine XS.iconst X416.here hx rfl (hb hby at_110) ?_
        show Steps _ _ _ (T416.setTop (mkF m 111 l411 [(.int (1 : Int32)), (.ref b3)])) _
        refine XS.iload X416.here hx rfl (hb hby at_111) rfl ?_
        show Steps _ _ _ (T416.setTop (mkF m 113 l411 [(.int (4 : Int32)), (.int (1 : Int32)), (.ref b3)])) _
        refine XS.iload X416.here hx rfl (hb hby at_113) rfl ?_
        show Steps _ _ _ (T416.setTop (mkF m 115 l411 [(.int (4 : Int32)), (.int (4 : Int32)), (.int (1 : Int32)), (.ref b3)])) _
        exact hq)
      obtain ⟨_, T418, L418, X418, ⟨rfl, Nq418, eq418⟩, k418a⟩ := callS' X416 hx hZ (y := (⟨"com/example/apportion/apportion/input/DecimalsFirstWholeDigitPinLaw", "stops", "([CIII)Z"⟩ : MethodName)) hown (hw _ (List.mem_of_getElem? (i := 35) rfl)) (hw _ (List.mem_of_getElem? (i := 36) rfl)) (hw _ (List.mem_of_getElem? (i := 3) rfl)) (hw _ (List.mem_of_getElem? (i := 37) rfl)) (by decide) (backC (W := 0) (rm_st1_4_4 l Z a0 hw b3 c3 r6 r9 r12 r15 (0 : Int32) h21 n0 (by omega) f413 rfl) hZ (hw _ (List.mem_of_getElem? (i := 37) rfl)) (hw _ (List.mem_of_getElem? (i := 3) rfl)) (by decide) (by decide)) e416 (argsL := [(.ref b3), (.int (1 : Int32)), (.int (4 : Int32)), (.int (4 : Int32))]) (rest := []) rfl rfl pd_10 rfl (by rw [hml]; rfl) (hb hby at_115) (Nat.le_of_eq rfl) (by decide) (by decide) k417
      have k418 : To p.tables e below S0 (T418.setTop (mkF m 118 l411 [(.int (0 : Int32))])) := k418a
      have N418 := N416.app Nq418
      have e418 : T418.heap = h21 := eq418
      have k419 : To p.tables e below S0 (T418.setTop (mkF m 131 l411 [(.int (4 : Int32)), (.int (4 : Int32)), (.int (0 : Int32)), (.ref b3)])) := fun tt hq => k418 tt (by
        show Steps _ _ _ (T418.setTop (mkF m 118 l411 [(.int (0 : Int32))])) _
        refine XS.ifYes X418.here hx rfl (pc0 := 118) (pc' := 124) rfl (hb hby at_118) rfl ((if0 _ _).trans (teq (by decide)).1) (by decide) (by decide) ?_
        show Steps _ _ _ (T418.setTop (mkF m 124 l411 [])) _
        refine XS.aload X418.here hx rfl (hb hby at_124) rfl rfl ?_
        show Steps _ _ _ (T418.setTop (mkF m 126 l411 [(.ref b3)])) _
        refine XS.iconst X418.here hx rfl (hb hby at_126) ?_
        show Steps _ _ _ (T418.setTop (mkF m 127 l411 [(.int (0 : Int32)), (.ref b3)])) _
        refine XS.iload X418.here hx rfl (hb hby at_127) rfl ?_
        show Steps _ _ _ (T418.setTop (mkF m 129 l411 [(.int (4 : Int32)), (.int (0 : Int32)), (.ref b3)])) _
        refine XS.iload X418.here hx rfl (hb hby at_129) rfl ?_
        show Steps _ _ _ (T418.setTop (mkF m 131 l411 [(.int (4 : Int32)), (.int (4 : Int32)), (.int (0 : Int32)), (.ref b3)])) _
        exact hq)
      obtain ⟨_, T420, L420, X420, ⟨rfl, Nq420, eq420⟩, k420a⟩ := callS' X418 hx hZ (y := (⟨"com/example/apportion/apportion/input/DecimalsFirstWholeDigitPinLaw", "stops", "([CIII)Z"⟩ : MethodName)) hown (hw _ (List.mem_of_getElem? (i := 35) rfl)) (hw _ (List.mem_of_getElem? (i := 36) rfl)) (hw _ (List.mem_of_getElem? (i := 3) rfl)) (hw _ (List.mem_of_getElem? (i := 37) rfl)) (by decide) (backC (W := 0) (rm_st0_4_4 l Z a0 hw b3 c3 r6 r9 r12 r15 (0 : Int32) h21 n0 (by omega) f413 rfl) hZ (hw _ (List.mem_of_getElem? (i := 37) rfl)) (hw _ (List.mem_of_getElem? (i := 3) rfl)) (by decide) (by decide)) e418 (argsL := [(.ref b3), (.int (0 : Int32)), (.int (4 : Int32)), (.int (4 : Int32))]) (rest := []) rfl rfl pd_10 rfl (by rw [hml]; rfl) (hb hby at_131) (Nat.le_of_eq rfl) (by decide) (by decide) k419
      have k420 : To p.tables e below S0 (T420.setTop (mkF m 134 l411 [(.int (0 : Int32))])) := k420a
      have N420 := N418.app Nq420
      have e420 : T420.heap = h21 := eq420
      have k421 : To p.tables e below S0 (T420.setTop (mkF m 146 l411 [(.int (4 : Int32)), (.int (4 : Int32)), (.ref b17)])) := fun tt hq => k420 tt (by
        show Steps _ _ _ (T420.setTop (mkF m 134 l411 [(.int (0 : Int32))])) _
        refine XS.ifYes X420.here hx rfl (pc0 := 134) (pc' := 140) rfl (hb hby at_134) rfl ((if0 _ _).trans (teq (by decide)).1) (by decide) (by decide) ?_
        show Steps _ _ _ (T420.setTop (mkF m 140 l411 [])) _
        refine XS.aload X420.here hx rfl (hb hby at_140) rfl rfl ?_
        show Steps _ _ _ (T420.setTop (mkF m 142 l411 [(.ref b17)])) _
        refine XS.iload X420.here hx rfl (hb hby at_142) rfl ?_
        show Steps _ _ _ (T420.setTop (mkF m 144 l411 [(.int (4 : Int32)), (.ref b17)])) _
        refine XS.iload X420.here hx rfl (hb hby at_144) rfl ?_
        show Steps _ _ _ (T420.setTop (mkF m 146 l411 [(.int (4 : Int32)), (.int (4 : Int32)), (.ref b17)])) _
        exact hq)
      have f422 : Old Z n0 h21 := (f19.keep Kq21 (allS (by omega) all0))
      obtain ⟨_, T423, L423, X423, ⟨rfl, Nq423, eq423⟩, k423a⟩ := callS' X420 hx hZ (y := (⟨"com/example/apportion/apportion/input/Decimals", "firstWholeDigit", "(Ljava/lang/String;II)I"⟩ : MethodName)) hown (hw _ (List.mem_of_getElem? (i := 38) rfl)) (hw _ (List.mem_of_getElem? (i := 39) rfl)) (hw _ (List.mem_of_getElem? (i := 40) rfl)) (hw _ (List.mem_of_getElem? (i := 41) rfl)) (by decide) (backC (W := 0) (rm_fwd4_4 l Z a0 hw zc fm b17 t21 kt21 r6 r9 r12 r15 (4 : Int32) h21 n0 (by omega) S_c hzc S_f hfm f422 P210 P211 P212 P213 hr6 hr9 hr12 hr15 rfl) hZ (hw _ (List.mem_of_getElem? (i := 41) rfl)) (hw _ (List.mem_of_getElem? (i := 40) rfl)) (by decide) (by decide)) e420 (argsL := [(.ref b17), (.int (4 : Int32)), (.int (4 : Int32))]) (rest := []) rfl rfl pd_11 rfl (by rw [hml]; rfl) (hb hby at_146) (Nat.le_of_eq rfl) (by decide) (by decide) k421
      have k423 : To p.tables e below S0 (T423.setTop (mkF m 149 l411 [(.int (4 : Int32))])) := k423a
      have N423 := N420.app Nq423
      have e423 : T423.heap = h21 := eq423
      have k424 : To p.tables e below S0 (T423.setTop (mkF m 159 l411 [(.int (1 : Int32))])) := fun tt hq => k423 tt (by
        show Steps _ _ _ (T423.setTop (mkF m 149 l411 [(.int (4 : Int32))])) _
        refine XS.iload X423.here hx rfl (hb hby at_149) rfl ?_
        show Steps _ _ _ (T423.setTop (mkF m 151 l411 [(.int (4 : Int32)), (.int (4 : Int32))])) _
        refine XS.icmpNo X423.here hx rfl (hb hby at_151) rfl (teq (by decide)).2 ?_
        show Steps _ _ _ (T423.setTop (mkF m 154 l411 [])) _
        refine XS.iconst X423.here hx rfl (hb hby at_154) ?_
        show Steps _ _ _ (T423.setTop (mkF m 155 l411 [(.int (1 : Int32))])) _
        refine XS.goto X423.here hx rfl (pc0 := 155) (pc' := 159) rfl (hb hby at_155) (by decide) (by decide) ?_
        show Steps _ _ _ (T423.setTop (mkF m 159 l411 [(.int (1 : Int32))])) _
        exact hq)
      have hE := e423
      refine retInt X423 hx hret hlk (by simp) rfl (hb hby at_159) k424 ?_ (by decide) (by decide)
      try rw [hE]
      exact ⟨rfl, N423⟩
set_option maxRecDepth 65536 in
set_option maxHeartbeats 40000000 in
theorem comes_1 {Post : Tables → Env → Array Value → State → Outcome → State → Prop} (hpost : ∀ tb e args s v u, (limb_1_1.after args s (.returned v) u = true ∧ limb_1_2.after args s (.returned v) u = true ∧ True) → FrameEnd s (.returned v) u (Jvm.fieldLocs frame_1_writes args s ++ Jvm.arrayLocs frame_1_arrays args s ++ Jvm.staticLocs frame_1_statics s) 16 128 → Post tb e args s (.returned v) u) :
    ArmFor flags0 classFile x code maxLocals ret World_1 tables_1 room_1 Calls_1 rest_1 Pre_1 Post := by
  intro l hfl _ _ p e ha hc hk s m args below hf hA hF happ hP
  obtain ⟨hcalls, hrest, hpre⟩ := hP
  obtain ⟨-, -, -, hnamed, -, -, -, hat⟩ := (Spec.applies_iff hf).mp happ
  obtain ⟨hg, hn⟩ := and_e (Cond.before_iff.mp (show (Jvm.Cond.and given_1 narrow_1).before args s = true from hpre))
  obtain ⟨u1, u2⟩ := and_e hg
  obtain ⟨u3, u4⟩ := and_e u2
  obtain ⟨u5, u6⟩ := and_e u4
  obtain ⟨u7, u8⟩ := and_e u6
  obtain ⟨u9, u10⟩ := and_e u8
  obtain ⟨u11, u12⟩ := and_e u10
  obtain ⟨w0, w1, w2, w3, w4, w5, rfl⟩ : ∃ w0 w1 w2 w3 w4 w5 : Value, args = #[w0, w1, w2, w3, w4, w5] := by
    have hs : args.size = 6 := by simpa [Cond.value, given_1] using u1
    obtain ⟨L⟩ := args
    match L, hs with
    | [w0, w1, w2, w3, w4, w5], _ => exact ⟨w0, w1, w2, w3, w4, w5, rfl⟩
  have hw := fun d (hd : d ∈ tables_1) => atoms_spec (ws := Jvm.Cond.code x code maxLocals ret :: tables_1) hat d (List.mem_cons_of_mem _ hd)
  have hfit : Fit s := fun {y c} hc i hi => by
    obtain ⟨ha, rfl⟩ := Array.getElem?_eq_some_iff.mp hc
    have q := List.all_eq_true.mp ((Array.all_eq_true_iff_forall_mem.mp hF) _ (Array.getElem_mem ha)) i (List.mem_range.mpr hi)
    simpa [Array.getElem?_eq_getElem hi] using q
  obtain ⟨hsets, hown0⟩ := atoms_of _ (rest_1_c_eq ▸ (show rest_1_c.before _ s = true from hrest))
  obtain ⟨i0, ei0⟩ := is_v u3
  obtain rfl : w0 = (.int i0) := Option.some.inj ei0
  obtain ⟨i1, ei1⟩ := is_v u5
  obtain rfl : w1 = (.int i1) := Option.some.inj ei1
  obtain ⟨i2, ei2⟩ := is_v u7
  obtain rfl : w2 = (.int i2) := Option.some.inj ei2
  obtain ⟨i3, ei3⟩ := is_v u9
  obtain rfl : w3 = (.int i3) := Option.some.inj ei3
  obtain ⟨i4, ei4⟩ := is_v u11
  obtain rfl : w4 = (.int i4) := Option.some.inj ei4
  obtain ⟨i5, ei5⟩ := is_v u12
  obtain rfl : w5 = (.int i5) := Option.some.inj ei5
  obtain ⟨zc, ezc⟩ := is_v (Cond.before_iff.mp (hsets _ (List.mem_of_getElem? (i := 1) rfl)))
  have S_c := Sta.start ezc (Or.inl (hsets _ (List.mem_of_getElem? (i := 0) rfl)))
  have hzc : ¬ zc = (0 : Int32) := own_nz ezc (Cond.before_iff.mp (hsets _ (List.mem_of_getElem? (i := 2) rfl)))
  obtain ⟨fm, efm, hfm⟩ := isR_v (Cond.before_iff.mp (hsets _ (List.mem_of_getElem? (i := 8) rfl)))
  have S_f := Sta.start efm (Or.inl (hsets _ (List.mem_of_getElem? (i := 7) rfl)))
  obtain ⟨n, o, h1, h2, h3, _, L, rfl, ⟨rfl, N⟩, hq⟩ := rm0 l s _ hw zc fm i0 i1 i2 i3 i4 i5 s.heap s.heap.size (Nat.le_refl _) S_c hzc S_f hfm (Old.start s) p e ha hc hk s m _ below hf ((Spec.applies_iff_loose hf).mp happ).1 ⟨rfl, State.Warmed39.refl s, rfl⟩ trivial
  refine ⟨n, _, h1, h2, h3, hpost _ _ _ _ _ _ ⟨Cond.after_iff.mpr rfl, Cond.after_iff.mpr (eq_i res_at (Term.int_eval (1)) rfl), trivial⟩ ⟨hq.1, hq.2.1, (hq.2.2.sift fun y hy => Or.inr (N y hy)).mono (by decide) (by decide)⟩⟩
theorem main_1_1 : Claimed_1_1 := comes_1 fun _ _ _ _ _ _ h hF => ⟨h.1, hF⟩
theorem main_1_2 : Claimed_1_2 := comes_1 fun _ _ _ _ _ _ h hF => ⟨h.2.1, hF⟩
end Jvm.Pilot.@@N@@
namespace Jvm.Pilot.@@N@@
open Jvm Jvm.ClassFile Sem Op Lib Jvm.Free Jvm.Stand Jvm.Pilot.@@N@@.Jvm.D
/-! MADE BY PROGRAM (witnessworld.py) out of the Statement's table words and the real class files: 20 classes; the members and pool entries that the words name. The judged class is class 1, her method 1. -/
namespace start1
open Jvm.ClassFile
def u (s : String) : CpInfo := .utf8 (stringToUtf16 s)
/-- a pool by its gaps: so many unusable entries, then the entry; so many at the end -/
def gap : Nat → List CpInfo → List CpInfo
  | 0, r => r
  | n + 1, r => .unusable :: gap n r
def poolList (es : List (Nat × CpInfo)) (last : Nat) : List CpInfo := es.foldr (fun e r => gap e.1 (e.2 :: r)) (gap last [])
def pool (es : List (Nat × CpInfo)) (last : Nat) : Array CpInfo := ⟨poolList es last⟩
def fileOf (pool : Array CpInfo) (this : Nat) (attrs : Array Attribute := #[]) (ms : Array MethodInfo := #[]) (fl : Nat := 33) (sup : Nat := 0) (ifs : Array Nat := #[]) (fds : Array FieldInfo := #[]) : ClassFile where
  minorVersion := 0
  majorVersion := 65
  constantPool := pool
  accessFlags := fl
  thisClass := this
  superClass := sup
  interfaces := ifs
  fields := fds
  methods := ms
  attributes := attrs
def plain (name : String) (sup : Option ClassId) : Class where
  name := name
  kind := .ordinary
  loader := none
  accessFlags := 33
  super := sup
  interfaces := #[]
  cf := none
  fields := #[]
  methods := #[]
  instanceTypes := #[]
  staticTypes := #[]
  resolved := #[]
  callSites := []
  init := .initialized
  statics := none
  mirror := none

def pool0 : Array CpInfo := pool [(5, u "<init>"), (0, u "()V"), (1, .class_ 10), (1, u "java/lang/Object")] 113

def k0c0 : Code := { maxStack := 0, maxLocals := 1, code := object_method_1_code, exceptionTable := #[], attributes := #[] }
def k0m0 : Method := { name := "<init>", desc := "()V", sig := { parameters := [], returnType := none }, accessFlags := 1, code := some k0c0 }
/-- java/lang/Object -/
def k0 : Class := { plain "java/lang/Object" none with
  accessFlags := 33
  interfaces := #[]
  cf := some (fileOf pool0 8 #[] #[{ accessFlags := 1, nameIndex := 5, descriptorIndex := 6, attributes := #[] }] 33 0 #[] #[])
  fields := #[]
  methods := #[k0m0]
  instanceTypes := #[]
  staticTypes := #[]
  resolved := Array.replicate 124 none
  statics := none }

def pool1 : Array CpInfo := pool [(2, .class_ 4), (1, u "java/lang/Object"), (0, u "<init>"), (0, u "()V"), (0, .methodref 8 9), (0, .class_ 10), (0, .nameAndType 11 12), (0, u "com/example/apportion/apportion/input/DecimalsFirstWholeDigitPinLaw"), (0, u "ch"), (0, u "(I)C"), (0, .class_ 14), (0, u "java/lang/String"), (0, .methodref 13 16), (0, .nameAndType 5 17), (0, u "([C)V"), (0, .integer 2147483647), (0, .methodref 8 20), (0, .nameAndType 21 22), (0, u "stops"), (0, u "([CIII)Z"), (0, .methodref 24 25), (0, .class_ 26), (0, .nameAndType 27 28), (0, u "com/example/apportion/apportion/input/Decimals"), (0, u "firstWholeDigit"), (0, u "(Ljava/lang/String;II)I"), (2, u "law"), (0, u "(IIIIII)Z")] 5

def k1m0 : Method := { name := "<init>", desc := "()V", sig := { parameters := [], returnType := none }, accessFlags := 1, code := none }
def k1c1 : Code := { maxStack := 4, maxLocals := 11, code := code, exceptionTable := #[], attributes := #[] }
def k1m1 : Method := { name := "law", desc := "(IIIIII)Z", sig := { parameters := [.int, .int, .int, .int, .int, .int], returnType := some .boolean }, accessFlags := 9, code := some k1c1 }
def k1c2 : Code := { maxStack := 2, maxLocals := 1, code := method_3_code, exceptionTable := #[], attributes := #[] }
def k1m2 : Method := { name := "ch", desc := "(I)C", sig := { parameters := [.int], returnType := some .char }, accessFlags := 10, code := some k1c2 }
def k1c3 : Code := { maxStack := 2, maxLocals := 4, code := method_4_code, exceptionTable := #[], attributes := #[] }
def k1m3 : Method := { name := "stops", desc := "([CIII)Z", sig := { parameters := [(.array .char), .int, .int, .int], returnType := some .boolean }, accessFlags := 10, code := some k1c3 }
/-- com/example/apportion/apportion/input/DecimalsFirstWholeDigitPinLaw -/
def k1 : Class := { plain "com/example/apportion/apportion/input/DecimalsFirstWholeDigitPinLaw" (some 0) with
  accessFlags := 49
  interfaces := #[]
  cf := some (fileOf pool1 8 #[] #[{ accessFlags := 1, nameIndex := 5, descriptorIndex := 6, attributes := #[] }, { accessFlags := 9, nameIndex := 31, descriptorIndex := 32, attributes := #[] }, { accessFlags := 10, nameIndex := 11, descriptorIndex := 12, attributes := #[] }, { accessFlags := 10, nameIndex := 21, descriptorIndex := 22, attributes := #[] }] 49 2 #[] #[])
  fields := #[]
  methods := #[k1m0, k1m1, k1m2, k1m3]
  instanceTypes := #[]
  staticTypes := #[]
  resolved := Array.replicate 38 none
  statics := none }

def pool2 : Array CpInfo := pool [(1, .class_ 2), (0, u "java/io/Serializable"), (0, .class_ 4), (0, u "java/lang/Object")] 2

/-- java/io/Serializable -/
def k2 : Class := { plain "java/io/Serializable" (some 0) with
  accessFlags := 1537
  interfaces := #[]
  cf := some (fileOf pool2 1 #[] #[] 1537 3 #[] #[])
  fields := #[]
  methods := #[]
  instanceTypes := #[]
  staticTypes := #[]
  resolved := Array.replicate 7 none
  statics := none }

def pool3 : Array CpInfo := pool [(1, .class_ 2), (0, u "java/lang/Comparable"), (0, .class_ 4), (0, u "java/lang/Object")] 7

/-- java/lang/Comparable -/
def k3 : Class := { plain "java/lang/Comparable" (some 0) with
  accessFlags := 1537
  interfaces := #[]
  cf := some (fileOf pool3 1 #[] #[] 1537 3 #[] #[])
  fields := #[]
  methods := #[]
  instanceTypes := #[]
  staticTypes := #[]
  resolved := Array.replicate 12 none
  statics := none }

def pool4 : Array CpInfo := pool [(2, .class_ 4), (1, u "java/lang/CharSequence"), (42, .class_ 48), (0, u "java/lang/CharSequence$1CodePointIterator"), (10, .class_ 60), (0, u "java/lang/CharSequence$1CharIterator"), (5, .class_ 67), (0, u "java/lang/Object")] 63

/-- java/lang/CharSequence -/
def k4 : Class := { plain "java/lang/CharSequence" (some 0) with
  accessFlags := 1537
  interfaces := #[]
  cf := some (fileOf pool4 2 #[.nestMembers #[47, 59]] #[] 1537 66 #[] #[])
  fields := #[]
  methods := #[]
  instanceTypes := #[]
  staticTypes := #[]
  resolved := Array.replicate 131 none
  statics := none }

def pool5 : Array CpInfo := pool [(1, .class_ 2), (0, u "java/lang/constant/Constable"), (0, .class_ 4), (0, u "java/lang/Object")] 6

/-- java/lang/constant/Constable -/
def k5 : Class := { plain "java/lang/constant/Constable" (some 0) with
  accessFlags := 1537
  interfaces := #[]
  cf := some (fileOf pool5 1 #[] #[] 1537 3 #[] #[])
  fields := #[]
  methods := #[]
  instanceTypes := #[]
  staticTypes := #[]
  resolved := Array.replicate 11 none
  statics := none }

def pool6 : Array CpInfo := pool [(1, .class_ 2), (0, u "java/lang/constant/ConstantDesc"), (0, .class_ 4), (0, u "java/lang/Object")] 32

/-- java/lang/constant/ConstantDesc -/
def k6 : Class := { plain "java/lang/constant/ConstantDesc" (some 0) with
  accessFlags := 1537
  interfaces := #[]
  cf := some (fileOf pool6 1 #[] #[] 1537 3 #[] #[])
  fields := #[]
  methods := #[]
  instanceTypes := #[]
  staticTypes := #[]
  resolved := Array.replicate 37 none
  statics := none }

def pool7 : Array CpInfo := pool [(1, .methodref 2 3), (0, .class_ 4), (0, .nameAndType 5 6), (0, u "java/lang/Object"), (0, u "<init>"), (0, u "()V"), (2, .fieldref 10 11), (0, .class_ 12), (0, .nameAndType 13 14), (0, u "java/lang/String"), (0, u "value"), (0, u "[B"), (0, .fieldref 10 16), (0, .nameAndType 17 18), (0, u "coder"), (0, u "B"), (2, u "hash"), (0, u "I"), (2, u "hashIsZero"), (0, u "Z"), (0, .methodref 10 28), (0, .nameAndType 5 29), (0, u "([CIILjava/lang/Void;)V"), (8, .fieldref 10 39), (0, .nameAndType 40 26), (0, u "COMPACT_STRINGS"), (1, .class_ 44), (1, u "java/lang/StringUTF16"), (0, u "compress"), (1, .methodref 42 48), (0, .nameAndType 49 50), (0, u "coderFromArrayLen"), (0, u "([BI)B"), (56, .class_ 109), (1, u "java/lang/StringLatin1"), (32, u "()Z"), (34, .methodref 42 178), (0, .nameAndType 45 179), (0, u "([CII)[B"), (183, u "([BI)C"), (27, u "(II)V"), (35, u "(I)C"), (64, .methodref 10 493), (0, .nameAndType 494 142), (0, u "isLatin1"), (0, .methodref 107 496), (0, .nameAndType 497 363), (0, u "charAt"), (3, u "checkIndex"), (73, .class_ 576), (0, u "java/lang/CharSequence"), (22, u "CASE_INSENSITIVE_ORDER"), (0, u "Ljava/util/Comparator;"), (409, u "([C)V"), (42, .fieldref 1054 1055), (0, .class_ 1056), (0, .nameAndType 1057 1058), (0, u "jdk/internal/util/Preconditions"), (0, u "SIOOBE_FORMATTER"), (0, u "Ljava/util/function/BiFunction;"), (0, .methodref 1054 1060), (0, .nameAndType 501 1061), (0, u "(IILjava/util/function/BiFunction;)I"), (39, u "serialPersistentFields"), (0, u "[Ljava/io/ObjectStreamField;"), (0, .class_ 1104), (0, u "java/lang/String$CaseInsensitiveComparator"), (1, .class_ 1107), (0, u "java/io/Serializable"), (0, .class_ 1109), (0, u "java/lang/Comparable"), (0, .class_ 1111), (0, u "java/lang/constant/Constable"), (0, .class_ 1113), (0, u "java/lang/constant/ConstantDesc"), (2, u "serialVersionUID"), (0, u "J"), (3, u "REPL"), (0, u "C"), (2, u "LATIN1"), (1, u "UTF16")] 323

def k7m0 : Method := { name := "<init>", desc := "()V", sig := { parameters := [], returnType := none }, accessFlags := 1, code := none }
def k7c1 : Code := { maxStack := 5, maxLocals := 2, code := jdk_42_method_3_code, exceptionTable := #[], attributes := #[] }
def k7m1 : Method := { name := "<init>", desc := "([C)V", sig := { parameters := [(.array .char)], returnType := none }, accessFlags := 1, code := some k7c1 }
def k7c2 : Code := { maxStack := 2, maxLocals := 2, code := jdk_42_method_56_code, exceptionTable := #[], attributes := #[] }
def k7m2 : Method := { name := "charAt", desc := "(I)C", sig := { parameters := [.int], returnType := some .char }, accessFlags := 1, code := some k7c2 }
def k7c3 : Code := { maxStack := 4, maxLocals := 6, code := jdk_42_method_149_code, exceptionTable := #[], attributes := #[] }
def k7m3 : Method := { name := "<init>", desc := "([CIILjava/lang/Void;)V", sig := { parameters := [(.array .char), .int, .int, (.object "java/lang/Void")], returnType := none }, accessFlags := 2, code := some k7c3 }
def k7c4 : Code := { maxStack := 1, maxLocals := 1, code := jdk_42_method_154_code, exceptionTable := #[], attributes := #[] }
def k7m4 : Method := { name := "isLatin1", desc := "()Z", sig := { parameters := [], returnType := some .boolean }, accessFlags := 0, code := some k7c4 }
def k7c5 : Code := { maxStack := 3, maxLocals := 2, code := jdk_42_method_155_code, exceptionTable := #[], attributes := #[] }
def k7m5 : Method := { name := "checkIndex", desc := "(II)V", sig := { parameters := [.int, .int], returnType := none }, accessFlags := 8, code := some k7c5 }
/-- java/lang/String -/
def k7 : Class := { plain "java/lang/String" (some 0) with
  accessFlags := 49
  interfaces := #[2, 3, 4, 5, 6]
  cf := some (fileOf pool7 10 #[.nestMembers #[1103]] #[{ accessFlags := 1, nameIndex := 5, descriptorIndex := 6, attributes := #[] }, { accessFlags := 1, nameIndex := 5, descriptorIndex := 1010, attributes := #[] }, { accessFlags := 1, nameIndex := 497, descriptorIndex := 427, attributes := #[] }, { accessFlags := 2, nameIndex := 5, descriptorIndex := 29, attributes := #[] }, { accessFlags := 0, nameIndex := 494, descriptorIndex := 142, attributes := #[] }, { accessFlags := 8, nameIndex := 501, descriptorIndex := 391, attributes := #[] }] 49 2 #[1106, 1108, 575, 1110, 1112] #[{ accessFlags := 18, nameIndex := 13, descriptorIndex := 14, attributes := #[] }, { accessFlags := 18, nameIndex := 17, descriptorIndex := 18, attributes := #[] }, { accessFlags := 2, nameIndex := 21, descriptorIndex := 22, attributes := #[] }, { accessFlags := 2, nameIndex := 25, descriptorIndex := 26, attributes := #[] }, { accessFlags := 26, nameIndex := 1116, descriptorIndex := 1117, attributes := #[] }, { accessFlags := 24, nameIndex := 40, descriptorIndex := 26, attributes := #[] }, { accessFlags := 26, nameIndex := 1101, descriptorIndex := 1102, attributes := #[] }, { accessFlags := 26, nameIndex := 1121, descriptorIndex := 1122, attributes := #[] }, { accessFlags := 25, nameIndex := 599, descriptorIndex := 600, attributes := #[] }, { accessFlags := 24, nameIndex := 1125, descriptorIndex := 18, attributes := #[] }, { accessFlags := 24, nameIndex := 1127, descriptorIndex := 18, attributes := #[] }])
  fields := #[{ name := "value", type := (.array .byte), accessFlags := 18, slot := 0, constantValue := 0 }, { name := "coder", type := .byte, accessFlags := 18, slot := 1, constantValue := 0 }, { name := "hash", type := .int, accessFlags := 2, slot := 2, constantValue := 0 }, { name := "hashIsZero", type := .boolean, accessFlags := 2, slot := 3, constantValue := 0 }, { name := "serialVersionUID", type := .long, accessFlags := 26, slot := 0, constantValue := 0 }, { name := "COMPACT_STRINGS", type := .boolean, accessFlags := 24, slot := 1, constantValue := 0 }, { name := "serialPersistentFields", type := (.array (.object "java/io/ObjectStreamField")), accessFlags := 26, slot := 2, constantValue := 0 }, { name := "REPL", type := .char, accessFlags := 26, slot := 3, constantValue := 0 }, { name := "CASE_INSENSITIVE_ORDER", type := (.object "java/util/Comparator"), accessFlags := 25, slot := 4, constantValue := 0 }, { name := "LATIN1", type := .byte, accessFlags := 24, slot := 5, constantValue := 0 }, { name := "UTF16", type := .byte, accessFlags := 24, slot := 6, constantValue := 0 }]
  methods := #[k7m0, k7m1, k7m2, k7m3, k7m4, k7m5]
  instanceTypes := #[(.array .byte), .byte, .int, .boolean]
  staticTypes := #[.long, .boolean, (.array (.object "java/io/ObjectStreamField")), .char, (.object "java/util/Comparator"), .byte, .byte]
  resolved := Array.replicate 1451 none
  statics := some 0 }

def pool8 : Array CpInfo := pool [(6, .class_ 8), (1, u "java/lang/Object"), (0, u "<init>"), (0, u "()V"), (1, .class_ 14), (1, u "java/lang/StringUTF16"), (31, u "$assertionsDisabled"), (0, u "Z"), (13, u "HI_BYTE_SHIFT"), (0, u "I"), (2, u "LO_BYTE_SHIFT"), (49, .methodref 12 116), (0, .nameAndType 117 118), (0, u "compress"), (0, u "([CI[BII)I"), (3, u "([CII)[B"), (138, u "coderFromArrayLen"), (0, u "([BI)B"), (106, .class_ 371), (1, u "java/lang/StringUTF16$LinesSpliterator"), (58, u "MAX_LENGTH"), (196, .class_ 628), (0, u "java/lang/StringUTF16$CodePointsSpliterator"), (0, .class_ 630), (0, u "java/lang/StringUTF16$CharsSpliterator")] 4

def k8m0 : Method := { name := "<init>", desc := "()V", sig := { parameters := [], returnType := none }, accessFlags := 0, code := none }
def k8c1 : Code := { maxStack := 2, maxLocals := 2, code := jdk_52_method_15_code, exceptionTable := #[], attributes := #[] }
def k8m1 : Method := { name := "coderFromArrayLen", desc := "([BI)B", sig := { parameters := [(.array .byte), .int], returnType := some .byte }, accessFlags := 8, code := some k8c1 }
def k8c2 : Code := { maxStack := 5, maxLocals := 6, code := jdk_52_method_16_code, exceptionTable := #[], attributes := #[] }
def k8m2 : Method := { name := "compress", desc := "([CII)[B", sig := { parameters := [(.array .char), .int, .int], returnType := some (.array .byte) }, accessFlags := 9, code := some k8c2 }
def k8c3 : Code := { maxStack := 3, maxLocals := 7, code := jdk_52_method_21_code, exceptionTable := #[], attributes := #[] }
def k8m3 : Method := { name := "compress", desc := "([CI[BII)I", sig := { parameters := [(.array .char), .int, (.array .byte), .int, .int], returnType := some .int }, accessFlags := 9, code := some k8c3 }
/-- java/lang/StringUTF16 -/
def k8 : Class := { plain "java/lang/StringUTF16" (some 0) with
  accessFlags := 48
  interfaces := #[]
  cf := some (fileOf pool8 12 #[.nestMembers #[627, 629, 369]] #[{ accessFlags := 0, nameIndex := 9, descriptorIndex := 10, attributes := #[] }, { accessFlags := 8, nameIndex := 261, descriptorIndex := 262, attributes := #[] }, { accessFlags := 9, nameIndex := 117, descriptorIndex := 122, attributes := #[] }, { accessFlags := 9, nameIndex := 117, descriptorIndex := 118, attributes := #[] }] 48 6 #[] #[{ accessFlags := 26, nameIndex := 61, descriptorIndex := 62, attributes := #[] }, { accessFlags := 26, nameIndex := 65, descriptorIndex := 62, attributes := #[] }, { accessFlags := 24, nameIndex := 430, descriptorIndex := 62, attributes := #[] }, { accessFlags := 4120, nameIndex := 46, descriptorIndex := 47, attributes := #[] }])
  fields := #[{ name := "HI_BYTE_SHIFT", type := .int, accessFlags := 26, slot := 0, constantValue := 0 }, { name := "LO_BYTE_SHIFT", type := .int, accessFlags := 26, slot := 1, constantValue := 0 }, { name := "MAX_LENGTH", type := .int, accessFlags := 24, slot := 2, constantValue := 0 }, { name := "$assertionsDisabled", type := .boolean, accessFlags := 4120, slot := 3, constantValue := 0 }]
  methods := #[k8m0, k8m1, k8m2, k8m3]
  instanceTypes := #[]
  staticTypes := #[.int, .int, .int, .boolean]
  resolved := Array.replicate 635 none
  statics := none }

def pool9 : Array CpInfo := pool [(2, .class_ 4), (1, u "java/lang/Object"), (0, u "<init>"), (0, u "()V"), (42, .class_ 51), (1, u "com/example/apportion/apportion/input/Decimals"), (3, .class_ 57), (1, u "java/lang/String"), (16, .methodref 55 75), (0, .nameAndType 76 77), (0, u "charAt"), (0, u "(I)C"), (7, u "firstWholeDigit"), (0, u "(Ljava/lang/String;II)I")] 2

def k9m0 : Method := { name := "<init>", desc := "()V", sig := { parameters := [], returnType := none }, accessFlags := 2, code := none }
def k9c1 : Code := { maxStack := 2, maxLocals := 4, code := prog_32_method_5_code, exceptionTable := #[], attributes := #[] }
def k9m1 : Method := { name := "firstWholeDigit", desc := "(Ljava/lang/String;II)I", sig := { parameters := [(.object "java/lang/String"), .int, .int], returnType := some .int }, accessFlags := 9, code := some k9c1 }
/-- com/example/apportion/apportion/input/Decimals -/
def k9 : Class := { plain "com/example/apportion/apportion/input/Decimals" (some 0) with
  accessFlags := 49
  interfaces := #[]
  cf := some (fileOf pool9 49 #[] #[{ accessFlags := 2, nameIndex := 5, descriptorIndex := 6, attributes := #[] }, { accessFlags := 9, nameIndex := 85, descriptorIndex := 86, attributes := #[] }] 49 2 #[] #[])
  fields := #[]
  methods := #[k9m0, k9m1]
  instanceTypes := #[]
  staticTypes := #[]
  resolved := Array.replicate 89 none
  statics := none }

def pool10 : Array CpInfo := pool [(1, .class_ 2), (0, u "java/lang/String"), (1, .class_ 6), (1, u "java/lang/Object"), (0, u "<init>"), (0, u "()V"), (0, .methodref 1 10), (0, .nameAndType 11 12), (0, u "checkIndex"), (0, u "(II)V"), (1, .class_ 16), (1, u "java/lang/StringLatin1"), (36, u "([BI)C"), (67, u "$assertionsDisabled"), (0, u "Z"), (98, .class_ 223), (1, u "java/lang/StringLatin1$LinesSpliterator"), (28, u "charAt"), (137, .class_ 391), (0, u "java/lang/StringLatin1$CharsSpliterator")] 3

def k10m0 : Method := { name := "<init>", desc := "()V", sig := { parameters := [], returnType := none }, accessFlags := 0, code := none }
def k10c1 : Code := { maxStack := 2, maxLocals := 2, code := jdk_43_method_2_code, exceptionTable := #[], attributes := #[] }
def k10m1 : Method := { name := "charAt", desc := "([BI)C", sig := { parameters := [(.array .byte), .int], returnType := some .char }, accessFlags := 9, code := some k10c1 }
/-- java/lang/StringLatin1 -/
def k10 : Class := { plain "java/lang/StringLatin1" (some 0) with
  accessFlags := 48
  interfaces := #[]
  cf := some (fileOf pool10 14 #[.nestMembers #[390, 221]] #[{ accessFlags := 0, nameIndex := 7, descriptorIndex := 8, attributes := #[] }, { accessFlags := 9, nameIndex := 252, descriptorIndex := 53, attributes := #[] }] 48 4 #[] #[{ accessFlags := 4120, nameIndex := 121, descriptorIndex := 122, attributes := #[] }])
  fields := #[{ name := "$assertionsDisabled", type := .boolean, accessFlags := 4120, slot := 0, constantValue := 0 }]
  methods := #[k10m0, k10m1]
  instanceTypes := #[]
  staticTypes := #[.boolean]
  resolved := Array.replicate 395 none
  statics := none }

def pool11 : Array CpInfo := pool [(2, .class_ 4), (1, u "java/lang/Object"), (0, u "<init>"), (0, u "()V"), (17, .class_ 26), (1, u "jdk/internal/util/Preconditions"), (6, u "checkIndex"), (21, .class_ 56), (0, u "jdk/internal/util/Preconditions$4"), (57, .class_ 115), (0, u "jdk/internal/util/Preconditions$1"), (7, u "SIOOBE_FORMATTER"), (0, u "Ljava/util/function/BiFunction;"), (0, .class_ 126), (0, u "jdk/internal/util/Preconditions$2"), (3, u "AIOOBE_FORMATTER"), (0, .class_ 132), (0, u "jdk/internal/util/Preconditions$3"), (3, u "IOOBE_FORMATTER"), (41, u "(IILjava/util/function/BiFunction;)I")] 15

def k11m0 : Method := { name := "<init>", desc := "()V", sig := { parameters := [], returnType := none }, accessFlags := 1, code := none }
def k11c1 : Code := { maxStack := 3, maxLocals := 3, code := jdk_41_method_11_code, exceptionTable := #[], attributes := #[] }
def k11m1 : Method := { name := "checkIndex", desc := "(IILjava/util/function/BiFunction;)I", sig := { parameters := [.int, .int, (.object "java/util/function/BiFunction")], returnType := some .int }, accessFlags := 9, code := some k11c1 }
/-- jdk/internal/util/Preconditions -/
def k11 : Class := { plain "jdk/internal/util/Preconditions" (some 0) with
  accessFlags := 33
  interfaces := #[]
  cf := some (fileOf pool11 24 #[.nestMembers #[55, 131, 125, 114]] #[{ accessFlags := 1, nameIndex := 5, descriptorIndex := 6, attributes := #[] }, { accessFlags := 9, nameIndex := 33, descriptorIndex := 178, attributes := #[] }] 33 2 #[] #[{ accessFlags := 25, nameIndex := 123, descriptorIndex := 124, attributes := #[] }, { accessFlags := 25, nameIndex := 130, descriptorIndex := 124, attributes := #[] }, { accessFlags := 25, nameIndex := 136, descriptorIndex := 124, attributes := #[] }])
  fields := #[{ name := "SIOOBE_FORMATTER", type := (.object "java/util/function/BiFunction"), accessFlags := 25, slot := 0, constantValue := 0 }, { name := "AIOOBE_FORMATTER", type := (.object "java/util/function/BiFunction"), accessFlags := 25, slot := 1, constantValue := 0 }, { name := "IOOBE_FORMATTER", type := (.object "java/util/function/BiFunction"), accessFlags := 25, slot := 2, constantValue := 0 }]
  methods := #[k11m0, k11m1]
  instanceTypes := #[]
  staticTypes := #[(.object "java/util/function/BiFunction"), (.object "java/util/function/BiFunction"), (.object "java/util/function/BiFunction")]
  resolved := Array.replicate 194 none
  statics := some 1 }

def pool12 : Array CpInfo := pool [(9, u "<init>"), (6, .class_ 18), (1, u "java/lang/Object"), (0, u "()V"), (1, .class_ 23), (1, u "jdk/internal/util/ArraysSupport"), (0, u "LOG2_ARRAY_LONG_INDEX_SCALE"), (0, u "I"), (2, u "U"), (0, u "Ljdk/internal/misc/Unsafe;"), (8, u "BIG_ENDIAN"), (0, u "Z"), (8, u "LOG2_BYTE_BIT_SIZE"), (4, u "LOG2_ARRAY_INT_INDEX_SCALE"), (54, u "JLA"), (0, u "Ljdk/internal/access/JavaLangAccess;"), (11, u "LOG2_ARRAY_BOOLEAN_INDEX_SCALE"), (9, u "LOG2_ARRAY_BYTE_INDEX_SCALE"), (5, u "LOG2_ARRAY_CHAR_INDEX_SCALE"), (5, u "LOG2_ARRAY_SHORT_INDEX_SCALE"), (18, u "LOG2_ARRAY_FLOAT_INDEX_SCALE"), (24, u "LOG2_ARRAY_DOUBLE_INDEX_SCALE"), (89, u "T_BOOLEAN"), (2, u "T_CHAR"), (1, u "T_FLOAT"), (1, u "T_DOUBLE"), (1, u "T_BYTE"), (1, u "T_SHORT"), (1, u "T_INT"), (1, u "T_LONG"), (1, u "SOFT_MAX_ARRAY_LENGTH")] 83

def k12m0 : Method := { name := "<init>", desc := "()V", sig := { parameters := [], returnType := none }, accessFlags := 2, code := none }
/-- jdk/internal/util/ArraysSupport -/
def k12 : Class := { plain "jdk/internal/util/ArraysSupport" (some 0) with
  accessFlags := 33
  interfaces := #[]
  cf := some (fileOf pool12 21 #[] #[{ accessFlags := 2, nameIndex := 9, descriptorIndex := 19, attributes := #[] }] 33 16 #[] #[{ accessFlags := 24, nameIndex := 28, descriptorIndex := 29, attributes := #[] }, { accessFlags := 26, nameIndex := 38, descriptorIndex := 39, attributes := #[] }, { accessFlags := 25, nameIndex := 121, descriptorIndex := 25, attributes := #[] }, { accessFlags := 25, nameIndex := 131, descriptorIndex := 25, attributes := #[] }, { accessFlags := 25, nameIndex := 137, descriptorIndex := 25, attributes := #[] }, { accessFlags := 25, nameIndex := 143, descriptorIndex := 25, attributes := #[] }, { accessFlags := 25, nameIndex := 53, descriptorIndex := 25, attributes := #[] }, { accessFlags := 25, nameIndex := 24, descriptorIndex := 25, attributes := #[] }, { accessFlags := 25, nameIndex := 162, descriptorIndex := 25, attributes := #[] }, { accessFlags := 25, nameIndex := 187, descriptorIndex := 25, attributes := #[] }, { accessFlags := 26, nameIndex := 48, descriptorIndex := 25, attributes := #[] }, { accessFlags := 25, nameIndex := 277, descriptorIndex := 25, attributes := #[] }, { accessFlags := 25, nameIndex := 280, descriptorIndex := 25, attributes := #[] }, { accessFlags := 25, nameIndex := 282, descriptorIndex := 25, attributes := #[] }, { accessFlags := 25, nameIndex := 284, descriptorIndex := 25, attributes := #[] }, { accessFlags := 25, nameIndex := 286, descriptorIndex := 25, attributes := #[] }, { accessFlags := 25, nameIndex := 288, descriptorIndex := 25, attributes := #[] }, { accessFlags := 25, nameIndex := 290, descriptorIndex := 25, attributes := #[] }, { accessFlags := 25, nameIndex := 292, descriptorIndex := 25, attributes := #[] }, { accessFlags := 26, nameIndex := 108, descriptorIndex := 109, attributes := #[] }, { accessFlags := 25, nameIndex := 294, descriptorIndex := 25, attributes := #[] }])
  fields := #[{ name := "U", type := (.object "jdk/internal/misc/Unsafe"), accessFlags := 24, slot := 0, constantValue := 0 }, { name := "BIG_ENDIAN", type := .boolean, accessFlags := 26, slot := 1, constantValue := 0 }, { name := "LOG2_ARRAY_BOOLEAN_INDEX_SCALE", type := .int, accessFlags := 25, slot := 2, constantValue := 0 }, { name := "LOG2_ARRAY_BYTE_INDEX_SCALE", type := .int, accessFlags := 25, slot := 3, constantValue := 0 }, { name := "LOG2_ARRAY_CHAR_INDEX_SCALE", type := .int, accessFlags := 25, slot := 4, constantValue := 0 }, { name := "LOG2_ARRAY_SHORT_INDEX_SCALE", type := .int, accessFlags := 25, slot := 5, constantValue := 0 }, { name := "LOG2_ARRAY_INT_INDEX_SCALE", type := .int, accessFlags := 25, slot := 6, constantValue := 0 }, { name := "LOG2_ARRAY_LONG_INDEX_SCALE", type := .int, accessFlags := 25, slot := 7, constantValue := 0 }, { name := "LOG2_ARRAY_FLOAT_INDEX_SCALE", type := .int, accessFlags := 25, slot := 8, constantValue := 0 }, { name := "LOG2_ARRAY_DOUBLE_INDEX_SCALE", type := .int, accessFlags := 25, slot := 9, constantValue := 0 }, { name := "LOG2_BYTE_BIT_SIZE", type := .int, accessFlags := 26, slot := 10, constantValue := 0 }, { name := "T_BOOLEAN", type := .int, accessFlags := 25, slot := 11, constantValue := 0 }, { name := "T_CHAR", type := .int, accessFlags := 25, slot := 12, constantValue := 0 }, { name := "T_FLOAT", type := .int, accessFlags := 25, slot := 13, constantValue := 0 }, { name := "T_DOUBLE", type := .int, accessFlags := 25, slot := 14, constantValue := 0 }, { name := "T_BYTE", type := .int, accessFlags := 25, slot := 15, constantValue := 0 }, { name := "T_SHORT", type := .int, accessFlags := 25, slot := 16, constantValue := 0 }, { name := "T_INT", type := .int, accessFlags := 25, slot := 17, constantValue := 0 }, { name := "T_LONG", type := .int, accessFlags := 25, slot := 18, constantValue := 0 }, { name := "JLA", type := (.object "jdk/internal/access/JavaLangAccess"), accessFlags := 26, slot := 19, constantValue := 0 }, { name := "SOFT_MAX_ARRAY_LENGTH", type := .int, accessFlags := 25, slot := 20, constantValue := 0 }]
  methods := #[k12m0]
  instanceTypes := #[]
  staticTypes := #[(.object "jdk/internal/misc/Unsafe"), .boolean, .int, .int, .int, .int, .int, .int, .int, .int, .int, .int, .int, .int, .int, .int, .int, .int, .int, (.object "jdk/internal/access/JavaLangAccess"), .int]
  resolved := Array.replicate 378 none
  statics := none }

def pool13 : Array CpInfo := pool [(1, u "java/lang/Cloneable"), (0, .class_ 1), (0, u "java/lang/Object"), (0, .class_ 3)] 3

/-- java/lang/Cloneable -/
def k13 : Class := { plain "java/lang/Cloneable" (some 0) with
  accessFlags := 1537
  interfaces := #[]
  cf := some (fileOf pool13 2 #[] #[] 1537 4 #[] #[])
  fields := #[]
  methods := #[]
  instanceTypes := #[]
  staticTypes := #[]
  resolved := Array.replicate 8 none
  statics := none }

/-- the primitive byte -/
def k14 : Class := { plain "byte" none with kind := .primitive 'B', accessFlags := 0x411 }
/-- [B -/
def k15 : Class := { plain "[B" (some 0) with kind := .array 14 .byte, interfaces := #[13, 2], accessFlags := 1041 }

/-- the primitive char -/
def k16 : Class := { plain "char" none with kind := .primitive 'C', accessFlags := 0x411 }
/-- [C -/
def k17 : Class := { plain "[C" (some 0) with kind := .array 16 .char, interfaces := #[13, 2], accessFlags := 1041 }

/-- the primitive int -/
def k18 : Class := { plain "int" none with kind := .primitive 'I', accessFlags := 0x411 }
/-- [I -/
def k19 : Class := { plain "[I" (some 0) with kind := .array 18 .int, interfaces := #[13, 2], accessFlags := 1041 }

def heap : Heap := #[{ cls := 7, slots := #[.long 0, .int 1, .null, .int 0, .null, .int 0, .int 0], vm := .statics 7 },
  { cls := 11, slots := #[.null, .null, .null], vm := .statics 11 }]
def classes : Array Class := #[k0, k1, k2, k3, k4, k5, k6, k7, k8, k9, k10, k11, k12, k13, k14, k15, k16, k17, k18, k19]
def interned : List (Array UInt16 × Addr) := []
def slotsUsed : Nat := 10
def theMethod : MethodId := ⟨1, 1⟩
def args0 : Array Value := #[.int 0, .int 1, .int 2, .int 3, .int 4, .int 5]
def aboutOver (below : List Frame) : State where
  vm := { classes := classes, interned := interned.toArray }
  heap := heap
  slotsUsed := slotsUsed
  threads := #[{ frames := .invoking theMethod args0 :: below }]
def below0 : List Frame := [.native { method := ⟨0, 0⟩, args := #[] }]
def about1 : State := aboutOver below0
def p0 : Program := .bare "" "" ""
def e0 : Env := launch0.env 0 0 0
theorem w_frames : about1.frames = Frame.invoking theMethod args0 :: below0 := rfl
set_option maxRecDepth 65536 in
theorem w_args : argsFit about1.vm theMethod args0 = true := by decide +kernel
set_option maxRecDepth 65536 in
theorem w_heap : heapFits about1 = true := by decide +kernel
set_option maxRecDepth 65536 in
theorem w_runnable : about1.curStatus? = some .runnable := by decide +kernel
set_option maxRecDepth 65536 in
theorem w_alone : about1.alone = true := by decide +kernel
set_option maxRecDepth 65536 in
theorem w_named : about1.methodNamed? x = some theMethod := by decide +kernel
set_option maxRecDepth 65536 in
theorem w_hears : about1.hears theMethod below0 = true := by decide +kernel
set_option maxRecDepth 65536 in
theorem w_ripe : about1.ripe theMethod args0 below0 = true := by decide +kernel
theorem w_running : about1.status = .running := rfl
set_option maxRecDepth 65536 in
theorem w_room : about1.hasRoom e0.platform room_1 = true :=
  launch0.hasRoom_least _ room_1 (by decide +kernel) (by decide +kernel) (by decide +kernel) (by decide +kernel) (by decide +kernel) (by decide +kernel)
theorem allAtoms_all (ts : List Jvm.Cond) (a : Array Jvm.Value) (st : Jvm.State) : (allAtoms ts).before a st = ts.all (fun c => c.before a st) := by
  induction ts with
  | nil => rfl
  | cons c t ih =>
    show (Jvm.Cond.and c (allAtoms t)).before a st = _
    rw [Jvm.Cond.before_and, ih, List.all_cons]
def words1 : List Jvm.Cond := Jvm.Cond.code x code maxLocals ret :: tables_1
/-- a 'code' word, met by the world's own term for the bytes: nothing is compared byte by byte -/
theorem code_word {y : MethodName} {bytes : ByteArray} {mx : Nat} {rt : Option FieldType} {a : Array Value} {s : State} {m : MethodId} {meth : Method} {c : Code} (h1 : s.methodNamed? y = some m) (h2 : s.vm.method? m = some meth) (h3 : meth.code = some c) (h4 : c.code = bytes)
    (h5 : (c.maxLocals == mx && c.exceptionTable.isEmpty && decide (c.maxStack ≤ mostOperands) && decide (meth.sig.returnType = rt) && !meth.locks && decide (parseMethodDescriptor y.desc = some meth.sig)) = true) : (Jvm.Cond.code y bytes mx rt).before a s = true := by
  simp only [Bool.and_eq_true, beq_iff_eq, Bool.not_eq_true', decide_eq_true_eq] at h5
  obtain ⟨⟨⟨⟨⟨g1, g2⟩, g3⟩, g4⟩, g5⟩, g6⟩ := h5
  simp [Cond.before, Cond.holds, Cond.value, h1, h2, h3, h4, g1, g2, g3, g4, g5, g6]
def isCode : Jvm.Cond → Bool
  | .code _ _ _ _ => true
  | _ => false
theorem all_split {L : List Jvm.Cond} {P : Jvm.Cond → Bool} (h1 : L.all (fun c => isCode c || P c) = true) (h2 : ∀ c ∈ L.filter isCode, P c = true) : L.all P = true := by
  refine List.all_eq_true.mpr fun c hc => ?_
  have h := List.all_eq_true.mp h1 c hc
  rcases Bool.eq_false_or_eq_true (isCode c) with hi | hi
  · exact h2 c (List.mem_filter.mpr ⟨hc, hi⟩)
  · simpa [hi] using h
set_option maxRecDepth 65536 in
theorem w_c0 : (Jvm.Cond.code x code maxLocals ret).before args0 about1 = true := code_word (m := ⟨1, 1⟩) (meth := k1m1) (c := k1c1) (by decide +kernel) rfl rfl rfl (by decide +kernel)
set_option maxRecDepth 65536 in
theorem w_c1 : (Jvm.Cond.code ({ cls := "com/example/apportion/apportion/input/DecimalsFirstWholeDigitPinLaw", name := "ch", desc := "(I)C" } : Jvm.MethodName) method_3_code (1 : Nat) (Option.some Jvm.ClassFile.FieldType.char)).before args0 about1 = true := code_word (m := ⟨1, 2⟩) (meth := k1m2) (c := k1c2) (by decide +kernel) rfl rfl rfl (by decide +kernel)
set_option maxRecDepth 65536 in
theorem w_c2 : (Jvm.Cond.code ({ cls := "java/lang/String", name := "<init>", desc := "([C)V" } : Jvm.MethodName) jdk_42_method_3_code (2 : Nat) (Option.none : Option Jvm.ClassFile.FieldType)).before args0 about1 = true := code_word (m := ⟨7, 1⟩) (meth := k7m1) (c := k7c1) (by decide +kernel) rfl rfl rfl (by decide +kernel)
set_option maxRecDepth 65536 in
theorem w_c3 : (Jvm.Cond.code ({ cls := "java/lang/String", name := "<init>", desc := "([CIILjava/lang/Void;)V" } : Jvm.MethodName) jdk_42_method_149_code (6 : Nat) (Option.none : Option Jvm.ClassFile.FieldType)).before args0 about1 = true := code_word (m := ⟨7, 3⟩) (meth := k7m3) (c := k7c3) (by decide +kernel) rfl rfl rfl (by decide +kernel)
set_option maxRecDepth 65536 in
theorem w_c4 : (Jvm.Cond.code ({ cls := "java/lang/Object", name := "<init>", desc := "()V" } : Jvm.MethodName) object_method_1_code (1 : Nat) (Option.none : Option Jvm.ClassFile.FieldType)).before args0 about1 = true := code_word (m := ⟨0, 0⟩) (meth := k0m0) (c := k0c0) (by decide +kernel) rfl rfl rfl (by decide +kernel)
set_option maxRecDepth 65536 in
theorem w_c5 : (Jvm.Cond.code ({ cls := "java/lang/StringUTF16", name := "compress", desc := "([CII)[B" } : Jvm.MethodName) jdk_52_method_16_code (6 : Nat) (Option.some (Jvm.ClassFile.FieldType.array Jvm.ClassFile.FieldType.byte))).before args0 about1 = true := code_word (m := ⟨8, 2⟩) (meth := k8m2) (c := k8c2) (by decide +kernel) rfl rfl rfl (by decide +kernel)
set_option maxRecDepth 65536 in
theorem w_c6 : (Jvm.Cond.code ({ cls := "java/lang/StringUTF16", name := "compress", desc := "([CI[BII)I" } : Jvm.MethodName) jdk_52_method_21_code (7 : Nat) (Option.some Jvm.ClassFile.FieldType.int)).before args0 about1 = true := code_word (m := ⟨8, 3⟩) (meth := k8m3) (c := k8c3) (by decide +kernel) rfl rfl rfl (by decide +kernel)
set_option maxRecDepth 65536 in
theorem w_c7 : (Jvm.Cond.code ({ cls := "java/lang/StringUTF16", name := "coderFromArrayLen", desc := "([BI)B" } : Jvm.MethodName) jdk_52_method_15_code (2 : Nat) (Option.some Jvm.ClassFile.FieldType.byte)).before args0 about1 = true := code_word (m := ⟨8, 1⟩) (meth := k8m1) (c := k8c1) (by decide +kernel) rfl rfl rfl (by decide +kernel)
set_option maxRecDepth 65536 in
theorem w_c8 : (Jvm.Cond.code ({ cls := "com/example/apportion/apportion/input/DecimalsFirstWholeDigitPinLaw", name := "stops", desc := "([CIII)Z" } : Jvm.MethodName) method_4_code (4 : Nat) (Option.some Jvm.ClassFile.FieldType.boolean)).before args0 about1 = true := code_word (m := ⟨1, 3⟩) (meth := k1m3) (c := k1c3) (by decide +kernel) rfl rfl rfl (by decide +kernel)
set_option maxRecDepth 65536 in
theorem w_c9 : (Jvm.Cond.code ({ cls := "com/example/apportion/apportion/input/Decimals", name := "firstWholeDigit", desc := "(Ljava/lang/String;II)I" } : Jvm.MethodName) prog_32_method_5_code (4 : Nat) (Option.some Jvm.ClassFile.FieldType.int)).before args0 about1 = true := code_word (m := ⟨9, 1⟩) (meth := k9m1) (c := k9c1) (by decide +kernel) rfl rfl rfl (by decide +kernel)
set_option maxRecDepth 65536 in
theorem w_c10 : (Jvm.Cond.code ({ cls := "java/lang/String", name := "charAt", desc := "(I)C" } : Jvm.MethodName) jdk_42_method_56_code (2 : Nat) (Option.some Jvm.ClassFile.FieldType.char)).before args0 about1 = true := code_word (m := ⟨7, 2⟩) (meth := k7m2) (c := k7c2) (by decide +kernel) rfl rfl rfl (by decide +kernel)
set_option maxRecDepth 65536 in
theorem w_c11 : (Jvm.Cond.code ({ cls := "java/lang/String", name := "isLatin1", desc := "()Z" } : Jvm.MethodName) jdk_42_method_154_code (1 : Nat) (Option.some Jvm.ClassFile.FieldType.boolean)).before args0 about1 = true := code_word (m := ⟨7, 4⟩) (meth := k7m4) (c := k7c4) (by decide +kernel) rfl rfl rfl (by decide +kernel)
set_option maxRecDepth 65536 in
theorem w_c12 : (Jvm.Cond.code ({ cls := "java/lang/StringLatin1", name := "charAt", desc := "([BI)C" } : Jvm.MethodName) jdk_43_method_2_code (2 : Nat) (Option.some Jvm.ClassFile.FieldType.char)).before args0 about1 = true := code_word (m := ⟨10, 1⟩) (meth := k10m1) (c := k10c1) (by decide +kernel) rfl rfl rfl (by decide +kernel)
set_option maxRecDepth 65536 in
theorem w_c13 : (Jvm.Cond.code ({ cls := "java/lang/String", name := "checkIndex", desc := "(II)V" } : Jvm.MethodName) jdk_42_method_155_code (2 : Nat) (Option.none : Option Jvm.ClassFile.FieldType)).before args0 about1 = true := code_word (m := ⟨7, 5⟩) (meth := k7m5) (c := k7c5) (by decide +kernel) rfl rfl rfl (by decide +kernel)
set_option maxRecDepth 65536 in
theorem w_c14 : (Jvm.Cond.code ({ cls := "jdk/internal/util/Preconditions", name := "checkIndex", desc := "(IILjava/util/function/BiFunction;)I" } : Jvm.MethodName) jdk_41_method_11_code (3 : Nat) (Option.some Jvm.ClassFile.FieldType.int)).before args0 about1 = true := code_word (m := ⟨11, 1⟩) (meth := k11m1) (c := k11c1) (by decide +kernel) rfl rfl rfl (by decide +kernel)
def codes1 : List Jvm.Cond := [Jvm.Cond.code x code maxLocals ret, Jvm.Cond.code ({ cls := "com/example/apportion/apportion/input/DecimalsFirstWholeDigitPinLaw", name := "ch", desc := "(I)C" } : Jvm.MethodName) method_3_code (1 : Nat) (Option.some Jvm.ClassFile.FieldType.char), Jvm.Cond.code ({ cls := "java/lang/String", name := "<init>", desc := "([C)V" } : Jvm.MethodName) jdk_42_method_3_code (2 : Nat) (Option.none : Option Jvm.ClassFile.FieldType), Jvm.Cond.code ({ cls := "java/lang/String", name := "<init>", desc := "([CIILjava/lang/Void;)V" } : Jvm.MethodName) jdk_42_method_149_code (6 : Nat) (Option.none : Option Jvm.ClassFile.FieldType), Jvm.Cond.code ({ cls := "java/lang/Object", name := "<init>", desc := "()V" } : Jvm.MethodName) object_method_1_code (1 : Nat) (Option.none : Option Jvm.ClassFile.FieldType), Jvm.Cond.code ({ cls := "java/lang/StringUTF16", name := "compress", desc := "([CII)[B" } : Jvm.MethodName) jdk_52_method_16_code (6 : Nat) (Option.some (Jvm.ClassFile.FieldType.array Jvm.ClassFile.FieldType.byte)), Jvm.Cond.code ({ cls := "java/lang/StringUTF16", name := "compress", desc := "([CI[BII)I" } : Jvm.MethodName) jdk_52_method_21_code (7 : Nat) (Option.some Jvm.ClassFile.FieldType.int), Jvm.Cond.code ({ cls := "java/lang/StringUTF16", name := "coderFromArrayLen", desc := "([BI)B" } : Jvm.MethodName) jdk_52_method_15_code (2 : Nat) (Option.some Jvm.ClassFile.FieldType.byte), Jvm.Cond.code ({ cls := "com/example/apportion/apportion/input/DecimalsFirstWholeDigitPinLaw", name := "stops", desc := "([CIII)Z" } : Jvm.MethodName) method_4_code (4 : Nat) (Option.some Jvm.ClassFile.FieldType.boolean), Jvm.Cond.code ({ cls := "com/example/apportion/apportion/input/Decimals", name := "firstWholeDigit", desc := "(Ljava/lang/String;II)I" } : Jvm.MethodName) prog_32_method_5_code (4 : Nat) (Option.some Jvm.ClassFile.FieldType.int), Jvm.Cond.code ({ cls := "java/lang/String", name := "charAt", desc := "(I)C" } : Jvm.MethodName) jdk_42_method_56_code (2 : Nat) (Option.some Jvm.ClassFile.FieldType.char), Jvm.Cond.code ({ cls := "java/lang/String", name := "isLatin1", desc := "()Z" } : Jvm.MethodName) jdk_42_method_154_code (1 : Nat) (Option.some Jvm.ClassFile.FieldType.boolean), Jvm.Cond.code ({ cls := "java/lang/StringLatin1", name := "charAt", desc := "([BI)C" } : Jvm.MethodName) jdk_43_method_2_code (2 : Nat) (Option.some Jvm.ClassFile.FieldType.char), Jvm.Cond.code ({ cls := "java/lang/String", name := "checkIndex", desc := "(II)V" } : Jvm.MethodName) jdk_42_method_155_code (2 : Nat) (Option.none : Option Jvm.ClassFile.FieldType), Jvm.Cond.code ({ cls := "jdk/internal/util/Preconditions", name := "checkIndex", desc := "(IILjava/util/function/BiFunction;)I" } : Jvm.MethodName) jdk_41_method_11_code (3 : Nat) (Option.some Jvm.ClassFile.FieldType.int)]
set_option maxRecDepth 65536 in
theorem codes_eq : words1.filter isCode = codes1 := rfl
theorem w_codes : ∀ c ∈ words1.filter isCode, c.before args0 about1 = true := by
  rw [codes_eq]
  intro c hc
  simp only [codes1, List.mem_cons, List.not_mem_nil, or_false] at hc
  rcases hc with rfl | rfl | rfl | rfl | rfl | rfl | rfl | rfl | rfl | rfl | rfl | rfl | rfl | rfl | rfl
  · exact w_c0
  · exact w_c1
  · exact w_c2
  · exact w_c3
  · exact w_c4
  · exact w_c5
  · exact w_c6
  · exact w_c7
  · exact w_c8
  · exact w_c9
  · exact w_c10
  · exact w_c11
  · exact w_c12
  · exact w_c13
  · exact w_c14
set_option maxRecDepth 65536 in
theorem w_t1 : (words1.take 24).all (fun c => isCode c || c.before args0 about1) = true := by decide +kernel
set_option maxRecDepth 65536 in
theorem w_t2 : ((words1.drop 24).take 24).all (fun c => isCode c || c.before args0 about1) = true := by decide +kernel
set_option maxRecDepth 65536 in
theorem w_t3 : ((words1.drop 24).drop 24).all (fun c => isCode c || c.before args0 about1) = true := by decide +kernel
theorem w_tables : (allAtoms (Jvm.Cond.code x code maxLocals ret :: tables_1)).before args0 about1 = true := by
  rw [allAtoms_all]
  show words1.all (fun c => c.before args0 about1) = true
  refine all_split ?_ w_codes
  rw [← List.take_append_drop 24 words1, List.all_append, w_t1, ← List.take_append_drop 24 (words1.drop 24), List.all_append, w_t2, w_t3]
  rfl
set_option maxRecDepth 65536 in
theorem w_rest : rest_1_c.before args0 about1 = true := by decide +kernel
set_option maxRecDepth 65536 in
theorem w_case : (Jvm.Cond.and given_1 narrow_1).before args0 about1 = true := by decide +kernel
theorem w_applies : (headSpec (Jvm.Cond.code x code maxLocals ret :: tables_1) room_1).applies x e0.platform about1 = true :=
  (Spec.applies_iff w_frames).mpr ⟨w_running, w_runnable, w_alone, w_named, w_hears, w_ripe, w_room, w_tables⟩
theorem atStart : AtStart classFile x code maxLocals ret World_1 tables_1 room_1 Calls_1 rest_1 Pre_1 launch0 p0 e0 about1 theMethod args0 below0 :=
  ⟨lists_1, trivial, launch0.admits_env _ _ _, launch0.least_env, fairChoices_fair.cas, fairChoices_fair.clock, w_frames, w_args, w_heap, w_applies, trivial, w_rest, w_case⟩
end start1
theorem witness_1 : WitnessClaimed_1 := ⟨start1.p0, start1.e0, start1.about1, start1.theMethod, start1.args0, start1.below0, start1.atStart⟩
end Jvm.Pilot.@@N@@
