import JvmDerived
import JvmDerived.Pilot.@@N@@Statement
import JvmDerived.Pilot.@@N@@Code
set_option linter.unusedVariables false
set_option linter.unusedSimpArgs false
namespace Jvm.Pilot.@@N@@
open Jvm Jvm.ClassFile Sem Op Lib Jvm.Free Jvm.Stand Jvm.LawKit Jvm.RoadKit Bundle Jvm.Pilot.@@N@@.Jvm.D
/-- whatever is reached from v is reached from u -/
abbrev To (tb : Tables) (e : Env) (below : List Frame) (u v : State) : Prop := ∀ t, Steps tb e below v t → Steps tb e below u t
/-- a body's contract: called with as' over the heap h0 it returns, and Q holds of what it returns, of the heap and of the places written -/
abbrev Con (l : Launch) (Z : State) (y : MethodName) (bs : ByteArray) (ml : Nat) (rt : Option FieldType) (ws : List Jvm.Cond) (R : Room) (as' : Array Value) (h0 : Heap) (Q : Option Value → Heap → List Loc → Prop) : Prop :=
  MetFree l y (head1 (Jvm.Cond.code y bs ml rt :: ws) R) (fun a U => a = as' ∧ Z.Warmed39 U.vm ∧ U.heap = h0) (fun _ _ _ _ _ => True) (fun _ U o U' => ∃ v L, o = .returned v ∧ Q v U'.heap L ∧ FrameEnd U o U' L R.cells R.slots)
/-- the walk from S0 has ended well -/
def Fin (p : Program) (e : Env) (below : List Frame) (s : State) (R : Room) (S0 : State) (Q : Option Value → Heap → List Loc → Prop) : Prop :=
  ∃ s₂ o, Steps p.tables e below S0 s₂ ∧ s₂.status = .running ∧ Ended s₂ below o ∧ ∃ v L, o = .returned v ∧ Q v s₂.heap L ∧ FrameEnd s o s₂ L R.cells R.slots
def slotsOf : List Value → List Slot
  | [] => []
  | v :: r => if v.category = 2 then .val v :: .second :: slotsOf r else .val v :: slotsOf r
theorem foldl_slots (L : List Value) : ∀ acc : Array Slot, L.foldl (fun acc v => if v.category = 2 then (acc.push (Slot.val v)).push Slot.second else acc.push (Slot.val v)) acc = acc ++ (slotsOf L).toArray := by
  induction L with
  | nil => intro acc; simp [slotsOf]
  | cons v r ih =>
    intro acc
    rw [List.foldl_cons, ih]
    by_cases h : v.category = 2
    · simp [slotsOf, h]
    · simp [slotsOf, h]
theorem entry_eq {m : MethodId} {L : List Value} {ml : Nat} {Ls : List Slot} (h : slotsOf L ++ List.replicate (ml - (slotsOf L).length) Slot.unset = Ls) : entryFrame m L.toArray ml = mkF m 0 Ls.toArray [] := by
  subst h
  have e : argsToLocals L.toArray ml = (slotsOf L ++ List.replicate (ml - (slotsOf L).length) Slot.unset).toArray := by
    show (L.toArray.foldl (init := #[]) fun acc v => if v.category = 2 then (acc.push (Slot.val v)).push Slot.second else acc.push (Slot.val v)) ++ Array.replicate (ml - (L.toArray.foldl (init := #[]) fun acc v => if v.category = 2 then (acc.push (Slot.val v)).push Slot.second else acc.push (Slot.val v)).size) Slot.unset = _
    rw [List.foldl_toArray, foldl_slots]
    simp
  show ({ method := m, pc := 0, locals := argsToLocals L.toArray ml, stack := [], locked := none } : JFrame) = _
  rw [e]
section Own
variable {p : Program} {l : Launch} {e : Env} {R : Room} {s : State} {m : MethodId} {args : Array Value} {below : List Frame} {meth : Method} {c : Code} {T S0 : State} {locs : List Loc} {cells slots : Nat} {Z : State} {a0 : Array Value} {h : Heap} {Q : Option Value → Heap → List Loc → Prop}
theorem enter {y : MethodName} {bs : ByteArray} {ml : Nat} {rt : Option FieldType} {ws : List Jvm.Cond} {as' : Array Value} {h0 : Heap} {Ls : Array Slot} (hpl : plainFor y = true) (hef : ∀ m, entryFrame m as' ml = mkF m 0 Ls [])
    (body : ∀ (p : Program) (e : Env) (s : State) (m : MethodId) (below : List Frame) (meth : Method) (c : Code) (s₁ S0 : State), p.tables.exec = Jvm.exec → c.code = bs → c.maxLocals = ml → meth.sig.returnType = rt → meth.locks = false → meth.name = y.name →
      s.vm.findClass y.cls = some m.cls → Z.Warmed39 s.vm → Stand p l e R s m as' below meth c s₁ [] 0 0 → s₁.heap = h0 → To p.tables e below S0 (s₁.setTop (mkF m 0 Ls [])) → Fin p e below s R S0 Q) : Con l Z y bs ml rt ws R as' h0 Q := by
  refine MetFree.of_bodySF hpl hisR ?_
  intro p e s m args below meth c s₁ Bd hml0 hP hK
  obtain ⟨rfl, hZ, hh⟩ := hP
  exact body p e s m below meth c s₁ _ Bd.exec Bd.bytes hml0 Bd.returns Bd.notSynchronized (name_of_methodNamed Bd.named Bd.method).1 (findClass_of_methodNamed Bd.named) hZ (Stand.of_body Bd) (by rw [← hh, Bd.state]; rfl) (fun t k => castTop (hef m) k)
theorem retV (X : Stand p l e R s m args below meth c T locs cells slots) (hx : p.tables.exec = Jvm.exec) {pc : Nat} {Ls : Array Slot} {w : Value} {t : FieldType} {i : Instr} {rest : List Value} (hret : meth.sig.returnType = some t) (hlk : meth.locks = false) (hn : narrow t w = w)
    (hi : (i = .ireturn ∧ (t = .int ∨ t = .boolean ∨ t = .byte ∨ t = .char ∨ t = .short) ∧ ∃ z, w = .int z) ∨ (i = .lreturn ∧ t = .long ∧ ∃ z, w = .long z) ∨ (i = .dreturn ∧ t = .double ∧ ∃ z, w = .double z) ∨ (i = .freturn ∧ t = .float ∧ ∃ z, w = .float z) ∨ (i = .areturn ∧ t.isReference = true ∧ w.isRef = true))
    (hd : decode c.code pc = .ok (i, 1)) (k : To p.tables e below S0 (T.setTop (mkF m pc Ls (w :: rest)))) (hQ : Q (some w) T.heap locs) (hc : cells ≤ R.cells) (hs : slots ≤ R.slots) : Fin p e below s R S0 Q := by
  obtain ⟨fs, hr, hrun, hended, hW, hsame⟩ := X.leave (v := some w) (fun h => by rw [hret] at h; cases h) hlk
  exact ⟨_, _, k _ (retOut X hx hret hn hi hd hr), hrun, hended, _, _, rfl, hQ, ⟨_, rfl⟩, hW, hsame.mono hc hs⟩
theorem retInt (X : Stand p l e R s m args below meth c T locs cells slots) (hx : p.tables.exec = Jvm.exec) {pc : Nat} {Ls : Array Slot} {z : Int32} {t : FieldType} {rest : List Value} (hret : meth.sig.returnType = some t) (hlk : meth.locks = false) (ht : t = .int ∨ t = .boolean ∨ t = .byte ∨ t = .char ∨ t = .short) (hn : narrow t (.int z) = .int z)
    (hd : decode c.code pc = .ok (.ireturn, 1)) (k : To p.tables e below S0 (T.setTop (mkF m pc Ls (.int z :: rest)))) (hQ : Q (some (.int z)) T.heap locs) (hc : cells ≤ R.cells) (hs : slots ≤ R.slots) : Fin p e below s R S0 Q :=
  retV X hx hret hlk hn (Or.inl ⟨rfl, ht, z, rfl⟩) hd k hQ hc hs
theorem retRef (X : Stand p l e R s m args below meth c T locs cells slots) (hx : p.tables.exec = Jvm.exec) {pc : Nat} {Ls : Array Slot} {w : Value} {t : FieldType} {rest : List Value} (hret : meth.sig.returnType = some t) (hlk : meth.locks = false) (ht : t.isReference = true) (hw : w.isRef = true)
    (hd : decode c.code pc = .ok (.areturn, 1)) (k : To p.tables e below S0 (T.setTop (mkF m pc Ls (w :: rest)))) (hQ : Q (some w) T.heap locs) (hc : cells ≤ R.cells) (hs : slots ≤ R.slots) : Fin p e below s R S0 Q :=
  retV X hx hret hlk (by rcases ref_cases hw with rfl | ⟨z, rfl⟩ <;> cases t <;> first | rfl | (cases ht; done)) (Or.inr (Or.inr (Or.inr (Or.inr ⟨rfl, ht, hw⟩)))) hd k hQ hc hs
theorem retLong (X : Stand p l e R s m args below meth c T locs cells slots) (hx : p.tables.exec = Jvm.exec) {pc : Nat} {Ls : Array Slot} {z : Int64} {rest : List Value} (hret : meth.sig.returnType = some .long) (hlk : meth.locks = false)
    (hd : decode c.code pc = .ok (.lreturn, 1)) (k : To p.tables e below S0 (T.setTop (mkF m pc Ls (.long z :: rest)))) (hQ : Q (some (.long z)) T.heap locs) (hc : cells ≤ R.cells) (hs : slots ≤ R.slots) : Fin p e below s R S0 Q :=
  retV X hx hret hlk rfl (Or.inr (Or.inl ⟨rfl, rfl, z, rfl⟩)) hd k hQ hc hs
theorem retVoid (X : Stand p l e R s m args below meth c T locs cells slots) (hx : p.tables.exec = Jvm.exec) {pc : Nat} {Ls : Array Slot} (hret : meth.sig.returnType = none) (hlk : meth.locks = false)
    (hd : decode c.code pc = .ok (.return_, 1)) (k : To p.tables e below S0 (T.setTop (mkF m pc Ls []))) (hQ : Q none T.heap locs) (hc : cells ≤ R.cells) (hs : slots ≤ R.slots) : Fin p e below s R S0 Q := by
  obtain ⟨fs, hr, hrun, hended, hW, hsame⟩ := X.leave (v := none) (fun _ => rfl) hlk
  exact ⟨_, _, k _ (X.returnOut hx hret hd hr), hrun, hended, _, _, rfl, hQ, ⟨_, rfl⟩, hW, hsame.mono hc hs⟩
theorem backC {y : MethodName} {bs : ByteArray} {ml : Nat} {rt : Option FieldType} {rm : Room} {len W : Nat} {as' : Array Value} (hM : Con l Z y bs ml rt [] rm as' h Q) (hZ : Z.Warmed39 s.vm) (wc : (Cond.code y bs ml rt).before a0 Z = true) (wz : (Cond.initialized y.cls).before a0 Z = true) (hf : rm.frames + 1 ≤ R.frames) (hl : W + (ml + 11) + rm.locals ≤ R.locals) :
    Back l R p e below s args y len W (fun A a => a = as' ∧ A.U.heap = h ∧ A.cells + rm.cells ≤ R.cells ∧ A.slots + rm.slots ≤ R.slots) (fun A _ v B => ∃ L, Q v B.U.heap L ∧ B.locs = A.locs ++ L ∧ B.cells = A.cells + rm.cells ∧ B.slots = A.slots + rm.slots) :=
  backOf (Q := Q) hM hZ wc wz hf hl
/-! calls by a contract -/
theorem callS' (X : Stand p l e R s m args below meth c T locs cells slots) (hx : p.tables.exec = Jvm.exec) (hZ : Z.Warmed39 s.vm) {own : String} {index : Nat} {y : MethodName} {bs : ByteArray} {ml : Nat} {rt : Option FieldType} {cc ss W : Nat} {as' : Array Value} {Q : Option Value → Heap → List Loc → Prop}
    (hown : s.vm.findClass own = some m.cls) (w1 : (Cond.methodLink own index y).before a0 Z = true) (w2 : (Cond.static y).before a0 Z = true) (w3 : (Cond.initialized y.cls).before a0 Z = true) (w4 : (Cond.code y bs ml rt).before a0 Z = true) (hy : y.cls ≠ "java/lang/invoke/MethodHandle" ∧ y.cls ≠ "java/lang/invoke/VarHandle")
    (hK : Back l R p e below s args y 3 W (fun A a => a = as' ∧ A.U.heap = h ∧ A.cells + cc ≤ R.cells ∧ A.slots + ss ≤ R.slots) (fun A _ v B => ∃ L, Q v B.U.heap L ∧ B.locs = A.locs ++ L ∧ B.cells = A.cells + cc ∧ B.slots = A.slots + ss)) (eT : T.heap = h) {pc : Nat} {Ls : Array Slot} {st argsL rest : List Value} (hst : st = argsL.reverse ++ rest) (has : argsL.toArray = as') {ps : List FieldType} {r : Option FieldType} (hpd : parseMethodDescriptor y.desc = some ⟨ps, r⟩) (hlen : argsL.length = ps.length) (hsize : Ls.size = c.maxLocals)
    (hd : decode c.code pc = .ok (.invokestatic index, 3)) (hW : (rest.map fun v => v.category).sum ≤ W) (hc : cells + cc ≤ R.cells) (hs : slots + ss ≤ R.slots) (k : To p.tables e below S0 (T.setTop (mkF m pc Ls st))) :
    ∃ v T' L, Stand p l e R s m args below meth c T' (locs ++ L) (cells + cc) (slots + ss) ∧ Q v T'.heap L ∧ To p.tables e below S0 (T'.setTop (mkF m (pc + 3) Ls (v.toList ++ rest))) := by
  obtain ⟨v, vm₁, ⟨T', L', k', n'⟩, -, X', ⟨L, hQ, q1, q2, q3⟩, stp⟩ := Jvm.LawKit.callS X hx hown (mvT hZ w1) (mvT hZ w2) (mvT hZ w3) (mvT hZ w4) hy hK (g := mkF m pc Ls st) rfl hsize (argsL := argsL) (rest := rest) (lenOf hpd hlen) hst (by show 2 * 0 + _ ≤ _; omega) hd (fun _ _ => ⟨has, eT, hc, hs⟩)
  dsimp only [Pt.U, Pt.locs, Pt.cells, Pt.slots] at X' q1 q2 q3 stp hQ
  subst q1 q2 q3
  exact ⟨v, T', L, X', hQ, fun t q => k t (stp t q)⟩
theorem callC' (X : Stand p l e R s m args below meth c T locs cells slots) (hx : p.tables.exec = Jvm.exec) (hZ : Z.Warmed39 s.vm) {own : String} {index : Nat} {y : MethodName} {bs : ByteArray} {ml : Nat} {cc ss W : Nat} {as' : Array Value} {Q : Option Value → Heap → List Loc → Prop}
    (hy1 : y.name = "<init>") (hown : s.vm.findClass own = some m.cls) (w1 : (Cond.methodLink own index y).before a0 Z = true) (w2 : (Cond.instanceMethod y).before a0 Z = true) (w4 : (Cond.code y bs ml none).before a0 Z = true) (hy : y.cls ≠ "java/lang/invoke/MethodHandle" ∧ y.cls ≠ "java/lang/invoke/VarHandle")
    (hK : Back l R p e below s args y 3 W (fun A a => a = as' ∧ A.U.heap = h ∧ A.cells + cc ≤ R.cells ∧ A.slots + ss ≤ R.slots) (fun A _ v B => ∃ L, Q v B.U.heap L ∧ B.locs = A.locs ++ L ∧ B.cells = A.cells + cc ∧ B.slots = A.slots + ss)) (eT : T.heap = h) {pc : Nat} {Ls : Array Slot} {a : Addr} {st argsL rest : List Value} (hst : st = argsL.reverse ++ .ref a :: rest) (has : (.ref a :: argsL).toArray = as') {ps : List FieldType} {r : Option FieldType} (hpd : parseMethodDescriptor y.desc = some ⟨ps, r⟩) (hlen : argsL.length = ps.length) (hsize : Ls.size = c.maxLocals)
    (hd : decode c.code pc = .ok (.invokespecial index, 3)) (hW : (rest.map fun v => v.category).sum ≤ W) (hc : cells + cc ≤ R.cells) (hs : slots + ss ≤ R.slots) (k : To p.tables e below S0 (T.setTop (mkF m pc Ls st))) :
    ∃ v T' L, Stand p l e R s m args below meth c T' (locs ++ L) (cells + cc) (slots + ss) ∧ Q v T'.heap L ∧ To p.tables e below S0 (T'.setTop (mkF m (pc + 3) Ls (v.toList ++ rest))) := by
  obtain ⟨v, vm₁, ⟨T', L', k', n'⟩, -, X', ⟨L, hQ, q1, q2, q3⟩, stp⟩ := X.specialBack hx hy1 hown (mvT hZ w1) (mvT hZ w2) (mvT hZ w4) hy hK (g := mkF m pc Ls st) rfl hsize (Steps.refl _) (a := a) (argsL := argsL) (rest := rest) (lenOf hpd hlen) hst (by show 2 * 0 + _ ≤ _; omega) hd (fun _ _ => ⟨has, eT, hc, hs⟩)
  dsimp only [Pt.U, Pt.locs, Pt.cells, Pt.slots] at X' q1 q2 q3 stp hQ
  subst q1 q2 q3
  exact ⟨v, T', L, X', hQ, fun t q => k t (stp.trans q)⟩
theorem callV' (X : Stand p l e R s m args below meth c T locs cells slots) (hx : p.tables.exec = Jvm.exec) (hZ : Z.Warmed39 s.vm) {own C : String} {index : Nat} {y z : MethodName} {cc ss W : Nat} {as' : Array Value} {Q : Option Value → Heap → List Loc → Prop}
    (hown : s.vm.findClass own = some m.cls) (w1 : (Cond.methodLink own index y).before a0 Z = true) (w2 : (Cond.declares y).before a0 Z = true) (hnf : NotFace s y) (w5 : (Cond.selects C y z).before a0 Z = true) (w6 : (Cond.instanceMethod z).before a0 Z = true)
    (hy : y.cls ≠ "java/lang/invoke/MethodHandle" ∧ y.cls ≠ "java/lang/invoke/VarHandle") {b : Addr} (E : Exa Z h b C)
    (hK : Back l R p e below s args z 3 W (fun A a => a = as' ∧ A.U.heap = h ∧ A.cells + cc ≤ R.cells ∧ A.slots + ss ≤ R.slots) (fun A _ v B => ∃ L, Q v B.U.heap L ∧ B.locs = A.locs ++ L ∧ B.cells = A.cells + cc ∧ B.slots = A.slots + ss)) (eT : T.heap = h) {pc : Nat} {Ls : Array Slot} {st argsL rest : List Value} (hst : st = argsL.reverse ++ .ref b :: rest) (has : (.ref b :: argsL).toArray = as') {ps : List FieldType} {r : Option FieldType} (hpd : parseMethodDescriptor y.desc = some ⟨ps, r⟩) (hlen : argsL.length = ps.length) (hsize : Ls.size = c.maxLocals)
    (hd : decode c.code pc = .ok (.invokevirtual index, 3)) (hW : (rest.map fun v => v.category).sum ≤ W) (hc : cells + cc ≤ R.cells) (hs : slots + ss ≤ R.slots) (k : To p.tables e below S0 (T.setTop (mkF m pc Ls st))) :
    ∃ v T' L, Stand p l e R s m args below meth c T' (locs ++ L) (cells + cc) (slots + ss) ∧ Q v T'.heap L ∧ To p.tables e below S0 (T'.setTop (mkF m (pc + 3) Ls (v.toList ++ rest))) := by
  obtain ⟨cq, kq, qa, qb, qc⟩ := isOf hZ eT E
  obtain ⟨v, vm₁, ⟨T', L', k', n'⟩, -, X', ⟨L, hQ, q1, q2, q3⟩, stp⟩ := X.virtualBack hx hown (mvT hZ w1) (mvT hZ w2) hnf (mvT hZ w5) (mvT hZ w6) hy hK qa qc (g := mkF m pc Ls st) rfl hsize (Steps.refl _) (argsL := argsL) (rest := rest) (lenOf hpd hlen) hst (by show 2 * 0 + _ ≤ _; omega) hd (fun _ _ => ⟨has, eT, hc, hs⟩)
  dsimp only [Pt.U, Pt.locs, Pt.cells, Pt.slots] at X' q1 q2 q3 stp hQ
  subst q1 q2 q3
  exact ⟨v, T', L, X', hQ, fun t q => k t (stp.trans q)⟩
theorem callU' (X : Stand p l e R s m args below meth c T locs cells slots) (hx : p.tables.exec = Jvm.exec) (hZ : Z.Warmed39 s.vm) {own C owner : String} {index : Nat} {y z : MethodName} {cc ss W : Nat} {as' : Array Value} {Q : Option Value → Heap → List Loc → Prop}
    (hown : s.vm.findClass own = some m.cls) (w1 : (Cond.methodLink own index y).before a0 Z = true) (w7 : (Cond.sameMethod y.cls owner y.name y.desc).before a0 Z = true) (w2 : (Cond.declares ⟨owner, y.name, y.desc⟩).before a0 Z = true) (w5 : (Cond.selects C y z).before a0 Z = true) (w6 : (Cond.instanceMethod z).before a0 Z = true)
    (hy : owner ≠ "java/lang/invoke/MethodHandle" ∧ owner ≠ "java/lang/invoke/VarHandle") {b : Addr} (E : Exa Z h b C)
    (hK : Back l R p e below s args z 3 W (fun A a => a = as' ∧ A.U.heap = h ∧ A.cells + cc ≤ R.cells ∧ A.slots + ss ≤ R.slots) (fun A _ v B => ∃ L, Q v B.U.heap L ∧ B.locs = A.locs ++ L ∧ B.cells = A.cells + cc ∧ B.slots = A.slots + ss)) (eT : T.heap = h) {pc : Nat} {Ls : Array Slot} {st argsL rest : List Value} (hst : st = argsL.reverse ++ .ref b :: rest) (has : (.ref b :: argsL).toArray = as') {ps : List FieldType} {r : Option FieldType} (hpd : parseMethodDescriptor y.desc = some ⟨ps, r⟩) (hlen : argsL.length = ps.length) (hsize : Ls.size = c.maxLocals)
    (hd : decode c.code pc = .ok (.invokevirtual index, 3)) (hW : (rest.map fun v => v.category).sum ≤ W) (hc : cells + cc ≤ R.cells) (hs : slots + ss ≤ R.slots) (k : To p.tables e below S0 (T.setTop (mkF m pc Ls st))) :
    ∃ v T' L, Stand p l e R s m args below meth c T' (locs ++ L) (cells + cc) (slots + ss) ∧ Q v T'.heap L ∧ To p.tables e below S0 (T'.setTop (mkF m (pc + 3) Ls (v.toList ++ rest))) := by
  obtain ⟨cq, kq, qa, qb, qc⟩ := isOf hZ eT E
  obtain ⟨v, vm₁, ⟨T', L', k', n'⟩, -, X', ⟨L, hQ, q1, q2, q3⟩, stp⟩ := X.virtualBackUp hx hown (mvT hZ w1) (mvT hZ w7) (mvT hZ w2) hy (mvT hZ w5) (mvT hZ w6) hK qa qc (g := mkF m pc Ls st) rfl hsize (Steps.refl _) (argsL := argsL) (rest := rest) (lenOf hpd hlen) hst (by show 2 * 0 + _ ≤ _; omega) hd (fun _ _ => ⟨has, eT, hc, hs⟩)
  dsimp only [Pt.U, Pt.locs, Pt.cells, Pt.slots] at X' q1 q2 q3 stp hQ
  subst q1 q2 q3
  exact ⟨v, T', L, X', hQ, fun t q => k t (stp.trans q)⟩
theorem callI' (X : Stand p l e R s m args below meth c T locs cells slots) (hx : p.tables.exec = Jvm.exec) (hZ : Z.Warmed39 s.vm) {own C : String} {index count : Nat} {y z : MethodName} {cc ss W : Nat} {as' : Array Value} {Q : Option Value → Heap → List Loc → Prop}
    (hown : s.vm.findClass own = some m.cls) (w1 : (Cond.methodLink own index y).before a0 Z = true) (w2 : (Cond.declares y).before a0 Z = true) (w7 : (Cond.interfaceMethod y.cls y.cls y.name y.desc).before a0 Z = true) (hd7 : ((Cond.interfaceMethod y.cls y.cls y.name y.desc).onTables && (Cond.interfaceMethod y.cls y.cls y.name y.desc).keepsFace) = true) (w5 : (Cond.selects C y z).before a0 Z = true) (w6 : (Cond.instanceMethod z).before a0 Z = true) (w8 : (Cond.publicMethod z).before a0 Z = true) (w9 : (Cond.unhidden C y.name y.desc).before a0 Z = true) (w10 : (Cond.castable C y.cls).before a0 Z = true)
    (hy : y.cls ≠ "java/lang/invoke/MethodHandle" ∧ y.cls ≠ "java/lang/invoke/VarHandle") {b : Addr} (E : Exa Z h b C)
    (hK : Back l R p e below s args z 5 W (fun A a => a = as' ∧ A.U.heap = h ∧ A.cells + cc ≤ R.cells ∧ A.slots + ss ≤ R.slots) (fun A _ v B => ∃ L, Q v B.U.heap L ∧ B.locs = A.locs ++ L ∧ B.cells = A.cells + cc ∧ B.slots = A.slots + ss)) (eT : T.heap = h) {pc : Nat} {Ls : Array Slot} {st argsL rest : List Value} (hst : st = argsL.reverse ++ .ref b :: rest) (has : (.ref b :: argsL).toArray = as') {ps : List FieldType} {r : Option FieldType} (hpd : parseMethodDescriptor y.desc = some ⟨ps, r⟩) (hlen : argsL.length = ps.length) (hsize : Ls.size = c.maxLocals)
    (hd : decode c.code pc = .ok (.invokeinterface index count, 5)) (hW : (rest.map fun v => v.category).sum ≤ W) (hc : cells + cc ≤ R.cells) (hs : slots + ss ≤ R.slots) (k : To p.tables e below S0 (T.setTop (mkF m pc Ls st))) :
    ∃ v T' L, Stand p l e R s m args below meth c T' (locs ++ L) (cells + cc) (slots + ss) ∧ Q v T'.heap L ∧ To p.tables e below S0 (T'.setTop (mkF m (pc + 5) Ls (v.toList ++ rest))) := by
  obtain ⟨cq, kq, qa, qb, qc⟩ := isOf hZ eT E
  obtain ⟨v, vm₁, ⟨T', L', k', n'⟩, -, X', ⟨L, hQ, q1, q2, q3⟩, stp⟩ := X.interfaceBack hx hown (mvT hZ w1) (mvT hZ w2) (mvT hZ w7 hd7) (mvT hZ w5) (mvT hZ w6) (mvT hZ w8) (mvT hZ w9) (mvT hZ w10) hy hK qa qb qc (g := mkF m pc Ls st) rfl hsize (Steps.refl _) (argsL := argsL) (rest := rest) (lenOf hpd hlen) hst (by show 2 * 0 + _ ≤ _; omega) hd (fun _ _ => ⟨has, eT, hc, hs⟩)
  dsimp only [Pt.U, Pt.locs, Pt.cells, Pt.slots] at X' q1 q2 q3 stp hQ
  subst q1 q2 q3
  exact ⟨v, T', L, X', hQ, fun t q => k t (stp.trans q)⟩
theorem staOld {n0 : Nat} {C n d : String} {v : Value} (F : Sta Z Z.heap C n d v) (O : Old Z n0 h) : Sta Z h C n d v := F.ext O.2
theorem exaOld {n0 : Nat} {C : String} {a : Addr} (F : Exa Z Z.heap a C) (O : Old Z n0 h) : Exa Z h a C := F.ext O.2
theorem fldOld {n0 : Nat} {C n d : String} {a : Addr} {v : Value} (F : Fld Z Z.heap a C n d v) (O : Old Z n0 h) : Fld Z h a C n d v := F.ext O.2
theorem joinT (X : Stand p l e R s m args below meth c T locs cells slots) (eT : T.heap = h) (F : JFrame) {G : Prop} (br : (∀ T', Stand p l e R s m args below meth c T' locs cells slots → T'.heap = h → To p.tables e below S0 (T'.setTop F) → G) → G)
    (rest : ∀ T', Stand p l e R s m args below meth c T' locs cells slots → T'.heap = h → To p.tables e below S0 (T'.setTop F) → G) : G := br rest
theorem own_m255 (c : Int32) : ¬ (c &&& 255) < (0 : Int32) ∧ ¬ (255 : Int32) < (c &&& 255) := by
  have h : (c &&& 255).toBitVec.toNat ≤ 255 := by
    rw [Int32.toBitVec_and, BitVec.toNat_and]; exact Nat.and_le_right
  have h2 : (c &&& 255).toInt = ((c &&& 255).toBitVec.toNat : Int) := by
    show (c &&& 255).toBitVec.toInt = _
    rw [BitVec.toInt_eq_toNat_of_lt (by omega)]
  rw [Int32.lt_iff_toInt_lt, Int32.lt_iff_toInt_lt, h2, show (0 : Int32).toInt = 0 from rfl, show (255 : Int32).toInt = 255 by decide]
  omega
theorem own_and255_of {v : Int32} (h : ¬ v < (0 : Int32) ∧ ¬ (255 : Int32) < v) : v &&& 255 = v := by
  rw [Int32.lt_iff_toInt_lt, Int32.lt_iff_toInt_lt, show (0 : Int32).toInt = 0 from rfl, show (255 : Int32).toInt = 255 by decide] at h
  have e : v.toInt = (v.toBitVec.toNat : Int) := by
    show v.toBitVec.toInt = _
    have h1 : ¬ v.toBitVec.toInt < 0 := h.1
    rw [BitVec.toInt_eq_toNat_cond] at h1 ⊢
    split <;> rename_i q
    · rfl
    · rw [if_neg q] at h1; have := v.toBitVec.isLt; omega
  apply Int32.toBitVec_inj.mp
  apply BitVec.eq_of_toNat_eq
  rw [Int32.toBitVec_and, BitVec.toNat_and, show (255 : Int32).toBitVec.toNat = 2 ^ 8 - 1 from rfl, Nat.and_two_pow_sub_one_eq_mod]
  omega
theorem own_narc {v : Int32} (h : ¬ v < (0 : Int32) ∧ ¬ (255 : Int32) < v) : nar .char v = v := by
  have e := own_and255_of h
  rw [← e]; exact i2c_mask v
theorem own_fitc {v : Int32} (h : ¬ v < (0 : Int32) ∧ ¬ (255 : Int32) < v) : fits .char (.int v) = true := by
  have q := fits_nar_char v; rw [own_narc h] at q; exact q
theorem own_b255 {v : Int32} (h : ¬ v < (0 : Int32) ∧ ¬ (255 : Int32) < v) : (nar .byte (v.toInt8.toInt32)) &&& (255 : Int32) = v := by
  refine Eq.trans ?_ (own_and255_of h)
  have e : (v.toInt8.toInt32).toInt8 = v.toInt8 := by
    apply Int8.toBitVec_inj.mp; rw [Int32.toBitVec_toInt8, Int8.toBitVec_toInt32, BitVec.signExtend_eq_setWidth_of_le _ (by omega)]
    apply BitVec.eq_of_toNat_eq
    rw [BitVec.toNat_setWidth, BitVec.toNat_signExtend]
    have := v.toInt8.toBitVec.isLt
    simp only [BitVec.toNat_setWidth]
    split <;> omega
  show (v.toInt8.toInt32).toInt8.toInt32 &&& 255 = v &&& 255
  rw [e]
  apply Int32.toBitVec_inj.mp
  apply BitVec.eq_of_toNat_eq
  rw [Int32.toBitVec_and, Int32.toBitVec_and, BitVec.toNat_and, BitVec.toNat_and, show (255 : Int32).toBitVec.toNat = 2 ^ 8 - 1 from rfl, Nat.and_two_pow_sub_one_eq_mod, Nat.and_two_pow_sub_one_eq_mod, Int8.toBitVec_toInt32, Int32.toBitVec_toInt8, BitVec.toNat_signExtend]
  have h1 := v.toBitVec.isLt
  simp only [BitVec.toNat_setWidth, BitVec.toNat_signExtend]
  split <;> split <;> omega
theorem own_narrowc (x : Int32) : narrow .char (.int (x &&& 255)) = .int (x &&& 255) := congrArg Value.int (own_narc (own_m255 x))
theorem adr_lt {a b : Nat} (h : @LT.lt Nat instLTNat a b) : a < b := h
theorem adr_ne {a b : Nat} (h : ¬ a = b) : a ≠ b := h
theorem own_nz {s : State} {args : Array Value} {t : Term} {z : Int32} (e : t.eval args s none [] s = some (.int z)) (h : (Jvm.Cond.not (.eq t (.int 0))).value args s none s [] = some true) : ¬ z = (0 : Int32) := fun q => by
  subst q; have h2 := not_v h; simp [Cond.value, e, Term.eval] at h2
theorem fits_isref {C : String} {w : Value} (h : w.isRef = true) : fits (.object C) w = true := by rcases ref_cases h with rfl | ⟨z, rfl⟩ <;> rfl
theorem narrow_ref {t : FieldType} {w : Value} (h : w.isRef = true) : narrow t w = w := by rcases ref_cases h with rfl | ⟨z, rfl⟩ <;> cases t <;> rfl
end Own
/-! the wide family: walks that load String constants -/
section Wide
variable {p : Program} {l : Launch} {e : Env} {R : Room} {s : State} {m : MethodId} {args : Array Value} {below : List Frame} {meth : Method} {c : Code} {T S0 : State} {locs : List Loc} {cells slots : Nat} {Z : State} {a0 : Array Value} {h h0 : Heap} {Q : Option Value → Heap → List Loc → Prop} {EL : List (String × Nat)} {vm vm0 : Vm} {sf : List Addr} {n : Nat}
abbrev ConW (l : Launch) (Z : State) (EL : List (String × Nat)) (y : MethodName) (bs : ByteArray) (ml : Nat) (rt : Option FieldType) (ws : List Jvm.Cond) (R : Room) (as' : Array Value) (h0 : Heap) (sf : List Addr) (Q : Option Value → Heap → List Loc → Prop) : Prop :=
  MetFree l y (head1 (Jvm.Cond.code y bs ml rt :: ws) R) (fun a U => a = as' ∧ Z.Warmed39 U.vm ∧ U.heap = h0 ∧ CHv Z EL U.vm h0 ∧ ∀ x ∈ sf, Safe Z EL U.vm h0 x) (fun _ _ _ _ _ => True)
    (fun _ U o U' => ∃ v L, o = .returned v ∧ Q v U'.heap L ∧ CHr Z EL U.vm U.heap U'.vm U'.heap ∧ ReturnedEndW U o U' L R.cells R.slots)
def FinW (p : Program) (e : Env) (below : List Frame) (s : State) (R : Room) (S0 : State) (Z : State) (EL : List (String × Nat)) (vm0 : Vm) (h0 : Heap) (Q : Option Value → Heap → List Loc → Prop) : Prop :=
  ∃ s₂ o, Steps p.tables e below S0 s₂ ∧ s₂.status = .running ∧ Ended s₂ below o ∧ ∃ v L, o = .returned v ∧ Q v s₂.heap L ∧ CHr Z EL vm0 h0 s₂.vm s₂.heap ∧ ReturnedEndW s o s₂ L R.cells R.slots
theorem enterW {y : MethodName} {bs : ByteArray} {ml : Nat} {rt : Option FieldType} {ws : List Jvm.Cond} {as' : Array Value} {Ls : Array Slot} (hpl : plainFor y = true) (hef : ∀ m, entryFrame m as' ml = mkF m 0 Ls [])
    (body : ∀ (p : Program) (e : Env) (s : State) (m : MethodId) (below : List Frame) (meth : Method) (c : Code) (s₁ S0 : State) (vm0 : Vm), p.tables.exec = Jvm.exec → c.code = bs → c.maxLocals = ml → meth.sig.returnType = rt → meth.locks = false → meth.name = y.name →
      vm0.findClass y.cls = some m.cls → Z.Warmed39 vm0 → Stand p l e R (s.setVm vm0) m as' below meth c s₁ [] 0 0 → s₁.heap = h0 → To p.tables e below S0 (s₁.setTop (mkF m 0 Ls [])) → CHr Z EL vm0 h0 vm0 h0 → (∀ x ∈ sf, Safe Z EL vm0 h0 x) → s.Since vm0 h0.size → FinW p e below s R S0 Z EL vm0 h0 Q) : ConW l Z EL y bs ml rt ws R as' h0 sf Q := by
  refine MetFree.of_bodySF hpl hisR ?_
  intro p e s m args below meth c s₁ Bd hml0 hP hK
  obtain ⟨rfl, hZ, hh, hC, hsf⟩ := hP
  subst hh
  exact body p e s m below meth c s₁ _ s.vm Bd.exec Bd.bytes hml0 Bd.returns Bd.notSynchronized (name_of_methodNamed Bd.named Bd.method).1 (findClass_of_methodNamed Bd.named) hZ (show Stand p l e R s m _ below meth c s₁ [] 0 0 from Stand.of_body Bd) (by rw [Bd.state]; rfl) (fun t k => castTop (hef m) k) (CHr.refl hC) hsf ((State.WarmedH.refl s).since _)
theorem endW_mono {s t : State} {o : Outcome} {L : List Loc} {k n k' n' : Nat} (h : ReturnedEndW s o t L k n) (hk : k ≤ k') (hn : n ≤ n') : ReturnedEndW s o t L k' n' := ⟨h.1, h.2.1, h.2.2.1, h.2.2.2.mono hk hn⟩
theorem retVW (X : Stand p l e R (s.setVm vm) m args below meth c T locs cells slots) (hx : p.tables.exec = Jvm.exec) (hZ : Z.Warmed39 vm) (hEL : EW Z a0 EL) (hS : s.Since vm n) (hn0 : n ≤ h.size) (C : CHr Z EL vm0 h0 vm h) (eT : T.heap = h) {pc : Nat} {Ls : Array Slot} {w : Value} {t : FieldType} {i : Instr} {rest : List Value} (hret : meth.sig.returnType = some t) (hlk : meth.locks = false) (hn : narrow t w = w)
    (hi : (i = .ireturn ∧ (t = .int ∨ t = .boolean ∨ t = .byte ∨ t = .char ∨ t = .short) ∧ ∃ z, w = .int z) ∨ (i = .lreturn ∧ t = .long ∧ ∃ z, w = .long z) ∨ (i = .dreturn ∧ t = .double ∧ ∃ z, w = .double z) ∨ (i = .freturn ∧ t = .float ∧ ∃ z, w = .float z) ∨ (i = .areturn ∧ t.isReference = true ∧ w.isRef = true))
    (hd : decode c.code pc = .ok (i, 1)) (k : To p.tables e below S0 (T.setTop (mkF m pc Ls (w :: rest)))) (hQ : Q (some w) h locs) (hc : cells ≤ R.cells) (hs : slots ≤ R.slots) : FinW p e below s R S0 Z EL vm0 h0 Q := by
  subst eT
  obtain ⟨fs, hr, hrun, hended, hend⟩ := leaveW X hS hn0 (v := some w) (fun h => by rw [hret] at h; cases h) hlk
  have A := C.trans (CHv.at X hZ hEL C.1)
  exact ⟨_, _, k _ (retOut X hx hret hn hi hd hr), hrun, hended, _, _, rfl, hQ, A, endW_mono hend hc hs⟩
theorem retIntW (X : Stand p l e R (s.setVm vm) m args below meth c T locs cells slots) (hx : p.tables.exec = Jvm.exec) (hZ : Z.Warmed39 vm) (hEL : EW Z a0 EL) (hS : s.Since vm n) (hn0 : n ≤ h.size) (C : CHr Z EL vm0 h0 vm h) (eT : T.heap = h) {pc : Nat} {Ls : Array Slot} {z : Int32} {t : FieldType} {rest : List Value} (hret : meth.sig.returnType = some t) (hlk : meth.locks = false) (ht : t = .int ∨ t = .boolean ∨ t = .byte ∨ t = .char ∨ t = .short) (hn : narrow t (.int z) = .int z)
    (hd : decode c.code pc = .ok (.ireturn, 1)) (k : To p.tables e below S0 (T.setTop (mkF m pc Ls (.int z :: rest)))) (hQ : Q (some (.int z)) h locs) (hc : cells ≤ R.cells) (hs : slots ≤ R.slots) : FinW p e below s R S0 Z EL vm0 h0 Q :=
  retVW X hx hZ hEL hS hn0 C eT hret hlk hn (Or.inl ⟨rfl, ht, z, rfl⟩) hd k hQ hc hs
theorem retRefW (X : Stand p l e R (s.setVm vm) m args below meth c T locs cells slots) (hx : p.tables.exec = Jvm.exec) (hZ : Z.Warmed39 vm) (hEL : EW Z a0 EL) (hS : s.Since vm n) (hn0 : n ≤ h.size) (C : CHr Z EL vm0 h0 vm h) (eT : T.heap = h) {pc : Nat} {Ls : Array Slot} {w : Value} {t : FieldType} {rest : List Value} (hret : meth.sig.returnType = some t) (hlk : meth.locks = false) (ht : t.isReference = true) (hw : w.isRef = true)
    (hd : decode c.code pc = .ok (.areturn, 1)) (k : To p.tables e below S0 (T.setTop (mkF m pc Ls (w :: rest)))) (hQ : Q (some w) h locs) (hc : cells ≤ R.cells) (hs : slots ≤ R.slots) : FinW p e below s R S0 Z EL vm0 h0 Q :=
  retVW X hx hZ hEL hS hn0 C eT hret hlk (narrow_ref hw) (Or.inr (Or.inr (Or.inr (Or.inr ⟨rfl, ht, hw⟩)))) hd k hQ hc hs
theorem retVoidW (X : Stand p l e R (s.setVm vm) m args below meth c T locs cells slots) (hx : p.tables.exec = Jvm.exec) (hZ : Z.Warmed39 vm) (hEL : EW Z a0 EL) (hS : s.Since vm n) (hn0 : n ≤ h.size) (C : CHr Z EL vm0 h0 vm h) (eT : T.heap = h) {pc : Nat} {Ls : Array Slot} (hret : meth.sig.returnType = none) (hlk : meth.locks = false)
    (hd : decode c.code pc = .ok (.return_, 1)) (k : To p.tables e below S0 (T.setTop (mkF m pc Ls []))) (hQ : Q none h locs) (hc : cells ≤ R.cells) (hs : slots ≤ R.slots) : FinW p e below s R S0 Z EL vm0 h0 Q := by
  subst eT
  obtain ⟨fs, hr, hrun, hended, hend⟩ := leaveW X hS hn0 (v := none) (fun _ => rfl) hlk
  have A := C.trans (CHv.at X hZ hEL C.1)
  exact ⟨_, _, k _ (X.returnOut hx hret hd hr), hrun, hended, _, _, rfl, hQ, A, endW_mono hend hc hs⟩
theorem backOfW {y : MethodName} {bs : ByteArray} {ml : Nat} {rt : Option FieldType} {rm : Room} {len W : Nat} {as' : Array Value} (hM : ConW l Z EL y bs ml rt [] rm as' h sf Q) (hZ : Z.Warmed39 vm) (wc : (Cond.code y bs ml rt).before a0 Z = true) (wz : (Cond.initialized y.cls).before a0 Z = true)
    (hf : rm.frames + 1 ≤ R.frames) (hl : W + (ml + 11) + rm.locals ≤ R.locals) (hEL : EW Z a0 EL) (H : CHv Z EL vm h) (hsf : ∀ x ∈ sf, x < h.size ∧ Safe Z EL vm h x) :
    BackS l R p e below (s.setVm vm) args y len W (fun A a => a = as' ∧ A.U.heap = h ∧ A.cells + rm.cells ≤ R.cells ∧ A.slots + rm.slots ≤ R.slots)
      (fun A _ v B => ∃ L, Q v B.U.heap L ∧ B.locs = A.locs ++ L ∧ B.cells = A.cells + rm.cells ∧ B.slots = A.slots + rm.slots ∧ CHr Z EL vm h B.U.vm B.U.heap) :=
  BackS.of_freeW (bytes := bs) (maxL := ml) (ret := rt) (E := fun _ first o t L k n => k = rm.cells ∧ n = rm.slots ∧ (∃ v, o = .returned v ∧ Q v t.heap L) ∧ CHr Z EL first.vm first.heap t.vm t.heap) hM hf hl
    (fun m meth c A a Y hp => have hU : Z.Warmed39 A.U.vm := wtrans (s := s.setVm vm) hZ Y.warmed
      ⟨by show (Cond.and _ .tt).before a A.U = true; rw [Cond.before_and, mv hU wc]; rfl, mv hU wc, mv hU wz, hp.2.2.1, hp.2.2.2⟩)
    (fun m meth c A a g mk Y hp => ⟨hp.1, wtrans (s := s.setVm vm) hZ Y.warmed, hp.2.1, (CHv.at Y hZ hEL H).1, fun x hx => (CHv.at Y hZ hEL H).safe (hsf x hx).1 (hsf x hx).2⟩) (fun _ _ _ _ _ _ _ _ _ => trivial)
    (fun _ _ _ _ ⟨v, L, h1, h2, h3, h4⟩ => ⟨L, _, _, h4, rfl, rfl, ⟨v, h1, h2⟩, h3⟩)
    (fun m meth c A a g mk v t L k n Y hp _ _ ⟨e1, e2, ⟨v', e3, e4⟩, e5⟩ => by
      cases e3; subst e1 e2
      refine ⟨L, e4, rfl, rfl, rfl, (CHv.at Y hZ hEL H).trans ?_⟩
      rw [← hp.2.1]; exact e5)
/-- what lies behind a call that may intern -/
abbrev BehW (p : Program) (l : Launch) (e : Env) (R : Room) (s : State) (m : MethodId) (args : Array Value) (below : List Frame) (meth : Method) (c : Code) (Z : State) (EL : List (String × Nat)) (vm : Vm) (h : Heap) (locs : List Loc) (cells slots cc ss : Nat) (own : String) (Q : Option Value → Heap → List Loc → Prop) (S0 : State) (pc : Nat) (Ls : Array Slot) (rest : List Value) : Prop :=
  ∃ v T' L, Stand p l e R (s.setVm T'.vm) m args below meth c T' (locs ++ L) (cells + cc) (slots + ss) ∧ Q v T'.heap L ∧ To p.tables e below S0 (T'.setTop (mkF m pc Ls (v.toList ++ rest))) ∧ CHr Z EL vm h T'.vm T'.heap ∧ s.Since T'.vm T'.heap.size ∧ Z.Warmed39 T'.vm ∧ T'.vm.findClass own = some m.cls
theorem behW {own : String} {cc ss : Nat} {pc : Nat} {Ls : Array Slot} {rest : List Value} {v : Option Value} {T' : State} {L : List Loc} (hZ : Z.Warmed39 vm) (hown : vm.findClass own = some m.cls) (hS : s.Since vm n) (hn : n ≤ h.size) (X' : Stand p l e R ((s.setVm vm).setVm T'.vm) m args below meth c T' (locs ++ L) (cells + cc) (slots + ss)) (hS' : (s.setVm vm).Since T'.vm T'.heap.size) (hg : h.size ≤ T'.heap.size)
    (hQ : Q v T'.heap L) (hC : CHr Z EL vm h T'.vm T'.heap) (k : To p.tables e below S0 (T'.setTop (mkF m pc Ls (v.toList ++ rest)))) : BehW p l e R s m args below meth c Z EL vm h locs cells slots cc ss own Q S0 pc Ls rest :=
  ⟨v, T', L, X', hQ, k, hC, hS.trans hS' (Nat.le_trans hn hg), State.Warmed39.trans (t := s.setVm vm) hZ hS'.1, by rw [hS'.1.alike.findClass]; exact hown⟩
theorem callSW (X : Stand p l e R (s.setVm vm) m args below meth c T locs cells slots) (hx : p.tables.exec = Jvm.exec) (hZ : Z.Warmed39 vm) {own : String} {index : Nat} {y : MethodName} {bs : ByteArray} {ml : Nat} {rt : Option FieldType} {cc ss W : Nat} {as' : Array Value}
    (hown : vm.findClass own = some m.cls) (hS : s.Since vm n) (hn : n ≤ h.size) (w1 : (Cond.methodLink own index y).before a0 Z = true) (w2 : (Cond.static y).before a0 Z = true) (w3 : (Cond.initialized y.cls).before a0 Z = true) (w4 : (Cond.code y bs ml rt).before a0 Z = true) (hy : y.cls ≠ "java/lang/invoke/MethodHandle" ∧ y.cls ≠ "java/lang/invoke/VarHandle")
    (hK : BackS l R p e below (s.setVm vm) args y 3 W (fun A a => a = as' ∧ A.U.heap = h ∧ A.cells + cc ≤ R.cells ∧ A.slots + ss ≤ R.slots) (fun A _ v B => ∃ L, Q v B.U.heap L ∧ B.locs = A.locs ++ L ∧ B.cells = A.cells + cc ∧ B.slots = A.slots + ss ∧ CHr Z EL vm h B.U.vm B.U.heap)) (eT : T.heap = h) {pc : Nat} {Ls : Array Slot} {st argsL rest : List Value} (hst : st = argsL.reverse ++ rest) (has : argsL.toArray = as') {ps : List FieldType} {r : Option FieldType} (hpd : parseMethodDescriptor y.desc = some ⟨ps, r⟩) (hlen : argsL.length = ps.length) (hsize : Ls.size = c.maxLocals)
    (hd : decode c.code pc = .ok (.invokestatic index, 3)) (hW : (rest.map fun v => v.category).sum ≤ W) (hc : cells + cc ≤ R.cells) (hs : slots + ss ≤ R.slots) (k : To p.tables e below S0 (T.setTop (mkF m pc Ls st))) :
    BehW p l e R s m args below meth c Z EL vm h locs cells slots cc ss own Q S0 (pc + 3) Ls rest := by
  obtain ⟨v, vm₁, ⟨T', L', k', n'⟩, -, X', hS', hg, ⟨L, hQ, q1, q2, q3, hC⟩, stp⟩ := callSS X hx hown (mvT (s := s.setVm vm) hZ w1) (mvT (s := s.setVm vm) hZ w2) (mvT (s := s.setVm vm) hZ w3) (mvT (s := s.setVm vm) hZ w4) hy hK (g := mkF m pc Ls st) rfl hsize (argsL := argsL) (rest := rest) (lenOf hpd hlen) hst (by show 2 * 0 + _ ≤ _; omega) hd (fun _ _ => ⟨has, eT, hc, hs⟩)
  dsimp only [Pt.U, Pt.locs, Pt.cells, Pt.slots] at X' q1 q2 q3 stp hQ hS' hg hC
  subst q1 q2 q3
  exact behW hZ hown hS hn X' hS' (eT ▸ hg) hQ hC fun t q => k t (stp.trans q)
theorem callCW (X : Stand p l e R (s.setVm vm) m args below meth c T locs cells slots) (hx : p.tables.exec = Jvm.exec) (hZ : Z.Warmed39 vm) {own : String} {index : Nat} {y : MethodName} {bs : ByteArray} {ml : Nat} {cc ss W : Nat} {as' : Array Value}
    (hy1 : y.name = "<init>") (hown : vm.findClass own = some m.cls) (hS : s.Since vm n) (hn : n ≤ h.size) (w1 : (Cond.methodLink own index y).before a0 Z = true) (w2 : (Cond.instanceMethod y).before a0 Z = true) (w4 : (Cond.code y bs ml none).before a0 Z = true) (hy : y.cls ≠ "java/lang/invoke/MethodHandle" ∧ y.cls ≠ "java/lang/invoke/VarHandle")
    (hK : BackS l R p e below (s.setVm vm) args y 3 W (fun A a => a = as' ∧ A.U.heap = h ∧ A.cells + cc ≤ R.cells ∧ A.slots + ss ≤ R.slots) (fun A _ v B => ∃ L, Q v B.U.heap L ∧ B.locs = A.locs ++ L ∧ B.cells = A.cells + cc ∧ B.slots = A.slots + ss ∧ CHr Z EL vm h B.U.vm B.U.heap)) (eT : T.heap = h) {pc : Nat} {Ls : Array Slot} {a : Addr} {st argsL rest : List Value} (hst : st = argsL.reverse ++ .ref a :: rest) (has : (.ref a :: argsL).toArray = as') {ps : List FieldType} {r : Option FieldType} (hpd : parseMethodDescriptor y.desc = some ⟨ps, r⟩) (hlen : argsL.length = ps.length) (hsize : Ls.size = c.maxLocals)
    (hd : decode c.code pc = .ok (.invokespecial index, 3)) (hW : (rest.map fun v => v.category).sum ≤ W) (hc : cells + cc ≤ R.cells) (hs : slots + ss ≤ R.slots) (k : To p.tables e below S0 (T.setTop (mkF m pc Ls st))) :
    BehW p l e R s m args below meth c Z EL vm h locs cells slots cc ss own Q S0 (pc + 3) Ls rest := by
  obtain ⟨v, vm₁, ⟨T', L', k', n'⟩, -, X', hS', hg, ⟨L, hQ, q1, q2, q3, hC⟩, stp⟩ := specialBackS X hx hy1 hown (mvT (s := s.setVm vm) hZ w1) (mvT (s := s.setVm vm) hZ w2) (mvT (s := s.setVm vm) hZ w4) hy hK (g := mkF m pc Ls st) rfl hsize (Steps.refl _) (a := a) (argsL := argsL) (rest := rest) (lenOf hpd hlen) hst (by show 2 * 0 + _ ≤ _; omega) hd (fun _ _ => ⟨has, eT, hc, hs⟩)
  dsimp only [Pt.U, Pt.locs, Pt.cells, Pt.slots] at X' q1 q2 q3 stp hQ hS' hg hC
  subst q1 q2 q3
  exact behW hZ hown hS hn X' hS' (eT ▸ hg) hQ hC fun t q => k t (stp.trans q)
theorem callVW (X : Stand p l e R (s.setVm vm) m args below meth c T locs cells slots) (hx : p.tables.exec = Jvm.exec) (hZ : Z.Warmed39 vm) {own C : String} {index : Nat} {y z : MethodName} {cc ss W : Nat} {as' : Array Value}
    (hown : vm.findClass own = some m.cls) (hS : s.Since vm n) (hn : n ≤ h.size) (w1 : (Cond.methodLink own index y).before a0 Z = true) (w2 : (Cond.declares y).before a0 Z = true) (hnf : NotFace (s.setVm vm) y) (w5 : (Cond.selects C y z).before a0 Z = true) (w6 : (Cond.instanceMethod z).before a0 Z = true)
    (hy : y.cls ≠ "java/lang/invoke/MethodHandle" ∧ y.cls ≠ "java/lang/invoke/VarHandle") {b : Addr} (E : Exa Z h b C)
    (hK : BackS l R p e below (s.setVm vm) args z 3 W (fun A a => a = as' ∧ A.U.heap = h ∧ A.cells + cc ≤ R.cells ∧ A.slots + ss ≤ R.slots) (fun A _ v B => ∃ L, Q v B.U.heap L ∧ B.locs = A.locs ++ L ∧ B.cells = A.cells + cc ∧ B.slots = A.slots + ss ∧ CHr Z EL vm h B.U.vm B.U.heap)) (eT : T.heap = h) {pc : Nat} {Ls : Array Slot} {st argsL rest : List Value} (hst : st = argsL.reverse ++ .ref b :: rest) (has : (.ref b :: argsL).toArray = as') {ps : List FieldType} {r : Option FieldType} (hpd : parseMethodDescriptor y.desc = some ⟨ps, r⟩) (hlen : argsL.length = ps.length) (hsize : Ls.size = c.maxLocals)
    (hd : decode c.code pc = .ok (.invokevirtual index, 3)) (hW : (rest.map fun v => v.category).sum ≤ W) (hc : cells + cc ≤ R.cells) (hs : slots + ss ≤ R.slots) (k : To p.tables e below S0 (T.setTop (mkF m pc Ls st))) :
    BehW p l e R s m args below meth c Z EL vm h locs cells slots cc ss own Q S0 (pc + 3) Ls rest := by
  obtain ⟨cq, kq, qa, qb, qc⟩ := isOf (s := s.setVm vm) hZ eT E
  obtain ⟨v, vm₁, ⟨T', L', k', n'⟩, -, X', hS', hg, ⟨L, hQ, q1, q2, q3, hC⟩, stp⟩ := virtualBackS X hx hown (mvT (s := s.setVm vm) hZ w1) (mvT (s := s.setVm vm) hZ w2) hnf (mvT (s := s.setVm vm) hZ w5) (mvT (s := s.setVm vm) hZ w6) hy hK qa qc (g := mkF m pc Ls st) rfl hsize (Steps.refl _) (argsL := argsL) (rest := rest) (lenOf hpd hlen) hst (by show 2 * 0 + _ ≤ _; omega) hd (fun _ _ => ⟨has, eT, hc, hs⟩)
  dsimp only [Pt.U, Pt.locs, Pt.cells, Pt.slots] at X' q1 q2 q3 stp hQ hS' hg hC
  subst q1 q2 q3
  exact behW hZ hown hS hn X' hS' (eT ▸ hg) hQ hC fun t q => k t (stp.trans q)
end Wide
/-- an array in an object's field, of length 0 -/
theorem own_empty {s : State} {args : Array Value} {t : Term} {q : Addr} {C f : String} {ty : FieldType} (hf : Fit s) (ev : t.eval args s none [] s = some (.ref q)) {d : String} (h1 : (Jvm.Cond.arrayOf (.field t C f d) ty).value args s none s [] = some true) (h2 : (Jvm.Cond.eq (.length (.field t C f d)) (.int 0)).value args s none s [] = some true) :
    ∃ b k, Fld s s.heap q C f d (.ref b) ∧ Arv s s.heap b k ty (0 : Int32) [] .null := by
  obtain ⟨b, eb⟩ := arr_v h1
  obtain ⟨cl, A⟩ := Arr.start eb h1
  have F : Fld s s.heap q C f d (.ref b) := Fld.start (by rw [← fld_at ev]; exact eb)
  have el := eqv_i (Term.int_eval _) h2
  have ha := A.fin (U := s) (Vm.Alike.refl _)
  have hl : cl.slots.size < 2 ^ 31 ∧ cl.slots.size.toInt32 = 0 := by
    by_cases hq : cl.slots.size < 2 ^ 31
    · have := len_f eb ha hq; rw [el] at this; exact ⟨hq, (Value.int.inj (Option.some.inj this)).symm⟩
    · exfalso; simp only [Term.eval] at el eb; rw [eb] at el; simp [ha, hq] at el
  exact ⟨b, cl.cls, F, Arv.start hf A hl.1 hl.2 (by decide) rfl trivial⟩
abbrev own_EL : List (String × Nat) := consts_1
theorem own_EW {Z : State} {a0 : Array Value} (hw : ∀ d ∈ tables_1, d.before a0 Z = true) : EW Z a0 own_EL := (EW.cons (hw _ (List.mem_of_getElem? (i := 21) rfl)) (by decide) EW.nil)
theorem own_wS {Z : State} {a0 : Array Value} (hw : ∀ d ∈ tables_1, d.before a0 Z = true) : ∀ a ∈ Bundle.stringAtoms, a.before a0 Z = true := fun a ha => by
  simp only [Bundle.stringAtoms, List.mem_cons, List.not_mem_nil, or_false] at ha
  rcases ha with rfl | rfl | rfl | rfl | rfl | rfl | rfl
  · exact (hw _ (List.mem_of_getElem? (i := 9) rfl))
  · exact (hw _ (List.mem_of_getElem? (i := 8) rfl))
  · exact (hw _ (List.mem_of_getElem? (i := 22) rfl))
  · exact (hw _ (List.mem_of_getElem? (i := 23) rfl))
  · exact (hw _ (List.mem_of_getElem? (i := 24) rfl))
  · exact (hw _ (List.mem_of_getElem? (i := 25) rfl))
  · exact (hw _ (List.mem_of_getElem? (i := 26) rfl))
theorem d_jdk_52_method_21_code_0 : decode jdk_52_method_21_code 0 = .ok (.iconst 0, 1) := by decide +kernel
theorem d_jdk_52_method_21_code_1 : decode jdk_52_method_21_code 1 = .ok (.istore 5, 2) := by decide +kernel
theorem d_jdk_52_method_21_code_3 : decode jdk_52_method_21_code 3 = .ok (.iload 5, 2) := by decide +kernel
theorem d_jdk_52_method_21_code_5 : decode jdk_52_method_21_code 5 = .ok (.iload 4, 2) := by decide +kernel
theorem d_jdk_52_method_21_code_7 : decode jdk_52_method_21_code 7 = .ok (.if_icmp .ge 37, 3) := by decide +kernel
theorem d_jdk_52_method_21_code_10 : decode jdk_52_method_21_code 10 = .ok (.aload_n 0, 1) := by decide +kernel
theorem d_jdk_52_method_21_code_11 : decode jdk_52_method_21_code 11 = .ok (.iload_n 1, 1) := by decide +kernel
theorem d_jdk_52_method_21_code_12 : decode jdk_52_method_21_code 12 = .ok (.caload, 1) := by decide +kernel
theorem d_jdk_52_method_21_code_13 : decode jdk_52_method_21_code 13 = .ok (.istore 6, 2) := by decide +kernel
theorem d_jdk_52_method_21_code_15 : decode jdk_52_method_21_code 15 = .ok (.iload 6, 2) := by decide +kernel
theorem d_jdk_52_method_21_code_17 : decode jdk_52_method_21_code 17 = .ok (.sipush 255, 3) := by decide +kernel
theorem d_jdk_52_method_21_code_20 : decode jdk_52_method_21_code 20 = .ok (.if_icmp .le 6, 3) := by decide +kernel
theorem d_jdk_52_method_21_code_23 : decode jdk_52_method_21_code 23 = .ok (.iload 5, 2) := by decide +kernel
theorem d_jdk_52_method_21_code_25 : decode jdk_52_method_21_code 25 = .ok (.ireturn, 1) := by decide +kernel
theorem d_jdk_52_method_21_code_26 : decode jdk_52_method_21_code 26 = .ok (.aload_n 2, 1) := by decide +kernel
theorem d_jdk_52_method_21_code_27 : decode jdk_52_method_21_code 27 = .ok (.iload_n 3, 1) := by decide +kernel
theorem d_jdk_52_method_21_code_28 : decode jdk_52_method_21_code 28 = .ok (.iload 6, 2) := by decide +kernel
theorem d_jdk_52_method_21_code_30 : decode jdk_52_method_21_code 30 = .ok (.i2b, 1) := by decide +kernel
theorem d_jdk_52_method_21_code_31 : decode jdk_52_method_21_code 31 = .ok (.bastore, 1) := by decide +kernel
theorem d_jdk_52_method_21_code_32 : decode jdk_52_method_21_code 32 = .ok (.iinc 1 1, 3) := by decide +kernel
theorem d_jdk_52_method_21_code_35 : decode jdk_52_method_21_code 35 = .ok (.iinc 3 1, 3) := by decide +kernel
theorem d_jdk_52_method_21_code_38 : decode jdk_52_method_21_code 38 = .ok (.iinc 5 1, 3) := by decide +kernel
theorem d_jdk_52_method_21_code_41 : decode jdk_52_method_21_code 41 = .ok (.goto (-38), 3) := by decide +kernel
theorem d_jdk_52_method_21_code_44 : decode jdk_52_method_21_code 44 = .ok (.iload 4, 2) := by decide +kernel
theorem d_jdk_52_method_21_code_46 : decode jdk_52_method_21_code 46 = .ok (.ireturn, 1) := by decide +kernel
theorem pn_0 : plainName "java/lang/StringUTF16" = true := by first | (simp [plainName, overriddenIn]; done) | decide +kernel
set_option maxRecDepth 65536 in
set_option maxHeartbeats 40000000 in
theorem rm_c5_2 (l : Launch) (Z : State) (a0 : Array Value) (hw : ∀ d ∈ tables_1, d.before a0 Z = true) (b : Addr) (kb : ClassId) (t : Addr) (kt : ClassId) (d0 : Int32) (d1 : Int32) (h0 : Heap) (n0 : Nat) (hn0 : n0 ≤ h0.size) (P0 : Arv Z h0 b kb .char (2 : Int32) [(.int d0), (.int d1)] (.int (0 : Int32))) (P1 : Arv Z h0 t kt .byte (2 : Int32) [(.int (0 : Int32)), (.int (0 : Int32))] (.int (0 : Int32))) (ga : n0 ≤ t) (nbt : ¬ (@Eq Nat b t)) (hd0 : ¬ d0 < (0 : Int32) ∧ ¬ (255 : Int32) < d0) (hd1 : ¬ d1 < (0 : Int32) ∧ ¬ (255 : Int32) < d1) :
    Con l Z (⟨"java/lang/StringUTF16", "compress", "([CI[BII)I"⟩ : MethodName) jdk_52_method_21_code 7 (some .int) [] ({ frames := 0, cells := 0, slots := 0, locals := 0 } : Room) #[(.ref b), (.int (0 : Int32)), (.ref t), (.int (0 : Int32)), (.int (2 : Int32))] h0 (fun v h L => v = some (.int (2 : Int32)) ∧ Fr n0 L ∧ Keep h0 h [t] ∧ Arv Z h t kt .byte (2 : Int32) [(.int (nar .byte (d0.toInt8.toInt32))), (.int (nar .byte (d1.toInt8.toInt32)))] (.int (0 : Int32))) := by
  refine enter (Ls := #[.val (.ref b), .val (.int (0 : Int32)), .val (.ref t), .val (.int (0 : Int32)), .val (.int (2 : Int32)), .unset, .unset]) (plainFor_of_name pn_0) (fun m => by exact entry_eq rfl) ?_
  intro p e s m below meth cd_ s₁ S0 hx hby hml hret hlk hnm hown hZ X0 e0 k0
  have N0 := Fr.nil n0
  have k1 : To p.tables e below S0 (s₁.setTop (mkF m 12 #[.val (.ref b), .val (.int (0 : Int32)), .val (.ref t), .val (.int (0 : Int32)), .val (.int (2 : Int32)), .val (.int (0 : Int32)), .unset] [(.int (0 : Int32)), (.ref b)])) := fun tt hq => k0 tt (by
    show Steps _ _ _ (s₁.setTop (mkF m 0 #[.val (.ref b), .val (.int (0 : Int32)), .val (.ref t), .val (.int (0 : Int32)), .val (.int (2 : Int32)), .unset, .unset] [])) _
    refine XS.iconst X0.here hx rfl (hb hby d_jdk_52_method_21_code_0) ?_
    show Steps _ _ _ (s₁.setTop (mkF m 1 #[.val (.ref b), .val (.int (0 : Int32)), .val (.ref t), .val (.int (0 : Int32)), .val (.int (2 : Int32)), .unset, .unset] [(.int (0 : Int32))])) _
    refine XS.istore X0.here hx rfl (hb hby d_jdk_52_method_21_code_1) rfl (l' := #[.val (.ref b), .val (.int (0 : Int32)), .val (.ref t), .val (.int (0 : Int32)), .val (.int (2 : Int32)), .val (.int (0 : Int32)), .unset]) rfl ?_
    show Steps _ _ _ (s₁.setTop (mkF m 3 #[.val (.ref b), .val (.int (0 : Int32)), .val (.ref t), .val (.int (0 : Int32)), .val (.int (2 : Int32)), .val (.int (0 : Int32)), .unset] [])) _
    refine XS.iload X0.here hx rfl (hb hby d_jdk_52_method_21_code_3) rfl ?_
    show Steps _ _ _ (s₁.setTop (mkF m 5 #[.val (.ref b), .val (.int (0 : Int32)), .val (.ref t), .val (.int (0 : Int32)), .val (.int (2 : Int32)), .val (.int (0 : Int32)), .unset] [(.int (0 : Int32))])) _
    refine XS.iload X0.here hx rfl (hb hby d_jdk_52_method_21_code_5) rfl ?_
    show Steps _ _ _ (s₁.setTop (mkF m 7 #[.val (.ref b), .val (.int (0 : Int32)), .val (.ref t), .val (.int (0 : Int32)), .val (.int (2 : Int32)), .val (.int (0 : Int32)), .unset] [(.int (2 : Int32)), (.int (0 : Int32))])) _
    refine XS.icmpNo X0.here hx rfl (hb hby d_jdk_52_method_21_code_7) rfl (tlt (by decide)).2.1 ?_
    show Steps _ _ _ (s₁.setTop (mkF m 10 #[.val (.ref b), .val (.int (0 : Int32)), .val (.ref t), .val (.int (0 : Int32)), .val (.int (2 : Int32)), .val (.int (0 : Int32)), .unset] [])) _
    refine XS.aloadN X0.here hx rfl (hb hby d_jdk_52_method_21_code_10) rfl rfl ?_
    show Steps _ _ _ (s₁.setTop (mkF m 11 #[.val (.ref b), .val (.int (0 : Int32)), .val (.ref t), .val (.int (0 : Int32)), .val (.int (2 : Int32)), .val (.int (0 : Int32)), .unset] [(.ref b)])) _
    refine XS.iloadN X0.here hx rfl (hb hby d_jdk_52_method_21_code_11) rfl ?_
    show Steps _ _ _ (s₁.setTop (mkF m 12 #[.val (.ref b), .val (.int (0 : Int32)), .val (.ref t), .val (.int (0 : Int32)), .val (.int (2 : Int32)), .val (.int (0 : Int32)), .unset] [(.int (0 : Int32)), (.ref b)])) _
    exact hq)
  obtain ⟨cl2, Ar2, -, S2, -, G2, -⟩ := id P0
  have hi2 := inb_of (j := (0 : Int32)) S2 ⟨by decide, by decide⟩
  have st2 := fun tt => X0.caload hx (j := (0 : Int32)) (v := (.int d0)) (by rw [e0]; exact Ar2.1) (State.isArrayOf_alike hZ.alike Ar2.2.1) Ar2.2.2 hi2 (G2.at hi2 rfl) (g := (mkF m 12 #[.val (.ref b), .val (.int (0 : Int32)), .val (.ref t), .val (.int (0 : Int32)), .val (.int (2 : Int32)), .val (.int (0 : Int32)), .unset] [(.int (0 : Int32)), (.ref b)])) rfl rfl (hb hby d_jdk_52_method_21_code_12) tt
  have k2 : To p.tables e below S0 (s₁.setTop (mkF m 13 #[.val (.ref b), .val (.int (0 : Int32)), .val (.ref t), .val (.int (0 : Int32)), .val (.int (2 : Int32)), .val (.int (0 : Int32)), .unset] [(.int d0)])) := fun tt hq => k1 tt (st2 tt hq)
  have k3 : To p.tables e below S0 (s₁.setTop (mkF m 31 #[.val (.ref b), .val (.int (0 : Int32)), .val (.ref t), .val (.int (0 : Int32)), .val (.int (2 : Int32)), .val (.int (0 : Int32)), .val (.int d0)] [(.int (d0.toInt8.toInt32)), (.int (0 : Int32)), (.ref t)])) := fun tt hq => k2 tt (by
    show Steps _ _ _ (s₁.setTop (mkF m 13 #[.val (.ref b), .val (.int (0 : Int32)), .val (.ref t), .val (.int (0 : Int32)), .val (.int (2 : Int32)), .val (.int (0 : Int32)), .unset] [(.int d0)])) _
    refine XS.istore X0.here hx rfl (hb hby d_jdk_52_method_21_code_13) rfl (l' := #[.val (.ref b), .val (.int (0 : Int32)), .val (.ref t), .val (.int (0 : Int32)), .val (.int (2 : Int32)), .val (.int (0 : Int32)), .val (.int d0)]) rfl ?_
    show Steps _ _ _ (s₁.setTop (mkF m 15 #[.val (.ref b), .val (.int (0 : Int32)), .val (.ref t), .val (.int (0 : Int32)), .val (.int (2 : Int32)), .val (.int (0 : Int32)), .val (.int d0)] [])) _
    refine XS.iload X0.here hx rfl (hb hby d_jdk_52_method_21_code_15) rfl ?_
    show Steps _ _ _ (s₁.setTop (mkF m 17 #[.val (.ref b), .val (.int (0 : Int32)), .val (.ref t), .val (.int (0 : Int32)), .val (.int (2 : Int32)), .val (.int (0 : Int32)), .val (.int d0)] [(.int d0)])) _
    refine XS.sipush X0.here hx rfl (hb hby d_jdk_52_method_21_code_17) ?_
    show Steps _ _ _ (s₁.setTop (mkF m 20 #[.val (.ref b), .val (.int (0 : Int32)), .val (.ref t), .val (.int (0 : Int32)), .val (.int (2 : Int32)), .val (.int (0 : Int32)), .val (.int d0)] [(.int (255 : Int32)), (.int d0)])) _
    refine XS.icmpYes X0.here hx rfl (pc0 := 20) (pc' := 26) rfl (hb hby d_jdk_52_method_21_code_20) rfl (flt hd0.2).2.2.2 (by decide) (by decide) ?_
    show Steps _ _ _ (s₁.setTop (mkF m 26 #[.val (.ref b), .val (.int (0 : Int32)), .val (.ref t), .val (.int (0 : Int32)), .val (.int (2 : Int32)), .val (.int (0 : Int32)), .val (.int d0)] [])) _
    refine XS.aloadN X0.here hx rfl (hb hby d_jdk_52_method_21_code_26) rfl rfl ?_
    show Steps _ _ _ (s₁.setTop (mkF m 27 #[.val (.ref b), .val (.int (0 : Int32)), .val (.ref t), .val (.int (0 : Int32)), .val (.int (2 : Int32)), .val (.int (0 : Int32)), .val (.int d0)] [(.ref t)])) _
    refine XS.iloadN X0.here hx rfl (hb hby d_jdk_52_method_21_code_27) rfl ?_
    show Steps _ _ _ (s₁.setTop (mkF m 28 #[.val (.ref b), .val (.int (0 : Int32)), .val (.ref t), .val (.int (0 : Int32)), .val (.int (2 : Int32)), .val (.int (0 : Int32)), .val (.int d0)] [(.int (0 : Int32)), (.ref t)])) _
    refine XS.iload X0.here hx rfl (hb hby d_jdk_52_method_21_code_28) rfl ?_
    show Steps _ _ _ (s₁.setTop (mkF m 30 #[.val (.ref b), .val (.int (0 : Int32)), .val (.ref t), .val (.int (0 : Int32)), .val (.int (2 : Int32)), .val (.int (0 : Int32)), .val (.int d0)] [(.int d0), (.int (0 : Int32)), (.ref t)])) _
    refine XS.i2b X0.here hx rfl (hb hby d_jdk_52_method_21_code_30) rfl ?_
    show Steps _ _ _ (s₁.setTop (mkF m 31 #[.val (.ref b), .val (.int (0 : Int32)), .val (.ref t), .val (.int (0 : Int32)), .val (.int (2 : Int32)), .val (.int (0 : Int32)), .val (.int d0)] [(.int (d0.toInt8.toInt32)), (.int (0 : Int32)), (.ref t)])) _
    exact hq)
  obtain ⟨cl4, Ar4, q4, S4, M4, G4, J4⟩ := id P1
  obtain ⟨T4, h4, X4, e4, W4, st4⟩ := stB X0 hx hZ e0 Ar4 (j := (0 : Int32)) (inb_of S4 ⟨by decide, by decide⟩) (g := (mkF m 31 #[.val (.ref b), .val (.int (0 : Int32)), .val (.ref t), .val (.int (0 : Int32)), .val (.int (2 : Int32)), .val (.int (0 : Int32)), .val (.int d0)] [(.int (d0.toInt8.toInt32)), (.int (0 : Int32)), (.ref t)])) rfl rfl (hb hby d_jdk_52_method_21_code_31)
  have k4 : To p.tables e below S0 (T4.setTop (mkF m 32 #[.val (.ref b), .val (.int (0 : Int32)), .val (.ref t), .val (.int (0 : Int32)), .val (.int (2 : Int32)), .val (.int (0 : Int32)), .val (.int d0)] [])) := fun tt hq => k3 tt (st4 tt hq)
  have z4 : h4.size = h0.size := W4.size
  have V4 : Arv Z h4 t kt .byte (2 : Int32) [(.int (nar .byte (d0.toInt8.toInt32))), (.int (0 : Int32))] (.int (0 : Int32)) := Arv.set Ar4 q4 S4 M4 G4 J4 (fits_nar_byte _) W4 0 rfl (Nat.le_of_ble_eq_true rfl)
  have N4 := Fr.snoc X4 N0 (by omega : n0 ≤ t)
  have f5 : Arv Z h4 b kb .char (2 : Int32) [(.int d0), (.int d1)] (.int (0 : Int32)) := (P0.other W4 (adr_ne (by omega)))
  have k6 : To p.tables e below S0 (T4.setTop (mkF m 12 #[.val (.ref b), .val (.int (1 : Int32)), .val (.ref t), .val (.int (1 : Int32)), .val (.int (2 : Int32)), .val (.int (1 : Int32)), .val (.int d0)] [(.int (1 : Int32)), (.ref b)])) := fun tt hq => k4 tt (by
    show Steps _ _ _ (T4.setTop (mkF m 32 #[.val (.ref b), .val (.int (0 : Int32)), .val (.ref t), .val (.int (0 : Int32)), .val (.int (2 : Int32)), .val (.int (0 : Int32)), .val (.int d0)] [])) _
    refine XS.iinc X4.here hx rfl (hb hby d_jdk_52_method_21_code_32) rfl (l' := #[.val (.ref b), .val (.int (1 : Int32)), .val (.ref t), .val (.int (0 : Int32)), .val (.int (2 : Int32)), .val (.int (0 : Int32)), .val (.int d0)]) rfl ?_
    show Steps _ _ _ (T4.setTop (mkF m 35 #[.val (.ref b), .val (.int (1 : Int32)), .val (.ref t), .val (.int (0 : Int32)), .val (.int (2 : Int32)), .val (.int (0 : Int32)), .val (.int d0)] [])) _
    refine XS.iinc X4.here hx rfl (hb hby d_jdk_52_method_21_code_35) rfl (l' := #[.val (.ref b), .val (.int (1 : Int32)), .val (.ref t), .val (.int (1 : Int32)), .val (.int (2 : Int32)), .val (.int (0 : Int32)), .val (.int d0)]) rfl ?_
    show Steps _ _ _ (T4.setTop (mkF m 38 #[.val (.ref b), .val (.int (1 : Int32)), .val (.ref t), .val (.int (1 : Int32)), .val (.int (2 : Int32)), .val (.int (0 : Int32)), .val (.int d0)] [])) _
    refine XS.iinc X4.here hx rfl (hb hby d_jdk_52_method_21_code_38) rfl (l' := #[.val (.ref b), .val (.int (1 : Int32)), .val (.ref t), .val (.int (1 : Int32)), .val (.int (2 : Int32)), .val (.int (1 : Int32)), .val (.int d0)]) rfl ?_
    show Steps _ _ _ (T4.setTop (mkF m 41 #[.val (.ref b), .val (.int (1 : Int32)), .val (.ref t), .val (.int (1 : Int32)), .val (.int (2 : Int32)), .val (.int (1 : Int32)), .val (.int d0)] [])) _
    refine XS.goto X4.here hx rfl (pc0 := 41) (pc' := 3) rfl (hb hby d_jdk_52_method_21_code_41) (by decide) (by decide) ?_
    show Steps _ _ _ (T4.setTop (mkF m 3 #[.val (.ref b), .val (.int (1 : Int32)), .val (.ref t), .val (.int (1 : Int32)), .val (.int (2 : Int32)), .val (.int (1 : Int32)), .val (.int d0)] [])) _
    refine XS.iload X4.here hx rfl (hb hby d_jdk_52_method_21_code_3) rfl ?_
    show Steps _ _ _ (T4.setTop (mkF m 5 #[.val (.ref b), .val (.int (1 : Int32)), .val (.ref t), .val (.int (1 : Int32)), .val (.int (2 : Int32)), .val (.int (1 : Int32)), .val (.int d0)] [(.int (1 : Int32))])) _
    refine XS.iload X4.here hx rfl (hb hby d_jdk_52_method_21_code_5) rfl ?_
    show Steps _ _ _ (T4.setTop (mkF m 7 #[.val (.ref b), .val (.int (1 : Int32)), .val (.ref t), .val (.int (1 : Int32)), .val (.int (2 : Int32)), .val (.int (1 : Int32)), .val (.int d0)] [(.int (2 : Int32)), (.int (1 : Int32))])) _
    refine XS.icmpNo X4.here hx rfl (hb hby d_jdk_52_method_21_code_7) rfl (tlt (by decide)).2.1 ?_
    show Steps _ _ _ (T4.setTop (mkF m 10 #[.val (.ref b), .val (.int (1 : Int32)), .val (.ref t), .val (.int (1 : Int32)), .val (.int (2 : Int32)), .val (.int (1 : Int32)), .val (.int d0)] [])) _
    refine XS.aloadN X4.here hx rfl (hb hby d_jdk_52_method_21_code_10) rfl rfl ?_
    show Steps _ _ _ (T4.setTop (mkF m 11 #[.val (.ref b), .val (.int (1 : Int32)), .val (.ref t), .val (.int (1 : Int32)), .val (.int (2 : Int32)), .val (.int (1 : Int32)), .val (.int d0)] [(.ref b)])) _
    refine XS.iloadN X4.here hx rfl (hb hby d_jdk_52_method_21_code_11) rfl ?_
    show Steps _ _ _ (T4.setTop (mkF m 12 #[.val (.ref b), .val (.int (1 : Int32)), .val (.ref t), .val (.int (1 : Int32)), .val (.int (2 : Int32)), .val (.int (1 : Int32)), .val (.int d0)] [(.int (1 : Int32)), (.ref b)])) _
    exact hq)
  obtain ⟨cl7, Ar7, -, S7, -, G7, -⟩ := id f5
  have hi7 := inb_of (j := (1 : Int32)) S7 ⟨by decide, by decide⟩
  have st7 := fun tt => X4.caload hx (j := (1 : Int32)) (v := (.int d1)) (by rw [e4]; exact Ar7.1) (State.isArrayOf_alike hZ.alike Ar7.2.1) Ar7.2.2 hi7 (G7.at hi7 rfl) (g := (mkF m 12 #[.val (.ref b), .val (.int (1 : Int32)), .val (.ref t), .val (.int (1 : Int32)), .val (.int (2 : Int32)), .val (.int (1 : Int32)), .val (.int d0)] [(.int (1 : Int32)), (.ref b)])) rfl rfl (hb hby d_jdk_52_method_21_code_12) tt
  have k7 : To p.tables e below S0 (T4.setTop (mkF m 13 #[.val (.ref b), .val (.int (1 : Int32)), .val (.ref t), .val (.int (1 : Int32)), .val (.int (2 : Int32)), .val (.int (1 : Int32)), .val (.int d0)] [(.int d1)])) := fun tt hq => k6 tt (st7 tt hq)
  have k8 : To p.tables e below S0 (T4.setTop (mkF m 31 #[.val (.ref b), .val (.int (1 : Int32)), .val (.ref t), .val (.int (1 : Int32)), .val (.int (2 : Int32)), .val (.int (1 : Int32)), .val (.int d1)] [(.int (d1.toInt8.toInt32)), (.int (1 : Int32)), (.ref t)])) := fun tt hq => k7 tt (by
    show Steps _ _ _ (T4.setTop (mkF m 13 #[.val (.ref b), .val (.int (1 : Int32)), .val (.ref t), .val (.int (1 : Int32)), .val (.int (2 : Int32)), .val (.int (1 : Int32)), .val (.int d0)] [(.int d1)])) _
    refine XS.istore X4.here hx rfl (hb hby d_jdk_52_method_21_code_13) rfl (l' := #[.val (.ref b), .val (.int (1 : Int32)), .val (.ref t), .val (.int (1 : Int32)), .val (.int (2 : Int32)), .val (.int (1 : Int32)), .val (.int d1)]) rfl ?_
    show Steps _ _ _ (T4.setTop (mkF m 15 #[.val (.ref b), .val (.int (1 : Int32)), .val (.ref t), .val (.int (1 : Int32)), .val (.int (2 : Int32)), .val (.int (1 : Int32)), .val (.int d1)] [])) _
    refine XS.iload X4.here hx rfl (hb hby d_jdk_52_method_21_code_15) rfl ?_
    show Steps _ _ _ (T4.setTop (mkF m 17 #[.val (.ref b), .val (.int (1 : Int32)), .val (.ref t), .val (.int (1 : Int32)), .val (.int (2 : Int32)), .val (.int (1 : Int32)), .val (.int d1)] [(.int d1)])) _
    refine XS.sipush X4.here hx rfl (hb hby d_jdk_52_method_21_code_17) ?_
    show Steps _ _ _ (T4.setTop (mkF m 20 #[.val (.ref b), .val (.int (1 : Int32)), .val (.ref t), .val (.int (1 : Int32)), .val (.int (2 : Int32)), .val (.int (1 : Int32)), .val (.int d1)] [(.int (255 : Int32)), (.int d1)])) _
    refine XS.icmpYes X4.here hx rfl (pc0 := 20) (pc' := 26) rfl (hb hby d_jdk_52_method_21_code_20) rfl (flt hd1.2).2.2.2 (by decide) (by decide) ?_
    show Steps _ _ _ (T4.setTop (mkF m 26 #[.val (.ref b), .val (.int (1 : Int32)), .val (.ref t), .val (.int (1 : Int32)), .val (.int (2 : Int32)), .val (.int (1 : Int32)), .val (.int d1)] [])) _
    refine XS.aloadN X4.here hx rfl (hb hby d_jdk_52_method_21_code_26) rfl rfl ?_
    show Steps _ _ _ (T4.setTop (mkF m 27 #[.val (.ref b), .val (.int (1 : Int32)), .val (.ref t), .val (.int (1 : Int32)), .val (.int (2 : Int32)), .val (.int (1 : Int32)), .val (.int d1)] [(.ref t)])) _
    refine XS.iloadN X4.here hx rfl (hb hby d_jdk_52_method_21_code_27) rfl ?_
    show Steps _ _ _ (T4.setTop (mkF m 28 #[.val (.ref b), .val (.int (1 : Int32)), .val (.ref t), .val (.int (1 : Int32)), .val (.int (2 : Int32)), .val (.int (1 : Int32)), .val (.int d1)] [(.int (1 : Int32)), (.ref t)])) _
    refine XS.iload X4.here hx rfl (hb hby d_jdk_52_method_21_code_28) rfl ?_
    show Steps _ _ _ (T4.setTop (mkF m 30 #[.val (.ref b), .val (.int (1 : Int32)), .val (.ref t), .val (.int (1 : Int32)), .val (.int (2 : Int32)), .val (.int (1 : Int32)), .val (.int d1)] [(.int d1), (.int (1 : Int32)), (.ref t)])) _
    refine XS.i2b X4.here hx rfl (hb hby d_jdk_52_method_21_code_30) rfl ?_
    show Steps _ _ _ (T4.setTop (mkF m 31 #[.val (.ref b), .val (.int (1 : Int32)), .val (.ref t), .val (.int (1 : Int32)), .val (.int (2 : Int32)), .val (.int (1 : Int32)), .val (.int d1)] [(.int (d1.toInt8.toInt32)), (.int (1 : Int32)), (.ref t)])) _
    exact hq)
  obtain ⟨cl9, Ar9, q9, S9, M9, G9, J9⟩ := id V4
  obtain ⟨T9, h9, X9, e9, W9, st9⟩ := stB X4 hx hZ e4 Ar9 (j := (1 : Int32)) (inb_of S9 ⟨by decide, by decide⟩) (g := (mkF m 31 #[.val (.ref b), .val (.int (1 : Int32)), .val (.ref t), .val (.int (1 : Int32)), .val (.int (2 : Int32)), .val (.int (1 : Int32)), .val (.int d1)] [(.int (d1.toInt8.toInt32)), (.int (1 : Int32)), (.ref t)])) rfl rfl (hb hby d_jdk_52_method_21_code_31)
  have k9 : To p.tables e below S0 (T9.setTop (mkF m 32 #[.val (.ref b), .val (.int (1 : Int32)), .val (.ref t), .val (.int (1 : Int32)), .val (.int (2 : Int32)), .val (.int (1 : Int32)), .val (.int d1)] [])) := fun tt hq => k8 tt (st9 tt hq)
  have z9 : h9.size = h4.size := W9.size
  have V9 : Arv Z h9 t kt .byte (2 : Int32) [(.int (nar .byte (d0.toInt8.toInt32))), (.int (nar .byte (d1.toInt8.toInt32)))] (.int (0 : Int32)) := Arv.set Ar9 q9 S9 M9 G9 J9 (fits_nar_byte _) W9 1 rfl (Nat.le_of_ble_eq_true rfl)
  have N9 := Fr.snoc X9 N4 (by omega : n0 ≤ t)
  have k10 : To p.tables e below S0 (T9.setTop (mkF m 46 #[.val (.ref b), .val (.int (2 : Int32)), .val (.ref t), .val (.int (2 : Int32)), .val (.int (2 : Int32)), .val (.int (2 : Int32)), .val (.int d1)] [(.int (2 : Int32))])) := fun tt hq => k9 tt (by
    show Steps _ _ _ (T9.setTop (mkF m 32 #[.val (.ref b), .val (.int (1 : Int32)), .val (.ref t), .val (.int (1 : Int32)), .val (.int (2 : Int32)), .val (.int (1 : Int32)), .val (.int d1)] [])) _
    refine XS.iinc X9.here hx rfl (hb hby d_jdk_52_method_21_code_32) rfl (l' := #[.val (.ref b), .val (.int (2 : Int32)), .val (.ref t), .val (.int (1 : Int32)), .val (.int (2 : Int32)), .val (.int (1 : Int32)), .val (.int d1)]) rfl ?_
    show Steps _ _ _ (T9.setTop (mkF m 35 #[.val (.ref b), .val (.int (2 : Int32)), .val (.ref t), .val (.int (1 : Int32)), .val (.int (2 : Int32)), .val (.int (1 : Int32)), .val (.int d1)] [])) _
    refine XS.iinc X9.here hx rfl (hb hby d_jdk_52_method_21_code_35) rfl (l' := #[.val (.ref b), .val (.int (2 : Int32)), .val (.ref t), .val (.int (2 : Int32)), .val (.int (2 : Int32)), .val (.int (1 : Int32)), .val (.int d1)]) rfl ?_
    show Steps _ _ _ (T9.setTop (mkF m 38 #[.val (.ref b), .val (.int (2 : Int32)), .val (.ref t), .val (.int (2 : Int32)), .val (.int (2 : Int32)), .val (.int (1 : Int32)), .val (.int d1)] [])) _
    refine XS.iinc X9.here hx rfl (hb hby d_jdk_52_method_21_code_38) rfl (l' := #[.val (.ref b), .val (.int (2 : Int32)), .val (.ref t), .val (.int (2 : Int32)), .val (.int (2 : Int32)), .val (.int (2 : Int32)), .val (.int d1)]) rfl ?_
    show Steps _ _ _ (T9.setTop (mkF m 41 #[.val (.ref b), .val (.int (2 : Int32)), .val (.ref t), .val (.int (2 : Int32)), .val (.int (2 : Int32)), .val (.int (2 : Int32)), .val (.int d1)] [])) _
    refine XS.goto X9.here hx rfl (pc0 := 41) (pc' := 3) rfl (hb hby d_jdk_52_method_21_code_41) (by decide) (by decide) ?_
    show Steps _ _ _ (T9.setTop (mkF m 3 #[.val (.ref b), .val (.int (2 : Int32)), .val (.ref t), .val (.int (2 : Int32)), .val (.int (2 : Int32)), .val (.int (2 : Int32)), .val (.int d1)] [])) _
    refine XS.iload X9.here hx rfl (hb hby d_jdk_52_method_21_code_3) rfl ?_
    show Steps _ _ _ (T9.setTop (mkF m 5 #[.val (.ref b), .val (.int (2 : Int32)), .val (.ref t), .val (.int (2 : Int32)), .val (.int (2 : Int32)), .val (.int (2 : Int32)), .val (.int d1)] [(.int (2 : Int32))])) _
    refine XS.iload X9.here hx rfl (hb hby d_jdk_52_method_21_code_5) rfl ?_
    show Steps _ _ _ (T9.setTop (mkF m 7 #[.val (.ref b), .val (.int (2 : Int32)), .val (.ref t), .val (.int (2 : Int32)), .val (.int (2 : Int32)), .val (.int (2 : Int32)), .val (.int d1)] [(.int (2 : Int32)), (.int (2 : Int32))])) _
    refine XS.icmpYes X9.here hx rfl (pc0 := 7) (pc' := 44) rfl (hb hby d_jdk_52_method_21_code_7) rfl (flt (by decide)).2.1 (by decide) (by decide) ?_
    show Steps _ _ _ (T9.setTop (mkF m 44 #[.val (.ref b), .val (.int (2 : Int32)), .val (.ref t), .val (.int (2 : Int32)), .val (.int (2 : Int32)), .val (.int (2 : Int32)), .val (.int d1)] [])) _
    refine XS.iload X9.here hx rfl (hb hby d_jdk_52_method_21_code_44) rfl ?_
    show Steps _ _ _ (T9.setTop (mkF m 46 #[.val (.ref b), .val (.int (2 : Int32)), .val (.ref t), .val (.int (2 : Int32)), .val (.int (2 : Int32)), .val (.int (2 : Int32)), .val (.int d1)] [(.int (2 : Int32))])) _
    exact hq)
  have hE := e9
  refine retInt X9 hx hret hlk (by simp) rfl (hb hby d_jdk_52_method_21_code_46) k10 ?_ (by decide) (by decide)
  try rw [hE]
  exact ⟨rfl, N9, (((Keep.refl h0 [t]).wr W4 (Or.inl (by simp))).wr W9 (Or.inl (by simp))), V9⟩
theorem d_jdk_52_method_16_code_0 : decode jdk_52_method_16_code 0 = .ok (.iload_n 2, 1) := by decide +kernel
theorem d_jdk_52_method_16_code_1 : decode jdk_52_method_16_code 1 = .ok (.newarray .byte, 2) := by decide +kernel
theorem d_jdk_52_method_16_code_3 : decode jdk_52_method_16_code 3 = .ok (.astore_n 3, 1) := by decide +kernel
theorem d_jdk_52_method_16_code_4 : decode jdk_52_method_16_code 4 = .ok (.aload_n 0, 1) := by decide +kernel
theorem d_jdk_52_method_16_code_5 : decode jdk_52_method_16_code 5 = .ok (.iload_n 1, 1) := by decide +kernel
theorem d_jdk_52_method_16_code_6 : decode jdk_52_method_16_code 6 = .ok (.aload_n 3, 1) := by decide +kernel
theorem d_jdk_52_method_16_code_7 : decode jdk_52_method_16_code 7 = .ok (.iconst 0, 1) := by decide +kernel
theorem d_jdk_52_method_16_code_8 : decode jdk_52_method_16_code 8 = .ok (.iload_n 2, 1) := by decide +kernel
theorem d_jdk_52_method_16_code_9 : decode jdk_52_method_16_code 9 = .ok (.invokestatic 115, 3) := by decide +kernel
theorem d_jdk_52_method_16_code_12 : decode jdk_52_method_16_code 12 = .ok (.istore 4, 2) := by decide +kernel
theorem d_jdk_52_method_16_code_14 : decode jdk_52_method_16_code 14 = .ok (.iload 4, 2) := by decide +kernel
theorem d_jdk_52_method_16_code_16 : decode jdk_52_method_16_code 16 = .ok (.iload_n 2, 1) := by decide +kernel
theorem d_jdk_52_method_16_code_17 : decode jdk_52_method_16_code 17 = .ok (.if_icmp .eq 40, 3) := by decide +kernel
theorem d_jdk_52_method_16_code_20 : decode jdk_52_method_16_code 20 = .ok (.aload_n 0, 1) := by decide +kernel
theorem d_jdk_52_method_16_code_21 : decode jdk_52_method_16_code 21 = .ok (.iload_n 1, 1) := by decide +kernel
theorem d_jdk_52_method_16_code_22 : decode jdk_52_method_16_code 22 = .ok (.iload_n 2, 1) := by decide +kernel
theorem d_jdk_52_method_16_code_23 : decode jdk_52_method_16_code 23 = .ok (.invokestatic 119, 3) := by decide +kernel
theorem d_jdk_52_method_16_code_26 : decode jdk_52_method_16_code 26 = .ok (.astore 5, 2) := by decide +kernel
theorem d_jdk_52_method_16_code_28 : decode jdk_52_method_16_code 28 = .ok (.aload 5, 2) := by decide +kernel
theorem d_jdk_52_method_16_code_30 : decode jdk_52_method_16_code 30 = .ok (.iload 4, 2) := by decide +kernel
theorem d_jdk_52_method_16_code_32 : decode jdk_52_method_16_code 32 = .ok (.invokestatic 71, 3) := by decide +kernel
theorem d_jdk_52_method_16_code_35 : decode jdk_52_method_16_code 35 = .ok (.sipush 255, 3) := by decide +kernel
theorem d_jdk_52_method_16_code_38 : decode jdk_52_method_16_code 38 = .ok (.if_icmp .gt 16, 3) := by decide +kernel
theorem d_jdk_52_method_16_code_41 : decode jdk_52_method_16_code 41 = .ok (.aload 5, 2) := by decide +kernel
theorem d_jdk_52_method_16_code_43 : decode jdk_52_method_16_code 43 = .ok (.iconst 0, 1) := by decide +kernel
theorem d_jdk_52_method_16_code_44 : decode jdk_52_method_16_code 44 = .ok (.aload_n 3, 1) := by decide +kernel
theorem d_jdk_52_method_16_code_45 : decode jdk_52_method_16_code 45 = .ok (.iconst 0, 1) := by decide +kernel
theorem d_jdk_52_method_16_code_46 : decode jdk_52_method_16_code 46 = .ok (.iload_n 2, 1) := by decide +kernel
theorem d_jdk_52_method_16_code_47 : decode jdk_52_method_16_code 47 = .ok (.invokestatic 123, 3) := by decide +kernel
theorem d_jdk_52_method_16_code_50 : decode jdk_52_method_16_code 50 = .ok (.iload_n 2, 1) := by decide +kernel
theorem d_jdk_52_method_16_code_51 : decode jdk_52_method_16_code 51 = .ok (.if_icmp .eq 6, 3) := by decide +kernel
theorem d_jdk_52_method_16_code_54 : decode jdk_52_method_16_code 54 = .ok (.aload 5, 2) := by decide +kernel
theorem d_jdk_52_method_16_code_56 : decode jdk_52_method_16_code 56 = .ok (.areturn, 1) := by decide +kernel
theorem d_jdk_52_method_16_code_57 : decode jdk_52_method_16_code 57 = .ok (.aload_n 3, 1) := by decide +kernel
theorem d_jdk_52_method_16_code_58 : decode jdk_52_method_16_code 58 = .ok (.areturn, 1) := by decide +kernel
theorem pd_0 : parseMethodDescriptor "([CI[BII)I" = some ⟨[(.array .char), .int, (.array .byte), .int, .int], some .int⟩ := by decide +kernel
set_option maxRecDepth 65536 in
set_option maxHeartbeats 40000000 in
theorem rm_c3_2 (l : Launch) (Z : State) (a0 : Array Value) (hw : ∀ d ∈ tables_1, d.before a0 Z = true) (b : Addr) (kb : ClassId) (d0 : Int32) (d1 : Int32) (h0 : Heap) (n0 : Nat) (hn0 : n0 ≤ h0.size) (P0 : Arv Z h0 b kb .char (2 : Int32) [(.int d0), (.int d1)] (.int (0 : Int32))) (yb : @LT.lt Nat instLTNat b h0.size) (hd0 : ¬ d0 < (0 : Int32) ∧ ¬ (255 : Int32) < d0) (hd1 : ¬ d1 < (0 : Int32) ∧ ¬ (255 : Int32) < d1) :
    Con l Z (⟨"java/lang/StringUTF16", "compress", "([CII)[B"⟩ : MethodName) jdk_52_method_16_code 6 (some (.array .byte)) [] ({ frames := 1, cells := 1, slots := 2, locals := 18 } : Room) #[(.ref b), (.int (0 : Int32)), (.int (2 : Int32))] h0 (fun v h L => ∃ (t : Addr) (k : ClassId), v = some (.ref t) ∧ Fr n0 L ∧ h0.size ≤ t ∧ Keep h0 h [] ∧ Arv Z h t k .byte (2 : Int32) [(.int (nar .byte (d0.toInt8.toInt32))), (.int (nar .byte (d1.toInt8.toInt32)))] (.int (0 : Int32))) := by
  refine enter (Ls := #[.val (.ref b), .val (.int (0 : Int32)), .val (.int (2 : Int32)), .unset, .unset, .unset]) (plainFor_of_name pn_0) (fun m => by exact entry_eq rfl) ?_
  intro p e s m below meth cd_ s₁ S0 hx hby hml hret hlk hnm hown hZ X0 e0 k0
  have N0 := Fr.nil n0
  have k1 : To p.tables e below S0 (s₁.setTop (mkF m 1 #[.val (.ref b), .val (.int (0 : Int32)), .val (.int (2 : Int32)), .unset, .unset, .unset] [(.int (2 : Int32))])) := fun tt hq => k0 tt (by
    show Steps _ _ _ (s₁.setTop (mkF m 0 #[.val (.ref b), .val (.int (0 : Int32)), .val (.int (2 : Int32)), .unset, .unset, .unset] [])) _
    refine XS.iloadN X0.here hx rfl (hb hby d_jdk_52_method_16_code_0) rfl ?_
    show Steps _ _ _ (s₁.setTop (mkF m 1 #[.val (.ref b), .val (.int (0 : Int32)), .val (.int (2 : Int32)), .unset, .unset, .unset] [(.int (2 : Int32))])) _
    exact hq)
  obtain ⟨T2, h2, c2, X2, e2, E2, A2, st2⟩ := newP X0 hx hZ (hw _ (List.mem_of_getElem? (i := 22) rfl)) e0 (g := (mkF m 1 #[.val (.ref b), .val (.int (0 : Int32)), .val (.int (2 : Int32)), .unset, .unset, .unset] [(.int (2 : Int32))])) rfl (hb hby d_jdk_52_method_16_code_1) rfl (by decide) (cap := 2) (by decide) (by decide) (by decide) (by decide)
  obtain ⟨b2, g2⟩ : ∃ z, z = h0.size := ⟨_, rfl⟩
  rw [← g2] at A2 st2
  have k2 : To p.tables e below S0 (T2.setTop (mkF m 3 #[.val (.ref b), .val (.int (0 : Int32)), .val (.int (2 : Int32)), .unset, .unset, .unset] [(.ref b2)])) := fun tt hq => k1 tt (st2 tt hq)
  have z2 : h0.size ≤ h2.size := E2.1
  have V2 : Arv Z h2 b2 c2 .byte (2 : Int32) [(.int (0 : Int32)), (.int (0 : Int32))] (.int (0 : Int32)) := (Arv.new A2 (by decide)).pad (pad_rep [] (.int (0 : Int32)) 2)
  have y2 : @LT.lt Nat instLTNat b2 h2.size := V2.lt
  have k3 : To p.tables e below S0 (T2.setTop (mkF m 9 #[.val (.ref b), .val (.int (0 : Int32)), .val (.int (2 : Int32)), .val (.ref b2), .unset, .unset] [(.int (2 : Int32)), (.int (0 : Int32)), (.ref b2), (.int (0 : Int32)), (.ref b)])) := fun tt hq => k2 tt (by
    show Steps _ _ _ (T2.setTop (mkF m 3 #[.val (.ref b), .val (.int (0 : Int32)), .val (.int (2 : Int32)), .unset, .unset, .unset] [(.ref b2)])) _
    refine XS.astoreN X2.here hx rfl (hb hby d_jdk_52_method_16_code_3) rfl rfl (l' := #[.val (.ref b), .val (.int (0 : Int32)), .val (.int (2 : Int32)), .val (.ref b2), .unset, .unset]) rfl ?_
    show Steps _ _ _ (T2.setTop (mkF m 4 #[.val (.ref b), .val (.int (0 : Int32)), .val (.int (2 : Int32)), .val (.ref b2), .unset, .unset] [])) _
    refine XS.aloadN X2.here hx rfl (hb hby d_jdk_52_method_16_code_4) rfl rfl ?_
    show Steps _ _ _ (T2.setTop (mkF m 5 #[.val (.ref b), .val (.int (0 : Int32)), .val (.int (2 : Int32)), .val (.ref b2), .unset, .unset] [(.ref b)])) _
    refine XS.iloadN X2.here hx rfl (hb hby d_jdk_52_method_16_code_5) rfl ?_
    show Steps _ _ _ (T2.setTop (mkF m 6 #[.val (.ref b), .val (.int (0 : Int32)), .val (.int (2 : Int32)), .val (.ref b2), .unset, .unset] [(.int (0 : Int32)), (.ref b)])) _
    refine XS.aloadN X2.here hx rfl (hb hby d_jdk_52_method_16_code_6) rfl rfl ?_
    show Steps _ _ _ (T2.setTop (mkF m 7 #[.val (.ref b), .val (.int (0 : Int32)), .val (.int (2 : Int32)), .val (.ref b2), .unset, .unset] [(.ref b2), (.int (0 : Int32)), (.ref b)])) _
    refine XS.iconst X2.here hx rfl (hb hby d_jdk_52_method_16_code_7) ?_
    show Steps _ _ _ (T2.setTop (mkF m 8 #[.val (.ref b), .val (.int (0 : Int32)), .val (.int (2 : Int32)), .val (.ref b2), .unset, .unset] [(.int (0 : Int32)), (.ref b2), (.int (0 : Int32)), (.ref b)])) _
    refine XS.iloadN X2.here hx rfl (hb hby d_jdk_52_method_16_code_8) rfl ?_
    show Steps _ _ _ (T2.setTop (mkF m 9 #[.val (.ref b), .val (.int (0 : Int32)), .val (.int (2 : Int32)), .val (.ref b2), .unset, .unset] [(.int (2 : Int32)), (.int (0 : Int32)), (.ref b2), (.int (0 : Int32)), (.ref b)])) _
    exact hq)
  have f4 : Arv Z h2 b kb .char (2 : Int32) [(.int d0), (.int d1)] (.int (0 : Int32)) := (P0.ext E2)
  obtain ⟨_, T5, L5, X5, ⟨rfl, Nq5, Kq5, V5⟩, k5a⟩ := callS' X2 hx hZ (y := (⟨"java/lang/StringUTF16", "compress", "([CI[BII)I"⟩ : MethodName)) hown (hw _ (List.mem_of_getElem? (i := 124) rfl)) (hw _ (List.mem_of_getElem? (i := 125) rfl)) (hw _ (List.mem_of_getElem? (i := 122) rfl)) (hw _ (List.mem_of_getElem? (i := 126) rfl)) (by decide) (backC (W := 0) (rm_c5_2 l Z a0 hw b kb b2 c2 d0 d1 h2 n0 (by omega) f4 V2 (by omega) (by omega) hd0 hd1) hZ (hw _ (List.mem_of_getElem? (i := 126) rfl)) (hw _ (List.mem_of_getElem? (i := 122) rfl)) (by decide) (by decide)) e2 (argsL := [(.ref b), (.int (0 : Int32)), (.ref b2), (.int (0 : Int32)), (.int (2 : Int32))]) (rest := []) rfl rfl pd_0 rfl (by rw [hml]; rfl) (hb hby d_jdk_52_method_16_code_9) (Nat.le_of_eq rfl) (by decide) (by decide) k3
  have k5 : To p.tables e below S0 (T5.setTop (mkF m 12 #[.val (.ref b), .val (.int (0 : Int32)), .val (.int (2 : Int32)), .val (.ref b2), .unset, .unset] [(.int (2 : Int32))])) := k5a
  have N5 := N0.app Nq5
  obtain ⟨h5, e5⟩ : ∃ z, T5.heap = z := ⟨_, rfl⟩
  rw [e5] at Kq5 V5
  have z5 : h2.size ≤ h5.size := Kq5.1
  have k6 : To p.tables e below S0 (T5.setTop (mkF m 58 #[.val (.ref b), .val (.int (0 : Int32)), .val (.int (2 : Int32)), .val (.ref b2), .val (.int (2 : Int32)), .unset] [(.ref b2)])) := fun tt hq => k5 tt (by
    show Steps _ _ _ (T5.setTop (mkF m 12 #[.val (.ref b), .val (.int (0 : Int32)), .val (.int (2 : Int32)), .val (.ref b2), .unset, .unset] [(.int (2 : Int32))])) _
    refine XS.istore X5.here hx rfl (hb hby d_jdk_52_method_16_code_12) rfl (l' := #[.val (.ref b), .val (.int (0 : Int32)), .val (.int (2 : Int32)), .val (.ref b2), .val (.int (2 : Int32)), .unset]) rfl ?_
    show Steps _ _ _ (T5.setTop (mkF m 14 #[.val (.ref b), .val (.int (0 : Int32)), .val (.int (2 : Int32)), .val (.ref b2), .val (.int (2 : Int32)), .unset] [])) _
    refine XS.iload X5.here hx rfl (hb hby d_jdk_52_method_16_code_14) rfl ?_
    show Steps _ _ _ (T5.setTop (mkF m 16 #[.val (.ref b), .val (.int (0 : Int32)), .val (.int (2 : Int32)), .val (.ref b2), .val (.int (2 : Int32)), .unset] [(.int (2 : Int32))])) _
    refine XS.iloadN X5.here hx rfl (hb hby d_jdk_52_method_16_code_16) rfl ?_
    show Steps _ _ _ (T5.setTop (mkF m 17 #[.val (.ref b), .val (.int (0 : Int32)), .val (.int (2 : Int32)), .val (.ref b2), .val (.int (2 : Int32)), .unset] [(.int (2 : Int32)), (.int (2 : Int32))])) _
    refine XS.icmpYes X5.here hx rfl (pc0 := 17) (pc' := 57) rfl (hb hby d_jdk_52_method_16_code_17) rfl (teq (by decide)).1 (by decide) (by decide) ?_
    show Steps _ _ _ (T5.setTop (mkF m 57 #[.val (.ref b), .val (.int (0 : Int32)), .val (.int (2 : Int32)), .val (.ref b2), .val (.int (2 : Int32)), .unset] [])) _
    refine XS.aloadN X5.here hx rfl (hb hby d_jdk_52_method_16_code_57) rfl rfl ?_
    show Steps _ _ _ (T5.setTop (mkF m 58 #[.val (.ref b), .val (.int (0 : Int32)), .val (.int (2 : Int32)), .val (.ref b2), .val (.int (2 : Int32)), .unset] [(.ref b2)])) _
    exact hq)
  have hE := e5
  refine retRef X5 hx hret hlk rfl rfl (hb hby d_jdk_52_method_16_code_58) k6 ?_ (by decide) (by decide)
  try rw [hE]
  exact ⟨b2, _, rfl, N5, (by omega), (((Keep.refl h0 []).ext E2).trans Kq5 (allS (Or.inr (by omega)) all0)), V5⟩
theorem d_jdk_52_method_15_code_0 : decode jdk_52_method_15_code 0 = .ok (.iload_n 1, 1) := by decide +kernel
theorem d_jdk_52_method_15_code_1 : decode jdk_52_method_15_code 1 = .ok (.aload_n 0, 1) := by decide +kernel
theorem d_jdk_52_method_15_code_2 : decode jdk_52_method_15_code 2 = .ok (.arraylength, 1) := by decide +kernel
theorem d_jdk_52_method_15_code_3 : decode jdk_52_method_15_code 3 = .ok (.isub, 1) := by decide +kernel
theorem d_jdk_52_method_15_code_4 : decode jdk_52_method_15_code 4 = .ok (.bipush 31, 2) := by decide +kernel
theorem d_jdk_52_method_15_code_6 : decode jdk_52_method_15_code 6 = .ok (.iushr, 1) := by decide +kernel
theorem d_jdk_52_method_15_code_7 : decode jdk_52_method_15_code 7 = .ok (.i2b, 1) := by decide +kernel
theorem d_jdk_52_method_15_code_8 : decode jdk_52_method_15_code 8 = .ok (.ireturn, 1) := by decide +kernel
set_option maxRecDepth 65536 in
set_option maxHeartbeats 40000000 in
theorem rm_cl_2 (l : Launch) (Z : State) (a0 : Array Value) (hw : ∀ d ∈ tables_1, d.before a0 Z = true) (t : Addr) (kt : ClassId) (d0 : Int32) (d1 : Int32) (h0 : Heap) (n0 : Nat) (hn0 : n0 ≤ h0.size) (P0 : Arv Z h0 t kt .byte (2 : Int32) [(.int d0), (.int d1)] (.int (0 : Int32))) :
    Con l Z (⟨"java/lang/StringUTF16", "coderFromArrayLen", "([BI)B"⟩ : MethodName) jdk_52_method_15_code 2 (some .byte) [] ({ frames := 0, cells := 0, slots := 0, locals := 0 } : Room) #[(.ref t), (.int (2 : Int32))] h0 (fun v h L => v = some (.int (0 : Int32)) ∧ Fr n0 L ∧ h = h0) := by
  refine enter (Ls := #[.val (.ref t), .val (.int (2 : Int32))]) (plainFor_of_name pn_0) (fun m => by exact entry_eq rfl) ?_
  intro p e s m below meth cd_ s₁ S0 hx hby hml hret hlk hnm hown hZ X0 e0 k0
  have N0 := Fr.nil n0
  have k1 : To p.tables e below S0 (s₁.setTop (mkF m 2 #[.val (.ref t), .val (.int (2 : Int32))] [(.ref t), (.int (2 : Int32))])) := fun tt hq => k0 tt (by
    show Steps _ _ _ (s₁.setTop (mkF m 0 #[.val (.ref t), .val (.int (2 : Int32))] [])) _
    refine XS.iloadN X0.here hx rfl (hb hby d_jdk_52_method_15_code_0) rfl ?_
    show Steps _ _ _ (s₁.setTop (mkF m 1 #[.val (.ref t), .val (.int (2 : Int32))] [(.int (2 : Int32))])) _
    refine XS.aloadN X0.here hx rfl (hb hby d_jdk_52_method_15_code_1) rfl rfl ?_
    show Steps _ _ _ (s₁.setTop (mkF m 2 #[.val (.ref t), .val (.int (2 : Int32))] [(.ref t), (.int (2 : Int32))])) _
    exact hq)
  obtain ⟨cl2, Ar2, -, S2, M2, -, -⟩ := id P0
  have st2 := fun tt => X0.arraylength hx (by rw [e0]; exact Ar2.1) (State.isArrayOf_alike hZ.alike Ar2.2.1) (g := (mkF m 2 #[.val (.ref t), .val (.int (2 : Int32))] [(.ref t), (.int (2 : Int32))])) rfl rfl (hb hby d_jdk_52_method_15_code_2) tt
  rw [len_of S2 M2] at st2
  have k2 : To p.tables e below S0 (s₁.setTop (mkF m 3 #[.val (.ref t), .val (.int (2 : Int32))] [(.int (2 : Int32)), (.int (2 : Int32))])) := fun tt hq => k1 tt (st2 tt hq)
  have k3 : To p.tables e below S0 (s₁.setTop (mkF m 8 #[.val (.ref t), .val (.int (2 : Int32))] [(.int (0 : Int32))])) := fun tt hq => k2 tt (by
    show Steps _ _ _ (s₁.setTop (mkF m 3 #[.val (.ref t), .val (.int (2 : Int32))] [(.int (2 : Int32)), (.int (2 : Int32))])) _
    refine XS.isub X0.here hx rfl (hb hby d_jdk_52_method_15_code_3) rfl ?_
    show Steps _ _ _ (s₁.setTop (mkF m 4 #[.val (.ref t), .val (.int (2 : Int32))] [(.int (0 : Int32))])) _
    refine XS.bipush X0.here hx rfl (hb hby d_jdk_52_method_15_code_4) ?_
    show Steps _ _ _ (s₁.setTop (mkF m 6 #[.val (.ref t), .val (.int (2 : Int32))] [(.int (31 : Int32)), (.int (0 : Int32))])) _
    refine XS.iushr X0.here hx rfl (hb hby d_jdk_52_method_15_code_6) rfl ?_
    show Steps _ _ _ (s₁.setTop (mkF m 7 #[.val (.ref t), .val (.int (2 : Int32))] [(.int (0 : Int32))])) _
    refine XS.i2b X0.here hx rfl (hb hby d_jdk_52_method_15_code_7) rfl ?_
    show Steps _ _ _ (s₁.setTop (mkF m 8 #[.val (.ref t), .val (.int (2 : Int32))] [(.int (0 : Int32))])) _
    exact hq)
  have hE := e0
  refine retInt X0 hx hret hlk (by simp) rfl (hb hby d_jdk_52_method_15_code_8) k3 ?_ (by decide) (by decide)
  try rw [hE]
  exact ⟨rfl, N0, rfl⟩
theorem d_jdk_42_method_149_code_0 : decode jdk_42_method_149_code 0 = .ok (.aload_n 0, 1) := by decide +kernel
theorem d_jdk_42_method_149_code_1 : decode jdk_42_method_149_code 1 = .ok (.invokespecial 1, 3) := by decide +kernel
theorem d_jdk_42_method_149_code_4 : decode jdk_42_method_149_code 4 = .ok (.iload_n 3, 1) := by decide +kernel
theorem d_jdk_42_method_149_code_5 : decode jdk_42_method_149_code 5 = .ok (.ifCond .ne 22, 3) := by decide +kernel
theorem d_jdk_42_method_149_code_8 : decode jdk_42_method_149_code 8 = .ok (.aload_n 0, 1) := by decide +kernel
theorem d_jdk_42_method_149_code_9 : decode jdk_42_method_149_code 9 = .ok (.ldc 7, 2) := by decide +kernel
theorem d_jdk_42_method_149_code_11 : decode jdk_42_method_149_code 11 = .ok (.getfield 9, 3) := by decide +kernel
theorem d_jdk_42_method_149_code_14 : decode jdk_42_method_149_code 14 = .ok (.putfield 9, 3) := by decide +kernel
theorem d_jdk_42_method_149_code_17 : decode jdk_42_method_149_code 17 = .ok (.aload_n 0, 1) := by decide +kernel
theorem d_jdk_42_method_149_code_18 : decode jdk_42_method_149_code 18 = .ok (.ldc 7, 2) := by decide +kernel
theorem d_jdk_42_method_149_code_20 : decode jdk_42_method_149_code 20 = .ok (.getfield 15, 3) := by decide +kernel
theorem d_jdk_42_method_149_code_23 : decode jdk_42_method_149_code 23 = .ok (.putfield 15, 3) := by decide +kernel
theorem d_jdk_42_method_149_code_26 : decode jdk_42_method_149_code 26 = .ok (.return_, 1) := by decide +kernel
theorem d_jdk_42_method_149_code_27 : decode jdk_42_method_149_code 27 = .ok (.getstatic 38, 3) := by decide +kernel
theorem d_jdk_42_method_149_code_30 : decode jdk_42_method_149_code 30 = .ok (.ifCond .eq 28, 3) := by decide +kernel
theorem d_jdk_42_method_149_code_33 : decode jdk_42_method_149_code 33 = .ok (.aload_n 1, 1) := by decide +kernel
theorem d_jdk_42_method_149_code_34 : decode jdk_42_method_149_code 34 = .ok (.iload_n 2, 1) := by decide +kernel
theorem d_jdk_42_method_149_code_35 : decode jdk_42_method_149_code 35 = .ok (.iload_n 3, 1) := by decide +kernel
theorem d_jdk_42_method_149_code_36 : decode jdk_42_method_149_code 36 = .ok (.invokestatic 177, 3) := by decide +kernel
theorem d_jdk_42_method_149_code_39 : decode jdk_42_method_149_code 39 = .ok (.astore 5, 2) := by decide +kernel
theorem d_jdk_42_method_149_code_41 : decode jdk_42_method_149_code 41 = .ok (.aload_n 0, 1) := by decide +kernel
theorem d_jdk_42_method_149_code_42 : decode jdk_42_method_149_code 42 = .ok (.aload 5, 2) := by decide +kernel
theorem d_jdk_42_method_149_code_44 : decode jdk_42_method_149_code 44 = .ok (.iload_n 3, 1) := by decide +kernel
theorem d_jdk_42_method_149_code_45 : decode jdk_42_method_149_code 45 = .ok (.invokestatic 47, 3) := by decide +kernel
theorem d_jdk_42_method_149_code_48 : decode jdk_42_method_149_code 48 = .ok (.putfield 15, 3) := by decide +kernel
theorem d_jdk_42_method_149_code_51 : decode jdk_42_method_149_code 51 = .ok (.aload_n 0, 1) := by decide +kernel
theorem d_jdk_42_method_149_code_52 : decode jdk_42_method_149_code 52 = .ok (.aload 5, 2) := by decide +kernel
theorem d_jdk_42_method_149_code_54 : decode jdk_42_method_149_code 54 = .ok (.putfield 9, 3) := by decide +kernel
theorem d_jdk_42_method_149_code_57 : decode jdk_42_method_149_code 57 = .ok (.return_, 1) := by decide +kernel
theorem d_jdk_42_method_149_code_58 : decode jdk_42_method_149_code 58 = .ok (.aload_n 0, 1) := by decide +kernel
theorem d_jdk_42_method_149_code_59 : decode jdk_42_method_149_code 59 = .ok (.iconst 1, 1) := by decide +kernel
theorem d_jdk_42_method_149_code_60 : decode jdk_42_method_149_code 60 = .ok (.putfield 15, 3) := by decide +kernel
theorem d_jdk_42_method_149_code_63 : decode jdk_42_method_149_code 63 = .ok (.aload_n 0, 1) := by decide +kernel
theorem d_jdk_42_method_149_code_64 : decode jdk_42_method_149_code 64 = .ok (.aload_n 1, 1) := by decide +kernel
theorem d_jdk_42_method_149_code_65 : decode jdk_42_method_149_code 65 = .ok (.iload_n 2, 1) := by decide +kernel
theorem d_jdk_42_method_149_code_66 : decode jdk_42_method_149_code 66 = .ok (.iload_n 3, 1) := by decide +kernel
theorem d_jdk_42_method_149_code_67 : decode jdk_42_method_149_code 67 = .ok (.invokestatic 180, 3) := by decide +kernel
theorem d_jdk_42_method_149_code_70 : decode jdk_42_method_149_code 70 = .ok (.putfield 9, 3) := by decide +kernel
theorem d_jdk_42_method_149_code_73 : decode jdk_42_method_149_code 73 = .ok (.return_, 1) := by decide +kernel
theorem pn_1 : plainName "java/lang/String" = true := by first | (simp [plainName, overriddenIn]; done) | decide +kernel
theorem pd_1 : parseMethodDescriptor "([CII)[B" = some ⟨[(.array .char), .int, .int], some (.array .byte)⟩ := by decide +kernel
theorem pd_2 : parseMethodDescriptor "([BI)B" = some ⟨[(.array .byte), .int], some .byte⟩ := by decide +kernel
set_option maxRecDepth 65536 in
set_option maxHeartbeats 40000000 in
theorem rm_n4_2 (l : Launch) (Z : State) (a0 : Array Value) (hw : ∀ d ∈ tables_1, d.before a0 Z = true) (zc : Int32) (a : Addr) (b : Addr) (kb : ClassId) (u1 : Value) (u2 : Value) (d0 : Int32) (d1 : Int32) (h0 : Heap) (n0 : Nat) (hn0 : n0 ≤ h0.size) (S_c : Sta Z Z.heap "java/lang/String" "COMPACT_STRINGS" "Z" (.int zc)) (hzc : ¬ zc = (0 : Int32)) (O0 : Old Z n0 h0) (E0 : Exa Z h0 a "java/lang/String") (F1 : Fld Z h0 a "java/lang/String" "value" "[B" u1) (F2 : Fld Z h0 a "java/lang/String" "coder" "B" u2) (P0 : Arv Z h0 b kb .char (2 : Int32) [(.int d0), (.int d1)] (.int (0 : Int32))) (ga : n0 ≤ a) (ya : @LT.lt Nat instLTNat a h0.size) (yb : @LT.lt Nat instLTNat b h0.size) (nab : ¬ (@Eq Nat b a)) (hd0 : ¬ d0 < (0 : Int32) ∧ ¬ (255 : Int32) < d0) (hd1 : ¬ d1 < (0 : Int32) ∧ ¬ (255 : Int32) < d1) :
    Con l Z (⟨"java/lang/String", "<init>", "([CIILjava/lang/Void;)V"⟩ : MethodName) jdk_42_method_149_code 6 none [] ({ frames := 2, cells := 1, slots := 2, locals := 35 } : Room) #[(.ref a), (.ref b), (.int (0 : Int32)), (.int (2 : Int32)), .null] h0 (fun v h L => v = none ∧ Fr n0 L ∧ Keep h0 h [a] ∧ ∃ (t : Addr) (k : ClassId), h0.size ≤ t ∧ Exa Z h a "java/lang/String" ∧ Fld Z h a "java/lang/String" "value" "[B" (.ref t) ∧ Fld Z h a "java/lang/String" "coder" "B" (.int (0 : Int32)) ∧ Arv Z h t k .byte (2 : Int32) [(.int (nar .byte (d0.toInt8.toInt32))), (.int (nar .byte (d1.toInt8.toInt32)))] (.int (0 : Int32))) := by
  refine enter (Ls := #[.val (.ref a), .val (.ref b), .val (.int (0 : Int32)), .val (.int (2 : Int32)), .val .null, .unset]) (plainFor_of_name pn_1) (fun m => by exact entry_eq rfl) ?_
  intro p e s m below meth cd_ s₁ S0 hx hby hml hret hlk hnm hown hZ X0 e0 k0
  have N0 := Fr.nil n0
  have k1 : To p.tables e below S0 (s₁.setTop (mkF m 1 #[.val (.ref a), .val (.ref b), .val (.int (0 : Int32)), .val (.int (2 : Int32)), .val .null, .unset] [(.ref a)])) := fun tt hq => k0 tt (by
    show Steps _ _ _ (s₁.setTop (mkF m 0 #[.val (.ref a), .val (.ref b), .val (.int (0 : Int32)), .val (.int (2 : Int32)), .val .null, .unset] [])) _
    refine XS.aloadN X0.here hx rfl (hb hby d_jdk_42_method_149_code_0) rfl rfl ?_
    show Steps _ _ _ (s₁.setTop (mkF m 1 #[.val (.ref a), .val (.ref b), .val (.int (0 : Int32)), .val (.int (2 : Int32)), .val .null, .unset] [(.ref a)])) _
    exact hq)
  obtain ⟨T2, X2, e2, st2⟩ := initO X0 hx hZ hown (hw _ (List.mem_of_getElem? (i := 18) rfl)) (hw _ (List.mem_of_getElem? (i := 19) rfl)) (hw _ (List.mem_of_getElem? (i := 20) rfl)) e0 (g := (mkF m 1 #[.val (.ref a), .val (.ref b), .val (.int (0 : Int32)), .val (.int (2 : Int32)), .val .null, .unset] [(.ref a)])) rfl (by rw [hml]; rfl) rfl (hb hby d_jdk_42_method_149_code_1) (by decide) (W := 0) (by show 2 * 0 + _ ≤ _; exact Nat.le_of_eq rfl) (by decide)
  have k2 : To p.tables e below S0 (T2.setTop (mkF m 4 #[.val (.ref a), .val (.ref b), .val (.int (0 : Int32)), .val (.int (2 : Int32)), .val .null, .unset] [])) := fun tt hq => k1 tt (st2 tt hq)
  have k3 : To p.tables e below S0 (T2.setTop (mkF m 27 #[.val (.ref a), .val (.ref b), .val (.int (0 : Int32)), .val (.int (2 : Int32)), .val .null, .unset] [])) := fun tt hq => k2 tt (by
    show Steps _ _ _ (T2.setTop (mkF m 4 #[.val (.ref a), .val (.ref b), .val (.int (0 : Int32)), .val (.int (2 : Int32)), .val .null, .unset] [])) _
    refine XS.iloadN X2.here hx rfl (hb hby d_jdk_42_method_149_code_4) rfl ?_
    show Steps _ _ _ (T2.setTop (mkF m 5 #[.val (.ref a), .val (.ref b), .val (.int (0 : Int32)), .val (.int (2 : Int32)), .val .null, .unset] [(.int (2 : Int32))])) _
    refine XS.ifYes X2.here hx rfl (pc0 := 5) (pc' := 27) rfl (hb hby d_jdk_42_method_149_code_5) rfl ((if0 _ _).trans (feq (by decide)).2) (by decide) (by decide) ?_
    show Steps _ _ _ (T2.setTop (mkF m 27 #[.val (.ref a), .val (.ref b), .val (.int (0 : Int32)), .val (.int (2 : Int32)), .val .null, .unset] [])) _
    exact hq)
  obtain ⟨T4, X4, e4, st4⟩ := getS2 X2 hx hZ hown (host := "") (Or.inl (hw _ (List.mem_of_getElem? (i := 78) rfl))) Via.refl e2 (staOld S_c O0) (g := (mkF m 27 #[.val (.ref a), .val (.ref b), .val (.int (0 : Int32)), .val (.int (2 : Int32)), .val .null, .unset] [])) rfl (hb hby d_jdk_42_method_149_code_27)
  have k4 : To p.tables e below S0 (T4.setTop (mkF m 30 #[.val (.ref a), .val (.ref b), .val (.int (0 : Int32)), .val (.int (2 : Int32)), .val .null, .unset] [(.int zc)])) := fun tt hq => k3 tt (st4 tt hq)
  have k5 : To p.tables e below S0 (T4.setTop (mkF m 36 #[.val (.ref a), .val (.ref b), .val (.int (0 : Int32)), .val (.int (2 : Int32)), .val .null, .unset] [(.int (2 : Int32)), (.int (0 : Int32)), (.ref b)])) := fun tt hq => k4 tt (by
    show Steps _ _ _ (T4.setTop (mkF m 30 #[.val (.ref a), .val (.ref b), .val (.int (0 : Int32)), .val (.int (2 : Int32)), .val .null, .unset] [(.int zc)])) _
    refine XS.ifNo X4.here hx rfl (hb hby d_jdk_42_method_149_code_30) rfl ((if0 _ _).trans (feq hzc).1) ?_
    show Steps _ _ _ (T4.setTop (mkF m 33 #[.val (.ref a), .val (.ref b), .val (.int (0 : Int32)), .val (.int (2 : Int32)), .val .null, .unset] [])) _
    refine XS.aloadN X4.here hx rfl (hb hby d_jdk_42_method_149_code_33) rfl rfl ?_
    show Steps _ _ _ (T4.setTop (mkF m 34 #[.val (.ref a), .val (.ref b), .val (.int (0 : Int32)), .val (.int (2 : Int32)), .val .null, .unset] [(.ref b)])) _
    refine XS.iloadN X4.here hx rfl (hb hby d_jdk_42_method_149_code_34) rfl ?_
    show Steps _ _ _ (T4.setTop (mkF m 35 #[.val (.ref a), .val (.ref b), .val (.int (0 : Int32)), .val (.int (2 : Int32)), .val .null, .unset] [(.int (0 : Int32)), (.ref b)])) _
    refine XS.iloadN X4.here hx rfl (hb hby d_jdk_42_method_149_code_35) rfl ?_
    show Steps _ _ _ (T4.setTop (mkF m 36 #[.val (.ref a), .val (.ref b), .val (.int (0 : Int32)), .val (.int (2 : Int32)), .val .null, .unset] [(.int (2 : Int32)), (.int (0 : Int32)), (.ref b)])) _
    exact hq)
  obtain ⟨_, T6, L6, X6, ⟨t6, kt6, rfl, Nq6, gt6, Kq6, V6⟩, k6a⟩ := callS' X4 hx hZ (y := (⟨"java/lang/StringUTF16", "compress", "([CII)[B"⟩ : MethodName)) hown (hw _ (List.mem_of_getElem? (i := 120) rfl)) (hw _ (List.mem_of_getElem? (i := 121) rfl)) (hw _ (List.mem_of_getElem? (i := 122) rfl)) (hw _ (List.mem_of_getElem? (i := 123) rfl)) (by decide) (backC (W := 0) (rm_c3_2 l Z a0 hw b kb d0 d1 h0 n0 (by omega) P0 (by omega) hd0 hd1) hZ (hw _ (List.mem_of_getElem? (i := 123) rfl)) (hw _ (List.mem_of_getElem? (i := 122) rfl)) (by decide) (by decide)) e4 (argsL := [(.ref b), (.int (0 : Int32)), (.int (2 : Int32))]) (rest := []) rfl rfl pd_1 rfl (by rw [hml]; rfl) (hb hby d_jdk_42_method_149_code_36) (Nat.le_of_eq rfl) (by decide) (by decide) k5
  have k6 : To p.tables e below S0 (T6.setTop (mkF m 39 #[.val (.ref a), .val (.ref b), .val (.int (0 : Int32)), .val (.int (2 : Int32)), .val .null, .unset] [(.ref t6)])) := k6a
  have N6 := N0.app Nq6
  obtain ⟨h6, e6⟩ : ∃ z, T6.heap = z := ⟨_, rfl⟩
  rw [e6] at Kq6 V6
  have z6 : h0.size ≤ h6.size := Kq6.1
  have y6 : @LT.lt Nat instLTNat t6 h6.size := V6.lt
  have k7 : To p.tables e below S0 (T6.setTop (mkF m 45 #[.val (.ref a), .val (.ref b), .val (.int (0 : Int32)), .val (.int (2 : Int32)), .val .null, .val (.ref t6)] [(.int (2 : Int32)), (.ref t6), (.ref a)])) := fun tt hq => k6 tt (by
    show Steps _ _ _ (T6.setTop (mkF m 39 #[.val (.ref a), .val (.ref b), .val (.int (0 : Int32)), .val (.int (2 : Int32)), .val .null, .unset] [(.ref t6)])) _
    refine XS.astore X6.here hx rfl (hb hby d_jdk_42_method_149_code_39) rfl rfl (l' := #[.val (.ref a), .val (.ref b), .val (.int (0 : Int32)), .val (.int (2 : Int32)), .val .null, .val (.ref t6)]) rfl ?_
    show Steps _ _ _ (T6.setTop (mkF m 41 #[.val (.ref a), .val (.ref b), .val (.int (0 : Int32)), .val (.int (2 : Int32)), .val .null, .val (.ref t6)] [])) _
    refine XS.aloadN X6.here hx rfl (hb hby d_jdk_42_method_149_code_41) rfl rfl ?_
    show Steps _ _ _ (T6.setTop (mkF m 42 #[.val (.ref a), .val (.ref b), .val (.int (0 : Int32)), .val (.int (2 : Int32)), .val .null, .val (.ref t6)] [(.ref a)])) _
    refine XS.aload X6.here hx rfl (hb hby d_jdk_42_method_149_code_42) rfl rfl ?_
    show Steps _ _ _ (T6.setTop (mkF m 44 #[.val (.ref a), .val (.ref b), .val (.int (0 : Int32)), .val (.int (2 : Int32)), .val .null, .val (.ref t6)] [(.ref t6), (.ref a)])) _
    refine XS.iloadN X6.here hx rfl (hb hby d_jdk_42_method_149_code_44) rfl ?_
    show Steps _ _ _ (T6.setTop (mkF m 45 #[.val (.ref a), .val (.ref b), .val (.int (0 : Int32)), .val (.int (2 : Int32)), .val .null, .val (.ref t6)] [(.int (2 : Int32)), (.ref t6), (.ref a)])) _
    exact hq)
  obtain ⟨_, T8, L8, X8, ⟨rfl, Nq8, eq8⟩, k8a⟩ := callS' X6 hx hZ (y := (⟨"java/lang/StringUTF16", "coderFromArrayLen", "([BI)B"⟩ : MethodName)) hown (hw _ (List.mem_of_getElem? (i := 127) rfl)) (hw _ (List.mem_of_getElem? (i := 128) rfl)) (hw _ (List.mem_of_getElem? (i := 122) rfl)) (hw _ (List.mem_of_getElem? (i := 129) rfl)) (by decide) (backC (W := 1) (rm_cl_2 l Z a0 hw t6 kt6 (nar .byte (d0.toInt8.toInt32)) (nar .byte (d1.toInt8.toInt32)) h6 n0 (by omega) V6) hZ (hw _ (List.mem_of_getElem? (i := 129) rfl)) (hw _ (List.mem_of_getElem? (i := 122) rfl)) (by decide) (by decide)) e6 (argsL := [(.ref t6), (.int (2 : Int32))]) (rest := [(.ref a)]) rfl rfl pd_2 rfl (by rw [hml]; rfl) (hb hby d_jdk_42_method_149_code_45) (Nat.le_of_eq rfl) (by decide) (by decide) k7
  have k8 : To p.tables e below S0 (T8.setTop (mkF m 48 #[.val (.ref a), .val (.ref b), .val (.int (0 : Int32)), .val (.int (2 : Int32)), .val .null, .val (.ref t6)] [(.int (0 : Int32)), (.ref a)])) := k8a
  have N8 := N6.app Nq8
  have e8 : T8.heap = h6 := eq8
  have f9 : Exa Z h6 a "java/lang/String" := (E0.keep Kq6)
  have f10 : Fld Z h6 a "java/lang/String" "coder" "B" u2 := (F2.keep Kq6 nin0)
  obtain ⟨T11, h11, X11, e11, W11, st11⟩ := putF X8 hx hZ hown (host := "") (Or.inl (hw _ (List.mem_of_getElem? (i := 28) rfl))) Via.refl e8 f10 f9 (Or.inr ⟨(hw _ (List.mem_of_getElem? (i := 24) rfl)), rfl, hnm⟩) (hw _ (List.mem_of_getElem? (i := 8) rfl)) (ty := .byte) (by decide) rfl rfl (g := (mkF m 48 #[.val (.ref a), .val (.ref b), .val (.int (0 : Int32)), .val (.int (2 : Int32)), .val .null, .val (.ref t6)] [(.int (0 : Int32)), (.ref a)])) rfl rfl (hb hby d_jdk_42_method_149_code_48)
  have k11 : To p.tables e below S0 (T11.setTop (mkF m 51 #[.val (.ref a), .val (.ref b), .val (.int (0 : Int32)), .val (.int (2 : Int32)), .val .null, .val (.ref t6)] [])) := fun tt hq => k8 tt (st11 tt hq)
  have z11 : h11.size = h6.size := W11.size
  have F11 := f10.same W11
  have N11 := Fr.snoc X11 N8 (by omega : n0 ≤ a)
  have f12 : Exa Z h11 a "java/lang/String" := (f9.wr W11)
  have f13 : Fld Z h11 a "java/lang/String" "value" "[B" u1 := ((F1.keep Kq6 nin0).other W11 (Or.inr (slot_ne (Or.inr (hw _ (List.mem_of_getElem? (i := 23) rfl))) (Or.inr (hw _ (List.mem_of_getElem? (i := 24) rfl))) (by decide) (t := (.array .byte)) (t' := .byte) (by decide) (by decide))))
  have k14 : To p.tables e below S0 (T11.setTop (mkF m 54 #[.val (.ref a), .val (.ref b), .val (.int (0 : Int32)), .val (.int (2 : Int32)), .val .null, .val (.ref t6)] [(.ref t6), (.ref a)])) := fun tt hq => k11 tt (by
    show Steps _ _ _ (T11.setTop (mkF m 51 #[.val (.ref a), .val (.ref b), .val (.int (0 : Int32)), .val (.int (2 : Int32)), .val .null, .val (.ref t6)] [])) _
    refine XS.aloadN X11.here hx rfl (hb hby d_jdk_42_method_149_code_51) rfl rfl ?_
    show Steps _ _ _ (T11.setTop (mkF m 52 #[.val (.ref a), .val (.ref b), .val (.int (0 : Int32)), .val (.int (2 : Int32)), .val .null, .val (.ref t6)] [(.ref a)])) _
    refine XS.aload X11.here hx rfl (hb hby d_jdk_42_method_149_code_52) rfl rfl ?_
    show Steps _ _ _ (T11.setTop (mkF m 54 #[.val (.ref a), .val (.ref b), .val (.int (0 : Int32)), .val (.int (2 : Int32)), .val .null, .val (.ref t6)] [(.ref t6), (.ref a)])) _
    exact hq)
  obtain ⟨T15, h15, X15, e15, W15, st15⟩ := putF X11 hx hZ hown (host := "") (Or.inl (hw _ (List.mem_of_getElem? (i := 27) rfl))) Via.refl e11 f13 f12 (Or.inr ⟨(hw _ (List.mem_of_getElem? (i := 23) rfl)), rfl, hnm⟩) (hw _ (List.mem_of_getElem? (i := 8) rfl)) (ty := (.array .byte)) (by decide) rfl rfl (g := (mkF m 54 #[.val (.ref a), .val (.ref b), .val (.int (0 : Int32)), .val (.int (2 : Int32)), .val .null, .val (.ref t6)] [(.ref t6), (.ref a)])) rfl rfl (hb hby d_jdk_42_method_149_code_54)
  have k15 : To p.tables e below S0 (T15.setTop (mkF m 57 #[.val (.ref a), .val (.ref b), .val (.int (0 : Int32)), .val (.int (2 : Int32)), .val .null, .val (.ref t6)] [])) := fun tt hq => k14 tt (st15 tt hq)
  have z15 : h15.size = h11.size := W15.size
  have F15 := f13.same W15
  have N15 := Fr.snoc X15 N11 (by omega : n0 ≤ a)
  have f16 : Exa Z h15 a "java/lang/String" := (f12.wr W15)
  have f17 : Fld Z h15 a "java/lang/String" "coder" "B" (.int (0 : Int32)) := (F11.other W15 (Or.inr (slot_ne (Or.inr (hw _ (List.mem_of_getElem? (i := 24) rfl))) (Or.inr (hw _ (List.mem_of_getElem? (i := 23) rfl))) (by decide) (t := .byte) (t' := (.array .byte)) (by decide) (by decide))))
  have f18 : Arv Z h15 t6 kt6 .byte (2 : Int32) [(.int (nar .byte (d0.toInt8.toInt32))), (.int (nar .byte (d1.toInt8.toInt32)))] (.int (0 : Int32)) := ((V6.other W11 (adr_ne (by omega))).other W15 (adr_ne (by omega)))
  have hE := e15
  refine retVoid X15 hx hret hlk (hb hby d_jdk_42_method_149_code_57) k15 ?_ (by decide) (by decide)
  try rw [hE]
  exact ⟨rfl, N15, ((((Keep.refl h0 [a]).trans Kq6 all0).wr W11 (Or.inl (by simp))).wr W15 (Or.inl (by simp))), t6, kt6, (by omega), f16, F15, f17, f18⟩
theorem d_jdk_42_method_3_code_0 : decode jdk_42_method_3_code 0 = .ok (.aload_n 0, 1) := by decide +kernel
theorem d_jdk_42_method_3_code_1 : decode jdk_42_method_3_code 1 = .ok (.aload_n 1, 1) := by decide +kernel
theorem d_jdk_42_method_3_code_2 : decode jdk_42_method_3_code 2 = .ok (.iconst 0, 1) := by decide +kernel
theorem d_jdk_42_method_3_code_3 : decode jdk_42_method_3_code 3 = .ok (.aload_n 1, 1) := by decide +kernel
theorem d_jdk_42_method_3_code_4 : decode jdk_42_method_3_code 4 = .ok (.arraylength, 1) := by decide +kernel
theorem d_jdk_42_method_3_code_5 : decode jdk_42_method_3_code 5 = .ok (.aconst_null, 1) := by decide +kernel
theorem d_jdk_42_method_3_code_6 : decode jdk_42_method_3_code 6 = .ok (.invokespecial 27, 3) := by decide +kernel
theorem d_jdk_42_method_3_code_9 : decode jdk_42_method_3_code 9 = .ok (.return_, 1) := by decide +kernel
theorem pd_3 : parseMethodDescriptor "([CIILjava/lang/Void;)V" = some ⟨[(.array .char), .int, .int, (.object "java/lang/Void")], none⟩ := by decide +kernel
set_option maxRecDepth 65536 in
set_option maxHeartbeats 40000000 in
theorem rm_n1_2 (l : Launch) (Z : State) (a0 : Array Value) (hw : ∀ d ∈ tables_1, d.before a0 Z = true) (zc : Int32) (a : Addr) (b : Addr) (kb : ClassId) (u1 : Value) (u2 : Value) (d0 : Int32) (d1 : Int32) (h0 : Heap) (n0 : Nat) (hn0 : n0 ≤ h0.size) (S_c : Sta Z Z.heap "java/lang/String" "COMPACT_STRINGS" "Z" (.int zc)) (hzc : ¬ zc = (0 : Int32)) (O0 : Old Z n0 h0) (E0 : Exa Z h0 a "java/lang/String") (F1 : Fld Z h0 a "java/lang/String" "value" "[B" u1) (F2 : Fld Z h0 a "java/lang/String" "coder" "B" u2) (P0 : Arv Z h0 b kb .char (2 : Int32) [(.int d0), (.int d1)] (.int (0 : Int32))) (ga : n0 ≤ a) (ya : @LT.lt Nat instLTNat a h0.size) (yb : @LT.lt Nat instLTNat b h0.size) (nab : ¬ (@Eq Nat b a)) (hd0 : ¬ d0 < (0 : Int32) ∧ ¬ (255 : Int32) < d0) (hd1 : ¬ d1 < (0 : Int32) ∧ ¬ (255 : Int32) < d1) :
    Con l Z (⟨"java/lang/String", "<init>", "([C)V"⟩ : MethodName) jdk_42_method_3_code 2 none [] ({ frames := 3, cells := 1, slots := 2, locals := 52 } : Room) #[(.ref a), (.ref b)] h0 (fun v h L => v = none ∧ Fr n0 L ∧ Keep h0 h [a] ∧ ∃ (t : Addr) (k : ClassId), h0.size ≤ t ∧ Exa Z h a "java/lang/String" ∧ Fld Z h a "java/lang/String" "value" "[B" (.ref t) ∧ Fld Z h a "java/lang/String" "coder" "B" (.int (0 : Int32)) ∧ Arv Z h t k .byte (2 : Int32) [(.int (nar .byte (d0.toInt8.toInt32))), (.int (nar .byte (d1.toInt8.toInt32)))] (.int (0 : Int32))) := by
  refine enter (Ls := #[.val (.ref a), .val (.ref b)]) (plainFor_of_name pn_1) (fun m => by exact entry_eq rfl) ?_
  intro p e s m below meth cd_ s₁ S0 hx hby hml hret hlk hnm hown hZ X0 e0 k0
  have N0 := Fr.nil n0
  have k1 : To p.tables e below S0 (s₁.setTop (mkF m 4 #[.val (.ref a), .val (.ref b)] [(.ref b), (.int (0 : Int32)), (.ref b), (.ref a)])) := fun tt hq => k0 tt (by
    show Steps _ _ _ (s₁.setTop (mkF m 0 #[.val (.ref a), .val (.ref b)] [])) _
    refine XS.aloadN X0.here hx rfl (hb hby d_jdk_42_method_3_code_0) rfl rfl ?_
    show Steps _ _ _ (s₁.setTop (mkF m 1 #[.val (.ref a), .val (.ref b)] [(.ref a)])) _
    refine XS.aloadN X0.here hx rfl (hb hby d_jdk_42_method_3_code_1) rfl rfl ?_
    show Steps _ _ _ (s₁.setTop (mkF m 2 #[.val (.ref a), .val (.ref b)] [(.ref b), (.ref a)])) _
    refine XS.iconst X0.here hx rfl (hb hby d_jdk_42_method_3_code_2) ?_
    show Steps _ _ _ (s₁.setTop (mkF m 3 #[.val (.ref a), .val (.ref b)] [(.int (0 : Int32)), (.ref b), (.ref a)])) _
    refine XS.aloadN X0.here hx rfl (hb hby d_jdk_42_method_3_code_3) rfl rfl ?_
    show Steps _ _ _ (s₁.setTop (mkF m 4 #[.val (.ref a), .val (.ref b)] [(.ref b), (.int (0 : Int32)), (.ref b), (.ref a)])) _
    exact hq)
  obtain ⟨cl2, Ar2, -, S2, M2, -, -⟩ := id P0
  have st2 := fun tt => X0.arraylength hx (by rw [e0]; exact Ar2.1) (State.isArrayOf_alike hZ.alike Ar2.2.1) (g := (mkF m 4 #[.val (.ref a), .val (.ref b)] [(.ref b), (.int (0 : Int32)), (.ref b), (.ref a)])) rfl rfl (hb hby d_jdk_42_method_3_code_4) tt
  rw [len_of S2 M2] at st2
  have k2 : To p.tables e below S0 (s₁.setTop (mkF m 5 #[.val (.ref a), .val (.ref b)] [(.int (2 : Int32)), (.int (0 : Int32)), (.ref b), (.ref a)])) := fun tt hq => k1 tt (st2 tt hq)
  have k3 : To p.tables e below S0 (s₁.setTop (mkF m 6 #[.val (.ref a), .val (.ref b)] [.null, (.int (2 : Int32)), (.int (0 : Int32)), (.ref b), (.ref a)])) := fun tt hq => k2 tt (by
    show Steps _ _ _ (s₁.setTop (mkF m 5 #[.val (.ref a), .val (.ref b)] [(.int (2 : Int32)), (.int (0 : Int32)), (.ref b), (.ref a)])) _
    refine XS.aconstNull X0.here hx rfl (hb hby d_jdk_42_method_3_code_5) ?_
    show Steps _ _ _ (s₁.setTop (mkF m 6 #[.val (.ref a), .val (.ref b)] [.null, (.int (2 : Int32)), (.int (0 : Int32)), (.ref b), (.ref a)])) _
    exact hq)
  obtain ⟨_, T4, L4, X4, ⟨rfl, Nq4, Kq4, t4, kt4, gt4, P40, P41, P42, P43⟩, k4a⟩ := callC' X0 hx hZ (y := (⟨"java/lang/String", "<init>", "([CIILjava/lang/Void;)V"⟩ : MethodName)) rfl hown (hw _ (List.mem_of_getElem? (i := 14) rfl)) (hw _ (List.mem_of_getElem? (i := 15) rfl)) (hw _ (List.mem_of_getElem? (i := 17) rfl)) (by decide) (backC (W := 0) (rm_n4_2 l Z a0 hw zc a b kb u1 u2 d0 d1 h0 n0 (by omega) S_c hzc O0 E0 F1 F2 P0 (by omega) (by omega) (by omega) (by omega) hd0 hd1) hZ (hw _ (List.mem_of_getElem? (i := 17) rfl)) (hw _ (List.mem_of_getElem? (i := 9) rfl)) (by decide) (by decide)) e0 (argsL := [(.ref b), (.int (0 : Int32)), (.int (2 : Int32)), .null]) (rest := []) rfl rfl pd_3 rfl (by rw [hml]; rfl) (hb hby d_jdk_42_method_3_code_6) (Nat.le_of_eq rfl) (by decide) (by decide) k3
  have k4 : To p.tables e below S0 (T4.setTop (mkF m 9 #[.val (.ref a), .val (.ref b)] [])) := k4a
  have N4 := N0.app Nq4
  obtain ⟨h4, e4⟩ : ∃ z, T4.heap = z := ⟨_, rfl⟩
  rw [e4] at Kq4 P40 P41 P42 P43
  have z4 : h0.size ≤ h4.size := Kq4.1
  have y4 : @LT.lt Nat instLTNat t4 h4.size := P43.lt
  have hE := e4
  refine retVoid X4 hx hret hlk (hb hby d_jdk_42_method_3_code_9) k4 ?_ (by decide) (by decide)
  try rw [hE]
  exact ⟨rfl, N4, ((Keep.refl h0 [a]).trans Kq4 (allS (Or.inl (by simp)) all0)), t4, kt4, (by omega), P40, P41, P42, P43⟩
set_option maxRecDepth 65536 in
set_option maxHeartbeats 40000000 in
theorem rm_c5_3 (l : Launch) (Z : State) (a0 : Array Value) (hw : ∀ d ∈ tables_1, d.before a0 Z = true) (b : Addr) (kb : ClassId) (t : Addr) (kt : ClassId) (d0 : Int32) (d1 : Int32) (d2 : Int32) (h0 : Heap) (n0 : Nat) (hn0 : n0 ≤ h0.size) (P0 : Arv Z h0 b kb .char (3 : Int32) [(.int d0), (.int d1), (.int d2)] (.int (0 : Int32))) (P1 : Arv Z h0 t kt .byte (3 : Int32) [(.int (0 : Int32)), (.int (0 : Int32)), (.int (0 : Int32))] (.int (0 : Int32))) (ga : n0 ≤ t) (nbt : ¬ (@Eq Nat b t)) (hd0 : ¬ d0 < (0 : Int32) ∧ ¬ (255 : Int32) < d0) (hd1 : ¬ d1 < (0 : Int32) ∧ ¬ (255 : Int32) < d1) (hd2 : ¬ d2 < (0 : Int32) ∧ ¬ (255 : Int32) < d2) :
    Con l Z (⟨"java/lang/StringUTF16", "compress", "([CI[BII)I"⟩ : MethodName) jdk_52_method_21_code 7 (some .int) [] ({ frames := 0, cells := 0, slots := 0, locals := 0 } : Room) #[(.ref b), (.int (0 : Int32)), (.ref t), (.int (0 : Int32)), (.int (3 : Int32))] h0 (fun v h L => v = some (.int (3 : Int32)) ∧ Fr n0 L ∧ Keep h0 h [t] ∧ Arv Z h t kt .byte (3 : Int32) [(.int (nar .byte (d0.toInt8.toInt32))), (.int (nar .byte (d1.toInt8.toInt32))), (.int (nar .byte (d2.toInt8.toInt32)))] (.int (0 : Int32))) := by
  refine enter (Ls := #[.val (.ref b), .val (.int (0 : Int32)), .val (.ref t), .val (.int (0 : Int32)), .val (.int (3 : Int32)), .unset, .unset]) (plainFor_of_name pn_0) (fun m => by exact entry_eq rfl) ?_
  intro p e s m below meth cd_ s₁ S0 hx hby hml hret hlk hnm hown hZ X0 e0 k0
  have N0 := Fr.nil n0
  have k1 : To p.tables e below S0 (s₁.setTop (mkF m 12 #[.val (.ref b), .val (.int (0 : Int32)), .val (.ref t), .val (.int (0 : Int32)), .val (.int (3 : Int32)), .val (.int (0 : Int32)), .unset] [(.int (0 : Int32)), (.ref b)])) := fun tt hq => k0 tt (by
    show Steps _ _ _ (s₁.setTop (mkF m 0 #[.val (.ref b), .val (.int (0 : Int32)), .val (.ref t), .val (.int (0 : Int32)), .val (.int (3 : Int32)), .unset, .unset] [])) _
    refine XS.iconst X0.here hx rfl (hb hby d_jdk_52_method_21_code_0) ?_
    show Steps _ _ _ (s₁.setTop (mkF m 1 #[.val (.ref b), .val (.int (0 : Int32)), .val (.ref t), .val (.int (0 : Int32)), .val (.int (3 : Int32)), .unset, .unset] [(.int (0 : Int32))])) _
    refine XS.istore X0.here hx rfl (hb hby d_jdk_52_method_21_code_1) rfl (l' := #[.val (.ref b), .val (.int (0 : Int32)), .val (.ref t), .val (.int (0 : Int32)), .val (.int (3 : Int32)), .val (.int (0 : Int32)), .unset]) rfl ?_
    show Steps _ _ _ (s₁.setTop (mkF m 3 #[.val (.ref b), .val (.int (0 : Int32)), .val (.ref t), .val (.int (0 : Int32)), .val (.int (3 : Int32)), .val (.int (0 : Int32)), .unset] [])) _
    refine XS.iload X0.here hx rfl (hb hby d_jdk_52_method_21_code_3) rfl ?_
    show Steps _ _ _ (s₁.setTop (mkF m 5 #[.val (.ref b), .val (.int (0 : Int32)), .val (.ref t), .val (.int (0 : Int32)), .val (.int (3 : Int32)), .val (.int (0 : Int32)), .unset] [(.int (0 : Int32))])) _
    refine XS.iload X0.here hx rfl (hb hby d_jdk_52_method_21_code_5) rfl ?_
    show Steps _ _ _ (s₁.setTop (mkF m 7 #[.val (.ref b), .val (.int (0 : Int32)), .val (.ref t), .val (.int (0 : Int32)), .val (.int (3 : Int32)), .val (.int (0 : Int32)), .unset] [(.int (3 : Int32)), (.int (0 : Int32))])) _
    refine XS.icmpNo X0.here hx rfl (hb hby d_jdk_52_method_21_code_7) rfl (tlt (by decide)).2.1 ?_
    show Steps _ _ _ (s₁.setTop (mkF m 10 #[.val (.ref b), .val (.int (0 : Int32)), .val (.ref t), .val (.int (0 : Int32)), .val (.int (3 : Int32)), .val (.int (0 : Int32)), .unset] [])) _
    refine XS.aloadN X0.here hx rfl (hb hby d_jdk_52_method_21_code_10) rfl rfl ?_
    show Steps _ _ _ (s₁.setTop (mkF m 11 #[.val (.ref b), .val (.int (0 : Int32)), .val (.ref t), .val (.int (0 : Int32)), .val (.int (3 : Int32)), .val (.int (0 : Int32)), .unset] [(.ref b)])) _
    refine XS.iloadN X0.here hx rfl (hb hby d_jdk_52_method_21_code_11) rfl ?_
    show Steps _ _ _ (s₁.setTop (mkF m 12 #[.val (.ref b), .val (.int (0 : Int32)), .val (.ref t), .val (.int (0 : Int32)), .val (.int (3 : Int32)), .val (.int (0 : Int32)), .unset] [(.int (0 : Int32)), (.ref b)])) _
    exact hq)
  obtain ⟨cl2, Ar2, -, S2, -, G2, -⟩ := id P0
  have hi2 := inb_of (j := (0 : Int32)) S2 ⟨by decide, by decide⟩
  have st2 := fun tt => X0.caload hx (j := (0 : Int32)) (v := (.int d0)) (by rw [e0]; exact Ar2.1) (State.isArrayOf_alike hZ.alike Ar2.2.1) Ar2.2.2 hi2 (G2.at hi2 rfl) (g := (mkF m 12 #[.val (.ref b), .val (.int (0 : Int32)), .val (.ref t), .val (.int (0 : Int32)), .val (.int (3 : Int32)), .val (.int (0 : Int32)), .unset] [(.int (0 : Int32)), (.ref b)])) rfl rfl (hb hby d_jdk_52_method_21_code_12) tt
  have k2 : To p.tables e below S0 (s₁.setTop (mkF m 13 #[.val (.ref b), .val (.int (0 : Int32)), .val (.ref t), .val (.int (0 : Int32)), .val (.int (3 : Int32)), .val (.int (0 : Int32)), .unset] [(.int d0)])) := fun tt hq => k1 tt (st2 tt hq)
  have k3 : To p.tables e below S0 (s₁.setTop (mkF m 31 #[.val (.ref b), .val (.int (0 : Int32)), .val (.ref t), .val (.int (0 : Int32)), .val (.int (3 : Int32)), .val (.int (0 : Int32)), .val (.int d0)] [(.int (d0.toInt8.toInt32)), (.int (0 : Int32)), (.ref t)])) := fun tt hq => k2 tt (by
    show Steps _ _ _ (s₁.setTop (mkF m 13 #[.val (.ref b), .val (.int (0 : Int32)), .val (.ref t), .val (.int (0 : Int32)), .val (.int (3 : Int32)), .val (.int (0 : Int32)), .unset] [(.int d0)])) _
    refine XS.istore X0.here hx rfl (hb hby d_jdk_52_method_21_code_13) rfl (l' := #[.val (.ref b), .val (.int (0 : Int32)), .val (.ref t), .val (.int (0 : Int32)), .val (.int (3 : Int32)), .val (.int (0 : Int32)), .val (.int d0)]) rfl ?_
    show Steps _ _ _ (s₁.setTop (mkF m 15 #[.val (.ref b), .val (.int (0 : Int32)), .val (.ref t), .val (.int (0 : Int32)), .val (.int (3 : Int32)), .val (.int (0 : Int32)), .val (.int d0)] [])) _
    refine XS.iload X0.here hx rfl (hb hby d_jdk_52_method_21_code_15) rfl ?_
    show Steps _ _ _ (s₁.setTop (mkF m 17 #[.val (.ref b), .val (.int (0 : Int32)), .val (.ref t), .val (.int (0 : Int32)), .val (.int (3 : Int32)), .val (.int (0 : Int32)), .val (.int d0)] [(.int d0)])) _
    refine XS.sipush X0.here hx rfl (hb hby d_jdk_52_method_21_code_17) ?_
    show Steps _ _ _ (s₁.setTop (mkF m 20 #[.val (.ref b), .val (.int (0 : Int32)), .val (.ref t), .val (.int (0 : Int32)), .val (.int (3 : Int32)), .val (.int (0 : Int32)), .val (.int d0)] [(.int (255 : Int32)), (.int d0)])) _
    refine XS.icmpYes X0.here hx rfl (pc0 := 20) (pc' := 26) rfl (hb hby d_jdk_52_method_21_code_20) rfl (flt hd0.2).2.2.2 (by decide) (by decide) ?_
    show Steps _ _ _ (s₁.setTop (mkF m 26 #[.val (.ref b), .val (.int (0 : Int32)), .val (.ref t), .val (.int (0 : Int32)), .val (.int (3 : Int32)), .val (.int (0 : Int32)), .val (.int d0)] [])) _
    refine XS.aloadN X0.here hx rfl (hb hby d_jdk_52_method_21_code_26) rfl rfl ?_
    show Steps _ _ _ (s₁.setTop (mkF m 27 #[.val (.ref b), .val (.int (0 : Int32)), .val (.ref t), .val (.int (0 : Int32)), .val (.int (3 : Int32)), .val (.int (0 : Int32)), .val (.int d0)] [(.ref t)])) _
    refine XS.iloadN X0.here hx rfl (hb hby d_jdk_52_method_21_code_27) rfl ?_
    show Steps _ _ _ (s₁.setTop (mkF m 28 #[.val (.ref b), .val (.int (0 : Int32)), .val (.ref t), .val (.int (0 : Int32)), .val (.int (3 : Int32)), .val (.int (0 : Int32)), .val (.int d0)] [(.int (0 : Int32)), (.ref t)])) _
    refine XS.iload X0.here hx rfl (hb hby d_jdk_52_method_21_code_28) rfl ?_
    show Steps _ _ _ (s₁.setTop (mkF m 30 #[.val (.ref b), .val (.int (0 : Int32)), .val (.ref t), .val (.int (0 : Int32)), .val (.int (3 : Int32)), .val (.int (0 : Int32)), .val (.int d0)] [(.int d0), (.int (0 : Int32)), (.ref t)])) _
    refine XS.i2b X0.here hx rfl (hb hby d_jdk_52_method_21_code_30) rfl ?_
    show Steps _ _ _ (s₁.setTop (mkF m 31 #[.val (.ref b), .val (.int (0 : Int32)), .val (.ref t), .val (.int (0 : Int32)), .val (.int (3 : Int32)), .val (.int (0 : Int32)), .val (.int d0)] [(.int (d0.toInt8.toInt32)), (.int (0 : Int32)), (.ref t)])) _
    exact hq)
  obtain ⟨cl4, Ar4, q4, S4, M4, G4, J4⟩ := id P1
  obtain ⟨T4, h4, X4, e4, W4, st4⟩ := stB X0 hx hZ e0 Ar4 (j := (0 : Int32)) (inb_of S4 ⟨by decide, by decide⟩) (g := (mkF m 31 #[.val (.ref b), .val (.int (0 : Int32)), .val (.ref t), .val (.int (0 : Int32)), .val (.int (3 : Int32)), .val (.int (0 : Int32)), .val (.int d0)] [(.int (d0.toInt8.toInt32)), (.int (0 : Int32)), (.ref t)])) rfl rfl (hb hby d_jdk_52_method_21_code_31)
  have k4 : To p.tables e below S0 (T4.setTop (mkF m 32 #[.val (.ref b), .val (.int (0 : Int32)), .val (.ref t), .val (.int (0 : Int32)), .val (.int (3 : Int32)), .val (.int (0 : Int32)), .val (.int d0)] [])) := fun tt hq => k3 tt (st4 tt hq)
  have z4 : h4.size = h0.size := W4.size
  have V4 : Arv Z h4 t kt .byte (3 : Int32) [(.int (nar .byte (d0.toInt8.toInt32))), (.int (0 : Int32)), (.int (0 : Int32))] (.int (0 : Int32)) := Arv.set Ar4 q4 S4 M4 G4 J4 (fits_nar_byte _) W4 0 rfl (Nat.le_of_ble_eq_true rfl)
  have N4 := Fr.snoc X4 N0 (by omega : n0 ≤ t)
  have f5 : Arv Z h4 b kb .char (3 : Int32) [(.int d0), (.int d1), (.int d2)] (.int (0 : Int32)) := (P0.other W4 (adr_ne (by omega)))
  have k6 : To p.tables e below S0 (T4.setTop (mkF m 12 #[.val (.ref b), .val (.int (1 : Int32)), .val (.ref t), .val (.int (1 : Int32)), .val (.int (3 : Int32)), .val (.int (1 : Int32)), .val (.int d0)] [(.int (1 : Int32)), (.ref b)])) := fun tt hq => k4 tt (by
    show Steps _ _ _ (T4.setTop (mkF m 32 #[.val (.ref b), .val (.int (0 : Int32)), .val (.ref t), .val (.int (0 : Int32)), .val (.int (3 : Int32)), .val (.int (0 : Int32)), .val (.int d0)] [])) _
    refine XS.iinc X4.here hx rfl (hb hby d_jdk_52_method_21_code_32) rfl (l' := #[.val (.ref b), .val (.int (1 : Int32)), .val (.ref t), .val (.int (0 : Int32)), .val (.int (3 : Int32)), .val (.int (0 : Int32)), .val (.int d0)]) rfl ?_
    show Steps _ _ _ (T4.setTop (mkF m 35 #[.val (.ref b), .val (.int (1 : Int32)), .val (.ref t), .val (.int (0 : Int32)), .val (.int (3 : Int32)), .val (.int (0 : Int32)), .val (.int d0)] [])) _
    refine XS.iinc X4.here hx rfl (hb hby d_jdk_52_method_21_code_35) rfl (l' := #[.val (.ref b), .val (.int (1 : Int32)), .val (.ref t), .val (.int (1 : Int32)), .val (.int (3 : Int32)), .val (.int (0 : Int32)), .val (.int d0)]) rfl ?_
    show Steps _ _ _ (T4.setTop (mkF m 38 #[.val (.ref b), .val (.int (1 : Int32)), .val (.ref t), .val (.int (1 : Int32)), .val (.int (3 : Int32)), .val (.int (0 : Int32)), .val (.int d0)] [])) _
    refine XS.iinc X4.here hx rfl (hb hby d_jdk_52_method_21_code_38) rfl (l' := #[.val (.ref b), .val (.int (1 : Int32)), .val (.ref t), .val (.int (1 : Int32)), .val (.int (3 : Int32)), .val (.int (1 : Int32)), .val (.int d0)]) rfl ?_
    show Steps _ _ _ (T4.setTop (mkF m 41 #[.val (.ref b), .val (.int (1 : Int32)), .val (.ref t), .val (.int (1 : Int32)), .val (.int (3 : Int32)), .val (.int (1 : Int32)), .val (.int d0)] [])) _
    refine XS.goto X4.here hx rfl (pc0 := 41) (pc' := 3) rfl (hb hby d_jdk_52_method_21_code_41) (by decide) (by decide) ?_
    show Steps _ _ _ (T4.setTop (mkF m 3 #[.val (.ref b), .val (.int (1 : Int32)), .val (.ref t), .val (.int (1 : Int32)), .val (.int (3 : Int32)), .val (.int (1 : Int32)), .val (.int d0)] [])) _
    refine XS.iload X4.here hx rfl (hb hby d_jdk_52_method_21_code_3) rfl ?_
    show Steps _ _ _ (T4.setTop (mkF m 5 #[.val (.ref b), .val (.int (1 : Int32)), .val (.ref t), .val (.int (1 : Int32)), .val (.int (3 : Int32)), .val (.int (1 : Int32)), .val (.int d0)] [(.int (1 : Int32))])) _
    refine XS.iload X4.here hx rfl (hb hby d_jdk_52_method_21_code_5) rfl ?_
    show Steps _ _ _ (T4.setTop (mkF m 7 #[.val (.ref b), .val (.int (1 : Int32)), .val (.ref t), .val (.int (1 : Int32)), .val (.int (3 : Int32)), .val (.int (1 : Int32)), .val (.int d0)] [(.int (3 : Int32)), (.int (1 : Int32))])) _
    refine XS.icmpNo X4.here hx rfl (hb hby d_jdk_52_method_21_code_7) rfl (tlt (by decide)).2.1 ?_
    show Steps _ _ _ (T4.setTop (mkF m 10 #[.val (.ref b), .val (.int (1 : Int32)), .val (.ref t), .val (.int (1 : Int32)), .val (.int (3 : Int32)), .val (.int (1 : Int32)), .val (.int d0)] [])) _
    refine XS.aloadN X4.here hx rfl (hb hby d_jdk_52_method_21_code_10) rfl rfl ?_
    show Steps _ _ _ (T4.setTop (mkF m 11 #[.val (.ref b), .val (.int (1 : Int32)), .val (.ref t), .val (.int (1 : Int32)), .val (.int (3 : Int32)), .val (.int (1 : Int32)), .val (.int d0)] [(.ref b)])) _
    refine XS.iloadN X4.here hx rfl (hb hby d_jdk_52_method_21_code_11) rfl ?_
    show Steps _ _ _ (T4.setTop (mkF m 12 #[.val (.ref b), .val (.int (1 : Int32)), .val (.ref t), .val (.int (1 : Int32)), .val (.int (3 : Int32)), .val (.int (1 : Int32)), .val (.int d0)] [(.int (1 : Int32)), (.ref b)])) _
    exact hq)
  obtain ⟨cl7, Ar7, -, S7, -, G7, -⟩ := id f5
  have hi7 := inb_of (j := (1 : Int32)) S7 ⟨by decide, by decide⟩
  have st7 := fun tt => X4.caload hx (j := (1 : Int32)) (v := (.int d1)) (by rw [e4]; exact Ar7.1) (State.isArrayOf_alike hZ.alike Ar7.2.1) Ar7.2.2 hi7 (G7.at hi7 rfl) (g := (mkF m 12 #[.val (.ref b), .val (.int (1 : Int32)), .val (.ref t), .val (.int (1 : Int32)), .val (.int (3 : Int32)), .val (.int (1 : Int32)), .val (.int d0)] [(.int (1 : Int32)), (.ref b)])) rfl rfl (hb hby d_jdk_52_method_21_code_12) tt
  have k7 : To p.tables e below S0 (T4.setTop (mkF m 13 #[.val (.ref b), .val (.int (1 : Int32)), .val (.ref t), .val (.int (1 : Int32)), .val (.int (3 : Int32)), .val (.int (1 : Int32)), .val (.int d0)] [(.int d1)])) := fun tt hq => k6 tt (st7 tt hq)
  have k8 : To p.tables e below S0 (T4.setTop (mkF m 31 #[.val (.ref b), .val (.int (1 : Int32)), .val (.ref t), .val (.int (1 : Int32)), .val (.int (3 : Int32)), .val (.int (1 : Int32)), .val (.int d1)] [(.int (d1.toInt8.toInt32)), (.int (1 : Int32)), (.ref t)])) := fun tt hq => k7 tt (by
    show Steps _ _ _ (T4.setTop (mkF m 13 #[.val (.ref b), .val (.int (1 : Int32)), .val (.ref t), .val (.int (1 : Int32)), .val (.int (3 : Int32)), .val (.int (1 : Int32)), .val (.int d0)] [(.int d1)])) _
    refine XS.istore X4.here hx rfl (hb hby d_jdk_52_method_21_code_13) rfl (l' := #[.val (.ref b), .val (.int (1 : Int32)), .val (.ref t), .val (.int (1 : Int32)), .val (.int (3 : Int32)), .val (.int (1 : Int32)), .val (.int d1)]) rfl ?_
    show Steps _ _ _ (T4.setTop (mkF m 15 #[.val (.ref b), .val (.int (1 : Int32)), .val (.ref t), .val (.int (1 : Int32)), .val (.int (3 : Int32)), .val (.int (1 : Int32)), .val (.int d1)] [])) _
    refine XS.iload X4.here hx rfl (hb hby d_jdk_52_method_21_code_15) rfl ?_
    show Steps _ _ _ (T4.setTop (mkF m 17 #[.val (.ref b), .val (.int (1 : Int32)), .val (.ref t), .val (.int (1 : Int32)), .val (.int (3 : Int32)), .val (.int (1 : Int32)), .val (.int d1)] [(.int d1)])) _
    refine XS.sipush X4.here hx rfl (hb hby d_jdk_52_method_21_code_17) ?_
    show Steps _ _ _ (T4.setTop (mkF m 20 #[.val (.ref b), .val (.int (1 : Int32)), .val (.ref t), .val (.int (1 : Int32)), .val (.int (3 : Int32)), .val (.int (1 : Int32)), .val (.int d1)] [(.int (255 : Int32)), (.int d1)])) _
    refine XS.icmpYes X4.here hx rfl (pc0 := 20) (pc' := 26) rfl (hb hby d_jdk_52_method_21_code_20) rfl (flt hd1.2).2.2.2 (by decide) (by decide) ?_
    show Steps _ _ _ (T4.setTop (mkF m 26 #[.val (.ref b), .val (.int (1 : Int32)), .val (.ref t), .val (.int (1 : Int32)), .val (.int (3 : Int32)), .val (.int (1 : Int32)), .val (.int d1)] [])) _
    refine XS.aloadN X4.here hx rfl (hb hby d_jdk_52_method_21_code_26) rfl rfl ?_
    show Steps _ _ _ (T4.setTop (mkF m 27 #[.val (.ref b), .val (.int (1 : Int32)), .val (.ref t), .val (.int (1 : Int32)), .val (.int (3 : Int32)), .val (.int (1 : Int32)), .val (.int d1)] [(.ref t)])) _
    refine XS.iloadN X4.here hx rfl (hb hby d_jdk_52_method_21_code_27) rfl ?_
    show Steps _ _ _ (T4.setTop (mkF m 28 #[.val (.ref b), .val (.int (1 : Int32)), .val (.ref t), .val (.int (1 : Int32)), .val (.int (3 : Int32)), .val (.int (1 : Int32)), .val (.int d1)] [(.int (1 : Int32)), (.ref t)])) _
    refine XS.iload X4.here hx rfl (hb hby d_jdk_52_method_21_code_28) rfl ?_
    show Steps _ _ _ (T4.setTop (mkF m 30 #[.val (.ref b), .val (.int (1 : Int32)), .val (.ref t), .val (.int (1 : Int32)), .val (.int (3 : Int32)), .val (.int (1 : Int32)), .val (.int d1)] [(.int d1), (.int (1 : Int32)), (.ref t)])) _
    refine XS.i2b X4.here hx rfl (hb hby d_jdk_52_method_21_code_30) rfl ?_
    show Steps _ _ _ (T4.setTop (mkF m 31 #[.val (.ref b), .val (.int (1 : Int32)), .val (.ref t), .val (.int (1 : Int32)), .val (.int (3 : Int32)), .val (.int (1 : Int32)), .val (.int d1)] [(.int (d1.toInt8.toInt32)), (.int (1 : Int32)), (.ref t)])) _
    exact hq)
  obtain ⟨cl9, Ar9, q9, S9, M9, G9, J9⟩ := id V4
  obtain ⟨T9, h9, X9, e9, W9, st9⟩ := stB X4 hx hZ e4 Ar9 (j := (1 : Int32)) (inb_of S9 ⟨by decide, by decide⟩) (g := (mkF m 31 #[.val (.ref b), .val (.int (1 : Int32)), .val (.ref t), .val (.int (1 : Int32)), .val (.int (3 : Int32)), .val (.int (1 : Int32)), .val (.int d1)] [(.int (d1.toInt8.toInt32)), (.int (1 : Int32)), (.ref t)])) rfl rfl (hb hby d_jdk_52_method_21_code_31)
  have k9 : To p.tables e below S0 (T9.setTop (mkF m 32 #[.val (.ref b), .val (.int (1 : Int32)), .val (.ref t), .val (.int (1 : Int32)), .val (.int (3 : Int32)), .val (.int (1 : Int32)), .val (.int d1)] [])) := fun tt hq => k8 tt (st9 tt hq)
  have z9 : h9.size = h4.size := W9.size
  have V9 : Arv Z h9 t kt .byte (3 : Int32) [(.int (nar .byte (d0.toInt8.toInt32))), (.int (nar .byte (d1.toInt8.toInt32))), (.int (0 : Int32))] (.int (0 : Int32)) := Arv.set Ar9 q9 S9 M9 G9 J9 (fits_nar_byte _) W9 1 rfl (Nat.le_of_ble_eq_true rfl)
  have N9 := Fr.snoc X9 N4 (by omega : n0 ≤ t)
  have f10 : Arv Z h9 b kb .char (3 : Int32) [(.int d0), (.int d1), (.int d2)] (.int (0 : Int32)) := (f5.other W9 (adr_ne (by omega)))
  have k11 : To p.tables e below S0 (T9.setTop (mkF m 12 #[.val (.ref b), .val (.int (2 : Int32)), .val (.ref t), .val (.int (2 : Int32)), .val (.int (3 : Int32)), .val (.int (2 : Int32)), .val (.int d1)] [(.int (2 : Int32)), (.ref b)])) := fun tt hq => k9 tt (by
    show Steps _ _ _ (T9.setTop (mkF m 32 #[.val (.ref b), .val (.int (1 : Int32)), .val (.ref t), .val (.int (1 : Int32)), .val (.int (3 : Int32)), .val (.int (1 : Int32)), .val (.int d1)] [])) _
    refine XS.iinc X9.here hx rfl (hb hby d_jdk_52_method_21_code_32) rfl (l' := #[.val (.ref b), .val (.int (2 : Int32)), .val (.ref t), .val (.int (1 : Int32)), .val (.int (3 : Int32)), .val (.int (1 : Int32)), .val (.int d1)]) rfl ?_
    show Steps _ _ _ (T9.setTop (mkF m 35 #[.val (.ref b), .val (.int (2 : Int32)), .val (.ref t), .val (.int (1 : Int32)), .val (.int (3 : Int32)), .val (.int (1 : Int32)), .val (.int d1)] [])) _
    refine XS.iinc X9.here hx rfl (hb hby d_jdk_52_method_21_code_35) rfl (l' := #[.val (.ref b), .val (.int (2 : Int32)), .val (.ref t), .val (.int (2 : Int32)), .val (.int (3 : Int32)), .val (.int (1 : Int32)), .val (.int d1)]) rfl ?_
    show Steps _ _ _ (T9.setTop (mkF m 38 #[.val (.ref b), .val (.int (2 : Int32)), .val (.ref t), .val (.int (2 : Int32)), .val (.int (3 : Int32)), .val (.int (1 : Int32)), .val (.int d1)] [])) _
    refine XS.iinc X9.here hx rfl (hb hby d_jdk_52_method_21_code_38) rfl (l' := #[.val (.ref b), .val (.int (2 : Int32)), .val (.ref t), .val (.int (2 : Int32)), .val (.int (3 : Int32)), .val (.int (2 : Int32)), .val (.int d1)]) rfl ?_
    show Steps _ _ _ (T9.setTop (mkF m 41 #[.val (.ref b), .val (.int (2 : Int32)), .val (.ref t), .val (.int (2 : Int32)), .val (.int (3 : Int32)), .val (.int (2 : Int32)), .val (.int d1)] [])) _
    refine XS.goto X9.here hx rfl (pc0 := 41) (pc' := 3) rfl (hb hby d_jdk_52_method_21_code_41) (by decide) (by decide) ?_
    show Steps _ _ _ (T9.setTop (mkF m 3 #[.val (.ref b), .val (.int (2 : Int32)), .val (.ref t), .val (.int (2 : Int32)), .val (.int (3 : Int32)), .val (.int (2 : Int32)), .val (.int d1)] [])) _
    refine XS.iload X9.here hx rfl (hb hby d_jdk_52_method_21_code_3) rfl ?_
    show Steps _ _ _ (T9.setTop (mkF m 5 #[.val (.ref b), .val (.int (2 : Int32)), .val (.ref t), .val (.int (2 : Int32)), .val (.int (3 : Int32)), .val (.int (2 : Int32)), .val (.int d1)] [(.int (2 : Int32))])) _
    refine XS.iload X9.here hx rfl (hb hby d_jdk_52_method_21_code_5) rfl ?_
    show Steps _ _ _ (T9.setTop (mkF m 7 #[.val (.ref b), .val (.int (2 : Int32)), .val (.ref t), .val (.int (2 : Int32)), .val (.int (3 : Int32)), .val (.int (2 : Int32)), .val (.int d1)] [(.int (3 : Int32)), (.int (2 : Int32))])) _
    refine XS.icmpNo X9.here hx rfl (hb hby d_jdk_52_method_21_code_7) rfl (tlt (by decide)).2.1 ?_
    show Steps _ _ _ (T9.setTop (mkF m 10 #[.val (.ref b), .val (.int (2 : Int32)), .val (.ref t), .val (.int (2 : Int32)), .val (.int (3 : Int32)), .val (.int (2 : Int32)), .val (.int d1)] [])) _
    refine XS.aloadN X9.here hx rfl (hb hby d_jdk_52_method_21_code_10) rfl rfl ?_
    show Steps _ _ _ (T9.setTop (mkF m 11 #[.val (.ref b), .val (.int (2 : Int32)), .val (.ref t), .val (.int (2 : Int32)), .val (.int (3 : Int32)), .val (.int (2 : Int32)), .val (.int d1)] [(.ref b)])) _
    refine XS.iloadN X9.here hx rfl (hb hby d_jdk_52_method_21_code_11) rfl ?_
    show Steps _ _ _ (T9.setTop (mkF m 12 #[.val (.ref b), .val (.int (2 : Int32)), .val (.ref t), .val (.int (2 : Int32)), .val (.int (3 : Int32)), .val (.int (2 : Int32)), .val (.int d1)] [(.int (2 : Int32)), (.ref b)])) _
    exact hq)
  obtain ⟨cl12, Ar12, -, S12, -, G12, -⟩ := id f10
  have hi12 := inb_of (j := (2 : Int32)) S12 ⟨by decide, by decide⟩
  have st12 := fun tt => X9.caload hx (j := (2 : Int32)) (v := (.int d2)) (by rw [e9]; exact Ar12.1) (State.isArrayOf_alike hZ.alike Ar12.2.1) Ar12.2.2 hi12 (G12.at hi12 rfl) (g := (mkF m 12 #[.val (.ref b), .val (.int (2 : Int32)), .val (.ref t), .val (.int (2 : Int32)), .val (.int (3 : Int32)), .val (.int (2 : Int32)), .val (.int d1)] [(.int (2 : Int32)), (.ref b)])) rfl rfl (hb hby d_jdk_52_method_21_code_12) tt
  have k12 : To p.tables e below S0 (T9.setTop (mkF m 13 #[.val (.ref b), .val (.int (2 : Int32)), .val (.ref t), .val (.int (2 : Int32)), .val (.int (3 : Int32)), .val (.int (2 : Int32)), .val (.int d1)] [(.int d2)])) := fun tt hq => k11 tt (st12 tt hq)
  have k13 : To p.tables e below S0 (T9.setTop (mkF m 31 #[.val (.ref b), .val (.int (2 : Int32)), .val (.ref t), .val (.int (2 : Int32)), .val (.int (3 : Int32)), .val (.int (2 : Int32)), .val (.int d2)] [(.int (d2.toInt8.toInt32)), (.int (2 : Int32)), (.ref t)])) := fun tt hq => k12 tt (by
    show Steps _ _ _ (T9.setTop (mkF m 13 #[.val (.ref b), .val (.int (2 : Int32)), .val (.ref t), .val (.int (2 : Int32)), .val (.int (3 : Int32)), .val (.int (2 : Int32)), .val (.int d1)] [(.int d2)])) _
    refine XS.istore X9.here hx rfl (hb hby d_jdk_52_method_21_code_13) rfl (l' := #[.val (.ref b), .val (.int (2 : Int32)), .val (.ref t), .val (.int (2 : Int32)), .val (.int (3 : Int32)), .val (.int (2 : Int32)), .val (.int d2)]) rfl ?_
    show Steps _ _ _ (T9.setTop (mkF m 15 #[.val (.ref b), .val (.int (2 : Int32)), .val (.ref t), .val (.int (2 : Int32)), .val (.int (3 : Int32)), .val (.int (2 : Int32)), .val (.int d2)] [])) _
    refine XS.iload X9.here hx rfl (hb hby d_jdk_52_method_21_code_15) rfl ?_
    show Steps _ _ _ (T9.setTop (mkF m 17 #[.val (.ref b), .val (.int (2 : Int32)), .val (.ref t), .val (.int (2 : Int32)), .val (.int (3 : Int32)), .val (.int (2 : Int32)), .val (.int d2)] [(.int d2)])) _
    refine XS.sipush X9.here hx rfl (hb hby d_jdk_52_method_21_code_17) ?_
    show Steps _ _ _ (T9.setTop (mkF m 20 #[.val (.ref b), .val (.int (2 : Int32)), .val (.ref t), .val (.int (2 : Int32)), .val (.int (3 : Int32)), .val (.int (2 : Int32)), .val (.int d2)] [(.int (255 : Int32)), (.int d2)])) _
    refine XS.icmpYes X9.here hx rfl (pc0 := 20) (pc' := 26) rfl (hb hby d_jdk_52_method_21_code_20) rfl (flt hd2.2).2.2.2 (by decide) (by decide) ?_
    show Steps _ _ _ (T9.setTop (mkF m 26 #[.val (.ref b), .val (.int (2 : Int32)), .val (.ref t), .val (.int (2 : Int32)), .val (.int (3 : Int32)), .val (.int (2 : Int32)), .val (.int d2)] [])) _
    refine XS.aloadN X9.here hx rfl (hb hby d_jdk_52_method_21_code_26) rfl rfl ?_
    show Steps _ _ _ (T9.setTop (mkF m 27 #[.val (.ref b), .val (.int (2 : Int32)), .val (.ref t), .val (.int (2 : Int32)), .val (.int (3 : Int32)), .val (.int (2 : Int32)), .val (.int d2)] [(.ref t)])) _
    refine XS.iloadN X9.here hx rfl (hb hby d_jdk_52_method_21_code_27) rfl ?_
    show Steps _ _ _ (T9.setTop (mkF m 28 #[.val (.ref b), .val (.int (2 : Int32)), .val (.ref t), .val (.int (2 : Int32)), .val (.int (3 : Int32)), .val (.int (2 : Int32)), .val (.int d2)] [(.int (2 : Int32)), (.ref t)])) _
    refine XS.iload X9.here hx rfl (hb hby d_jdk_52_method_21_code_28) rfl ?_
    show Steps _ _ _ (T9.setTop (mkF m 30 #[.val (.ref b), .val (.int (2 : Int32)), .val (.ref t), .val (.int (2 : Int32)), .val (.int (3 : Int32)), .val (.int (2 : Int32)), .val (.int d2)] [(.int d2), (.int (2 : Int32)), (.ref t)])) _
    refine XS.i2b X9.here hx rfl (hb hby d_jdk_52_method_21_code_30) rfl ?_
    show Steps _ _ _ (T9.setTop (mkF m 31 #[.val (.ref b), .val (.int (2 : Int32)), .val (.ref t), .val (.int (2 : Int32)), .val (.int (3 : Int32)), .val (.int (2 : Int32)), .val (.int d2)] [(.int (d2.toInt8.toInt32)), (.int (2 : Int32)), (.ref t)])) _
    exact hq)
  obtain ⟨cl14, Ar14, q14, S14, M14, G14, J14⟩ := id V9
  obtain ⟨T14, h14, X14, e14, W14, st14⟩ := stB X9 hx hZ e9 Ar14 (j := (2 : Int32)) (inb_of S14 ⟨by decide, by decide⟩) (g := (mkF m 31 #[.val (.ref b), .val (.int (2 : Int32)), .val (.ref t), .val (.int (2 : Int32)), .val (.int (3 : Int32)), .val (.int (2 : Int32)), .val (.int d2)] [(.int (d2.toInt8.toInt32)), (.int (2 : Int32)), (.ref t)])) rfl rfl (hb hby d_jdk_52_method_21_code_31)
  have k14 : To p.tables e below S0 (T14.setTop (mkF m 32 #[.val (.ref b), .val (.int (2 : Int32)), .val (.ref t), .val (.int (2 : Int32)), .val (.int (3 : Int32)), .val (.int (2 : Int32)), .val (.int d2)] [])) := fun tt hq => k13 tt (st14 tt hq)
  have z14 : h14.size = h9.size := W14.size
  have V14 : Arv Z h14 t kt .byte (3 : Int32) [(.int (nar .byte (d0.toInt8.toInt32))), (.int (nar .byte (d1.toInt8.toInt32))), (.int (nar .byte (d2.toInt8.toInt32)))] (.int (0 : Int32)) := Arv.set Ar14 q14 S14 M14 G14 J14 (fits_nar_byte _) W14 2 rfl (Nat.le_of_ble_eq_true rfl)
  have N14 := Fr.snoc X14 N9 (by omega : n0 ≤ t)
  have k15 : To p.tables e below S0 (T14.setTop (mkF m 46 #[.val (.ref b), .val (.int (3 : Int32)), .val (.ref t), .val (.int (3 : Int32)), .val (.int (3 : Int32)), .val (.int (3 : Int32)), .val (.int d2)] [(.int (3 : Int32))])) := fun tt hq => k14 tt (by
    show Steps _ _ _ (T14.setTop (mkF m 32 #[.val (.ref b), .val (.int (2 : Int32)), .val (.ref t), .val (.int (2 : Int32)), .val (.int (3 : Int32)), .val (.int (2 : Int32)), .val (.int d2)] [])) _
    refine XS.iinc X14.here hx rfl (hb hby d_jdk_52_method_21_code_32) rfl (l' := #[.val (.ref b), .val (.int (3 : Int32)), .val (.ref t), .val (.int (2 : Int32)), .val (.int (3 : Int32)), .val (.int (2 : Int32)), .val (.int d2)]) rfl ?_
    show Steps _ _ _ (T14.setTop (mkF m 35 #[.val (.ref b), .val (.int (3 : Int32)), .val (.ref t), .val (.int (2 : Int32)), .val (.int (3 : Int32)), .val (.int (2 : Int32)), .val (.int d2)] [])) _
    refine XS.iinc X14.here hx rfl (hb hby d_jdk_52_method_21_code_35) rfl (l' := #[.val (.ref b), .val (.int (3 : Int32)), .val (.ref t), .val (.int (3 : Int32)), .val (.int (3 : Int32)), .val (.int (2 : Int32)), .val (.int d2)]) rfl ?_
    show Steps _ _ _ (T14.setTop (mkF m 38 #[.val (.ref b), .val (.int (3 : Int32)), .val (.ref t), .val (.int (3 : Int32)), .val (.int (3 : Int32)), .val (.int (2 : Int32)), .val (.int d2)] [])) _
    refine XS.iinc X14.here hx rfl (hb hby d_jdk_52_method_21_code_38) rfl (l' := #[.val (.ref b), .val (.int (3 : Int32)), .val (.ref t), .val (.int (3 : Int32)), .val (.int (3 : Int32)), .val (.int (3 : Int32)), .val (.int d2)]) rfl ?_
    show Steps _ _ _ (T14.setTop (mkF m 41 #[.val (.ref b), .val (.int (3 : Int32)), .val (.ref t), .val (.int (3 : Int32)), .val (.int (3 : Int32)), .val (.int (3 : Int32)), .val (.int d2)] [])) _
    refine XS.goto X14.here hx rfl (pc0 := 41) (pc' := 3) rfl (hb hby d_jdk_52_method_21_code_41) (by decide) (by decide) ?_
    show Steps _ _ _ (T14.setTop (mkF m 3 #[.val (.ref b), .val (.int (3 : Int32)), .val (.ref t), .val (.int (3 : Int32)), .val (.int (3 : Int32)), .val (.int (3 : Int32)), .val (.int d2)] [])) _
    refine XS.iload X14.here hx rfl (hb hby d_jdk_52_method_21_code_3) rfl ?_
    show Steps _ _ _ (T14.setTop (mkF m 5 #[.val (.ref b), .val (.int (3 : Int32)), .val (.ref t), .val (.int (3 : Int32)), .val (.int (3 : Int32)), .val (.int (3 : Int32)), .val (.int d2)] [(.int (3 : Int32))])) _
    refine XS.iload X14.here hx rfl (hb hby d_jdk_52_method_21_code_5) rfl ?_
    show Steps _ _ _ (T14.setTop (mkF m 7 #[.val (.ref b), .val (.int (3 : Int32)), .val (.ref t), .val (.int (3 : Int32)), .val (.int (3 : Int32)), .val (.int (3 : Int32)), .val (.int d2)] [(.int (3 : Int32)), (.int (3 : Int32))])) _
    refine XS.icmpYes X14.here hx rfl (pc0 := 7) (pc' := 44) rfl (hb hby d_jdk_52_method_21_code_7) rfl (flt (by decide)).2.1 (by decide) (by decide) ?_
    show Steps _ _ _ (T14.setTop (mkF m 44 #[.val (.ref b), .val (.int (3 : Int32)), .val (.ref t), .val (.int (3 : Int32)), .val (.int (3 : Int32)), .val (.int (3 : Int32)), .val (.int d2)] [])) _
    refine XS.iload X14.here hx rfl (hb hby d_jdk_52_method_21_code_44) rfl ?_
    show Steps _ _ _ (T14.setTop (mkF m 46 #[.val (.ref b), .val (.int (3 : Int32)), .val (.ref t), .val (.int (3 : Int32)), .val (.int (3 : Int32)), .val (.int (3 : Int32)), .val (.int d2)] [(.int (3 : Int32))])) _
    exact hq)
  have hE := e14
  refine retInt X14 hx hret hlk (by simp) rfl (hb hby d_jdk_52_method_21_code_46) k15 ?_ (by decide) (by decide)
  try rw [hE]
  exact ⟨rfl, N14, ((((Keep.refl h0 [t]).wr W4 (Or.inl (by simp))).wr W9 (Or.inl (by simp))).wr W14 (Or.inl (by simp))), V14⟩
set_option maxRecDepth 65536 in
set_option maxHeartbeats 40000000 in
theorem rm_c3_3 (l : Launch) (Z : State) (a0 : Array Value) (hw : ∀ d ∈ tables_1, d.before a0 Z = true) (b : Addr) (kb : ClassId) (d0 : Int32) (d1 : Int32) (d2 : Int32) (h0 : Heap) (n0 : Nat) (hn0 : n0 ≤ h0.size) (P0 : Arv Z h0 b kb .char (3 : Int32) [(.int d0), (.int d1), (.int d2)] (.int (0 : Int32))) (yb : @LT.lt Nat instLTNat b h0.size) (hd0 : ¬ d0 < (0 : Int32) ∧ ¬ (255 : Int32) < d0) (hd1 : ¬ d1 < (0 : Int32) ∧ ¬ (255 : Int32) < d1) (hd2 : ¬ d2 < (0 : Int32) ∧ ¬ (255 : Int32) < d2) :
    Con l Z (⟨"java/lang/StringUTF16", "compress", "([CII)[B"⟩ : MethodName) jdk_52_method_16_code 6 (some (.array .byte)) [] ({ frames := 1, cells := 1, slots := 3, locals := 18 } : Room) #[(.ref b), (.int (0 : Int32)), (.int (3 : Int32))] h0 (fun v h L => ∃ (t : Addr) (k : ClassId), v = some (.ref t) ∧ Fr n0 L ∧ h0.size ≤ t ∧ Keep h0 h [] ∧ Arv Z h t k .byte (3 : Int32) [(.int (nar .byte (d0.toInt8.toInt32))), (.int (nar .byte (d1.toInt8.toInt32))), (.int (nar .byte (d2.toInt8.toInt32)))] (.int (0 : Int32))) := by
  refine enter (Ls := #[.val (.ref b), .val (.int (0 : Int32)), .val (.int (3 : Int32)), .unset, .unset, .unset]) (plainFor_of_name pn_0) (fun m => by exact entry_eq rfl) ?_
  intro p e s m below meth cd_ s₁ S0 hx hby hml hret hlk hnm hown hZ X0 e0 k0
  have N0 := Fr.nil n0
  have k1 : To p.tables e below S0 (s₁.setTop (mkF m 1 #[.val (.ref b), .val (.int (0 : Int32)), .val (.int (3 : Int32)), .unset, .unset, .unset] [(.int (3 : Int32))])) := fun tt hq => k0 tt (by
    show Steps _ _ _ (s₁.setTop (mkF m 0 #[.val (.ref b), .val (.int (0 : Int32)), .val (.int (3 : Int32)), .unset, .unset, .unset] [])) _
    refine XS.iloadN X0.here hx rfl (hb hby d_jdk_52_method_16_code_0) rfl ?_
    show Steps _ _ _ (s₁.setTop (mkF m 1 #[.val (.ref b), .val (.int (0 : Int32)), .val (.int (3 : Int32)), .unset, .unset, .unset] [(.int (3 : Int32))])) _
    exact hq)
  obtain ⟨T2, h2, c2, X2, e2, E2, A2, st2⟩ := newP X0 hx hZ (hw _ (List.mem_of_getElem? (i := 22) rfl)) e0 (g := (mkF m 1 #[.val (.ref b), .val (.int (0 : Int32)), .val (.int (3 : Int32)), .unset, .unset, .unset] [(.int (3 : Int32))])) rfl (hb hby d_jdk_52_method_16_code_1) rfl (by decide) (cap := 3) (by decide) (by decide) (by decide) (by decide)
  obtain ⟨b2, g2⟩ : ∃ z, z = h0.size := ⟨_, rfl⟩
  rw [← g2] at A2 st2
  have k2 : To p.tables e below S0 (T2.setTop (mkF m 3 #[.val (.ref b), .val (.int (0 : Int32)), .val (.int (3 : Int32)), .unset, .unset, .unset] [(.ref b2)])) := fun tt hq => k1 tt (st2 tt hq)
  have z2 : h0.size ≤ h2.size := E2.1
  have V2 : Arv Z h2 b2 c2 .byte (3 : Int32) [(.int (0 : Int32)), (.int (0 : Int32)), (.int (0 : Int32))] (.int (0 : Int32)) := (Arv.new A2 (by decide)).pad (pad_rep [] (.int (0 : Int32)) 3)
  have y2 : @LT.lt Nat instLTNat b2 h2.size := V2.lt
  have k3 : To p.tables e below S0 (T2.setTop (mkF m 9 #[.val (.ref b), .val (.int (0 : Int32)), .val (.int (3 : Int32)), .val (.ref b2), .unset, .unset] [(.int (3 : Int32)), (.int (0 : Int32)), (.ref b2), (.int (0 : Int32)), (.ref b)])) := fun tt hq => k2 tt (by
    show Steps _ _ _ (T2.setTop (mkF m 3 #[.val (.ref b), .val (.int (0 : Int32)), .val (.int (3 : Int32)), .unset, .unset, .unset] [(.ref b2)])) _
    refine XS.astoreN X2.here hx rfl (hb hby d_jdk_52_method_16_code_3) rfl rfl (l' := #[.val (.ref b), .val (.int (0 : Int32)), .val (.int (3 : Int32)), .val (.ref b2), .unset, .unset]) rfl ?_
    show Steps _ _ _ (T2.setTop (mkF m 4 #[.val (.ref b), .val (.int (0 : Int32)), .val (.int (3 : Int32)), .val (.ref b2), .unset, .unset] [])) _
    refine XS.aloadN X2.here hx rfl (hb hby d_jdk_52_method_16_code_4) rfl rfl ?_
    show Steps _ _ _ (T2.setTop (mkF m 5 #[.val (.ref b), .val (.int (0 : Int32)), .val (.int (3 : Int32)), .val (.ref b2), .unset, .unset] [(.ref b)])) _
    refine XS.iloadN X2.here hx rfl (hb hby d_jdk_52_method_16_code_5) rfl ?_
    show Steps _ _ _ (T2.setTop (mkF m 6 #[.val (.ref b), .val (.int (0 : Int32)), .val (.int (3 : Int32)), .val (.ref b2), .unset, .unset] [(.int (0 : Int32)), (.ref b)])) _
    refine XS.aloadN X2.here hx rfl (hb hby d_jdk_52_method_16_code_6) rfl rfl ?_
    show Steps _ _ _ (T2.setTop (mkF m 7 #[.val (.ref b), .val (.int (0 : Int32)), .val (.int (3 : Int32)), .val (.ref b2), .unset, .unset] [(.ref b2), (.int (0 : Int32)), (.ref b)])) _
    refine XS.iconst X2.here hx rfl (hb hby d_jdk_52_method_16_code_7) ?_
    show Steps _ _ _ (T2.setTop (mkF m 8 #[.val (.ref b), .val (.int (0 : Int32)), .val (.int (3 : Int32)), .val (.ref b2), .unset, .unset] [(.int (0 : Int32)), (.ref b2), (.int (0 : Int32)), (.ref b)])) _
    refine XS.iloadN X2.here hx rfl (hb hby d_jdk_52_method_16_code_8) rfl ?_
    show Steps _ _ _ (T2.setTop (mkF m 9 #[.val (.ref b), .val (.int (0 : Int32)), .val (.int (3 : Int32)), .val (.ref b2), .unset, .unset] [(.int (3 : Int32)), (.int (0 : Int32)), (.ref b2), (.int (0 : Int32)), (.ref b)])) _
    exact hq)
  have f4 : Arv Z h2 b kb .char (3 : Int32) [(.int d0), (.int d1), (.int d2)] (.int (0 : Int32)) := (P0.ext E2)
  obtain ⟨_, T5, L5, X5, ⟨rfl, Nq5, Kq5, V5⟩, k5a⟩ := callS' X2 hx hZ (y := (⟨"java/lang/StringUTF16", "compress", "([CI[BII)I"⟩ : MethodName)) hown (hw _ (List.mem_of_getElem? (i := 124) rfl)) (hw _ (List.mem_of_getElem? (i := 125) rfl)) (hw _ (List.mem_of_getElem? (i := 122) rfl)) (hw _ (List.mem_of_getElem? (i := 126) rfl)) (by decide) (backC (W := 0) (rm_c5_3 l Z a0 hw b kb b2 c2 d0 d1 d2 h2 n0 (by omega) f4 V2 (by omega) (by omega) hd0 hd1 hd2) hZ (hw _ (List.mem_of_getElem? (i := 126) rfl)) (hw _ (List.mem_of_getElem? (i := 122) rfl)) (by decide) (by decide)) e2 (argsL := [(.ref b), (.int (0 : Int32)), (.ref b2), (.int (0 : Int32)), (.int (3 : Int32))]) (rest := []) rfl rfl pd_0 rfl (by rw [hml]; rfl) (hb hby d_jdk_52_method_16_code_9) (Nat.le_of_eq rfl) (by decide) (by decide) k3
  have k5 : To p.tables e below S0 (T5.setTop (mkF m 12 #[.val (.ref b), .val (.int (0 : Int32)), .val (.int (3 : Int32)), .val (.ref b2), .unset, .unset] [(.int (3 : Int32))])) := k5a
  have N5 := N0.app Nq5
  obtain ⟨h5, e5⟩ : ∃ z, T5.heap = z := ⟨_, rfl⟩
  rw [e5] at Kq5 V5
  have z5 : h2.size ≤ h5.size := Kq5.1
  have k6 : To p.tables e below S0 (T5.setTop (mkF m 58 #[.val (.ref b), .val (.int (0 : Int32)), .val (.int (3 : Int32)), .val (.ref b2), .val (.int (3 : Int32)), .unset] [(.ref b2)])) := fun tt hq => k5 tt (by
    show Steps _ _ _ (T5.setTop (mkF m 12 #[.val (.ref b), .val (.int (0 : Int32)), .val (.int (3 : Int32)), .val (.ref b2), .unset, .unset] [(.int (3 : Int32))])) _
    refine XS.istore X5.here hx rfl (hb hby d_jdk_52_method_16_code_12) rfl (l' := #[.val (.ref b), .val (.int (0 : Int32)), .val (.int (3 : Int32)), .val (.ref b2), .val (.int (3 : Int32)), .unset]) rfl ?_
    show Steps _ _ _ (T5.setTop (mkF m 14 #[.val (.ref b), .val (.int (0 : Int32)), .val (.int (3 : Int32)), .val (.ref b2), .val (.int (3 : Int32)), .unset] [])) _
    refine XS.iload X5.here hx rfl (hb hby d_jdk_52_method_16_code_14) rfl ?_
    show Steps _ _ _ (T5.setTop (mkF m 16 #[.val (.ref b), .val (.int (0 : Int32)), .val (.int (3 : Int32)), .val (.ref b2), .val (.int (3 : Int32)), .unset] [(.int (3 : Int32))])) _
    refine XS.iloadN X5.here hx rfl (hb hby d_jdk_52_method_16_code_16) rfl ?_
    show Steps _ _ _ (T5.setTop (mkF m 17 #[.val (.ref b), .val (.int (0 : Int32)), .val (.int (3 : Int32)), .val (.ref b2), .val (.int (3 : Int32)), .unset] [(.int (3 : Int32)), (.int (3 : Int32))])) _
    refine XS.icmpYes X5.here hx rfl (pc0 := 17) (pc' := 57) rfl (hb hby d_jdk_52_method_16_code_17) rfl (teq (by decide)).1 (by decide) (by decide) ?_
    show Steps _ _ _ (T5.setTop (mkF m 57 #[.val (.ref b), .val (.int (0 : Int32)), .val (.int (3 : Int32)), .val (.ref b2), .val (.int (3 : Int32)), .unset] [])) _
    refine XS.aloadN X5.here hx rfl (hb hby d_jdk_52_method_16_code_57) rfl rfl ?_
    show Steps _ _ _ (T5.setTop (mkF m 58 #[.val (.ref b), .val (.int (0 : Int32)), .val (.int (3 : Int32)), .val (.ref b2), .val (.int (3 : Int32)), .unset] [(.ref b2)])) _
    exact hq)
  have hE := e5
  refine retRef X5 hx hret hlk rfl rfl (hb hby d_jdk_52_method_16_code_58) k6 ?_ (by decide) (by decide)
  try rw [hE]
  exact ⟨b2, _, rfl, N5, (by omega), (((Keep.refl h0 []).ext E2).trans Kq5 (allS (Or.inr (by omega)) all0)), V5⟩
set_option maxRecDepth 65536 in
set_option maxHeartbeats 40000000 in
theorem rm_cl_3 (l : Launch) (Z : State) (a0 : Array Value) (hw : ∀ d ∈ tables_1, d.before a0 Z = true) (t : Addr) (kt : ClassId) (d0 : Int32) (d1 : Int32) (d2 : Int32) (h0 : Heap) (n0 : Nat) (hn0 : n0 ≤ h0.size) (P0 : Arv Z h0 t kt .byte (3 : Int32) [(.int d0), (.int d1), (.int d2)] (.int (0 : Int32))) :
    Con l Z (⟨"java/lang/StringUTF16", "coderFromArrayLen", "([BI)B"⟩ : MethodName) jdk_52_method_15_code 2 (some .byte) [] ({ frames := 0, cells := 0, slots := 0, locals := 0 } : Room) #[(.ref t), (.int (3 : Int32))] h0 (fun v h L => v = some (.int (0 : Int32)) ∧ Fr n0 L ∧ h = h0) := by
  refine enter (Ls := #[.val (.ref t), .val (.int (3 : Int32))]) (plainFor_of_name pn_0) (fun m => by exact entry_eq rfl) ?_
  intro p e s m below meth cd_ s₁ S0 hx hby hml hret hlk hnm hown hZ X0 e0 k0
  have N0 := Fr.nil n0
  have k1 : To p.tables e below S0 (s₁.setTop (mkF m 2 #[.val (.ref t), .val (.int (3 : Int32))] [(.ref t), (.int (3 : Int32))])) := fun tt hq => k0 tt (by
    show Steps _ _ _ (s₁.setTop (mkF m 0 #[.val (.ref t), .val (.int (3 : Int32))] [])) _
    refine XS.iloadN X0.here hx rfl (hb hby d_jdk_52_method_15_code_0) rfl ?_
    show Steps _ _ _ (s₁.setTop (mkF m 1 #[.val (.ref t), .val (.int (3 : Int32))] [(.int (3 : Int32))])) _
    refine XS.aloadN X0.here hx rfl (hb hby d_jdk_52_method_15_code_1) rfl rfl ?_
    show Steps _ _ _ (s₁.setTop (mkF m 2 #[.val (.ref t), .val (.int (3 : Int32))] [(.ref t), (.int (3 : Int32))])) _
    exact hq)
  obtain ⟨cl2, Ar2, -, S2, M2, -, -⟩ := id P0
  have st2 := fun tt => X0.arraylength hx (by rw [e0]; exact Ar2.1) (State.isArrayOf_alike hZ.alike Ar2.2.1) (g := (mkF m 2 #[.val (.ref t), .val (.int (3 : Int32))] [(.ref t), (.int (3 : Int32))])) rfl rfl (hb hby d_jdk_52_method_15_code_2) tt
  rw [len_of S2 M2] at st2
  have k2 : To p.tables e below S0 (s₁.setTop (mkF m 3 #[.val (.ref t), .val (.int (3 : Int32))] [(.int (3 : Int32)), (.int (3 : Int32))])) := fun tt hq => k1 tt (st2 tt hq)
  have k3 : To p.tables e below S0 (s₁.setTop (mkF m 8 #[.val (.ref t), .val (.int (3 : Int32))] [(.int (0 : Int32))])) := fun tt hq => k2 tt (by
    show Steps _ _ _ (s₁.setTop (mkF m 3 #[.val (.ref t), .val (.int (3 : Int32))] [(.int (3 : Int32)), (.int (3 : Int32))])) _
    refine XS.isub X0.here hx rfl (hb hby d_jdk_52_method_15_code_3) rfl ?_
    show Steps _ _ _ (s₁.setTop (mkF m 4 #[.val (.ref t), .val (.int (3 : Int32))] [(.int (0 : Int32))])) _
    refine XS.bipush X0.here hx rfl (hb hby d_jdk_52_method_15_code_4) ?_
    show Steps _ _ _ (s₁.setTop (mkF m 6 #[.val (.ref t), .val (.int (3 : Int32))] [(.int (31 : Int32)), (.int (0 : Int32))])) _
    refine XS.iushr X0.here hx rfl (hb hby d_jdk_52_method_15_code_6) rfl ?_
    show Steps _ _ _ (s₁.setTop (mkF m 7 #[.val (.ref t), .val (.int (3 : Int32))] [(.int (0 : Int32))])) _
    refine XS.i2b X0.here hx rfl (hb hby d_jdk_52_method_15_code_7) rfl ?_
    show Steps _ _ _ (s₁.setTop (mkF m 8 #[.val (.ref t), .val (.int (3 : Int32))] [(.int (0 : Int32))])) _
    exact hq)
  have hE := e0
  refine retInt X0 hx hret hlk (by simp) rfl (hb hby d_jdk_52_method_15_code_8) k3 ?_ (by decide) (by decide)
  try rw [hE]
  exact ⟨rfl, N0, rfl⟩
set_option maxRecDepth 65536 in
set_option maxHeartbeats 40000000 in
theorem rm_n4_3 (l : Launch) (Z : State) (a0 : Array Value) (hw : ∀ d ∈ tables_1, d.before a0 Z = true) (zc : Int32) (a : Addr) (b : Addr) (kb : ClassId) (u1 : Value) (u2 : Value) (d0 : Int32) (d1 : Int32) (d2 : Int32) (h0 : Heap) (n0 : Nat) (hn0 : n0 ≤ h0.size) (S_c : Sta Z Z.heap "java/lang/String" "COMPACT_STRINGS" "Z" (.int zc)) (hzc : ¬ zc = (0 : Int32)) (O0 : Old Z n0 h0) (E0 : Exa Z h0 a "java/lang/String") (F1 : Fld Z h0 a "java/lang/String" "value" "[B" u1) (F2 : Fld Z h0 a "java/lang/String" "coder" "B" u2) (P0 : Arv Z h0 b kb .char (3 : Int32) [(.int d0), (.int d1), (.int d2)] (.int (0 : Int32))) (ga : n0 ≤ a) (ya : @LT.lt Nat instLTNat a h0.size) (yb : @LT.lt Nat instLTNat b h0.size) (nab : ¬ (@Eq Nat b a)) (hd0 : ¬ d0 < (0 : Int32) ∧ ¬ (255 : Int32) < d0) (hd1 : ¬ d1 < (0 : Int32) ∧ ¬ (255 : Int32) < d1) (hd2 : ¬ d2 < (0 : Int32) ∧ ¬ (255 : Int32) < d2) :
    Con l Z (⟨"java/lang/String", "<init>", "([CIILjava/lang/Void;)V"⟩ : MethodName) jdk_42_method_149_code 6 none [] ({ frames := 2, cells := 1, slots := 3, locals := 35 } : Room) #[(.ref a), (.ref b), (.int (0 : Int32)), (.int (3 : Int32)), .null] h0 (fun v h L => v = none ∧ Fr n0 L ∧ Keep h0 h [a] ∧ ∃ (t : Addr) (k : ClassId), h0.size ≤ t ∧ Exa Z h a "java/lang/String" ∧ Fld Z h a "java/lang/String" "value" "[B" (.ref t) ∧ Fld Z h a "java/lang/String" "coder" "B" (.int (0 : Int32)) ∧ Arv Z h t k .byte (3 : Int32) [(.int (nar .byte (d0.toInt8.toInt32))), (.int (nar .byte (d1.toInt8.toInt32))), (.int (nar .byte (d2.toInt8.toInt32)))] (.int (0 : Int32))) := by
  refine enter (Ls := #[.val (.ref a), .val (.ref b), .val (.int (0 : Int32)), .val (.int (3 : Int32)), .val .null, .unset]) (plainFor_of_name pn_1) (fun m => by exact entry_eq rfl) ?_
  intro p e s m below meth cd_ s₁ S0 hx hby hml hret hlk hnm hown hZ X0 e0 k0
  have N0 := Fr.nil n0
  have k1 : To p.tables e below S0 (s₁.setTop (mkF m 1 #[.val (.ref a), .val (.ref b), .val (.int (0 : Int32)), .val (.int (3 : Int32)), .val .null, .unset] [(.ref a)])) := fun tt hq => k0 tt (by
    show Steps _ _ _ (s₁.setTop (mkF m 0 #[.val (.ref a), .val (.ref b), .val (.int (0 : Int32)), .val (.int (3 : Int32)), .val .null, .unset] [])) _
    refine XS.aloadN X0.here hx rfl (hb hby d_jdk_42_method_149_code_0) rfl rfl ?_
    show Steps _ _ _ (s₁.setTop (mkF m 1 #[.val (.ref a), .val (.ref b), .val (.int (0 : Int32)), .val (.int (3 : Int32)), .val .null, .unset] [(.ref a)])) _
    exact hq)
  obtain ⟨T2, X2, e2, st2⟩ := initO X0 hx hZ hown (hw _ (List.mem_of_getElem? (i := 18) rfl)) (hw _ (List.mem_of_getElem? (i := 19) rfl)) (hw _ (List.mem_of_getElem? (i := 20) rfl)) e0 (g := (mkF m 1 #[.val (.ref a), .val (.ref b), .val (.int (0 : Int32)), .val (.int (3 : Int32)), .val .null, .unset] [(.ref a)])) rfl (by rw [hml]; rfl) rfl (hb hby d_jdk_42_method_149_code_1) (by decide) (W := 0) (by show 2 * 0 + _ ≤ _; exact Nat.le_of_eq rfl) (by decide)
  have k2 : To p.tables e below S0 (T2.setTop (mkF m 4 #[.val (.ref a), .val (.ref b), .val (.int (0 : Int32)), .val (.int (3 : Int32)), .val .null, .unset] [])) := fun tt hq => k1 tt (st2 tt hq)
  have k3 : To p.tables e below S0 (T2.setTop (mkF m 27 #[.val (.ref a), .val (.ref b), .val (.int (0 : Int32)), .val (.int (3 : Int32)), .val .null, .unset] [])) := fun tt hq => k2 tt (by
    show Steps _ _ _ (T2.setTop (mkF m 4 #[.val (.ref a), .val (.ref b), .val (.int (0 : Int32)), .val (.int (3 : Int32)), .val .null, .unset] [])) _
    refine XS.iloadN X2.here hx rfl (hb hby d_jdk_42_method_149_code_4) rfl ?_
    show Steps _ _ _ (T2.setTop (mkF m 5 #[.val (.ref a), .val (.ref b), .val (.int (0 : Int32)), .val (.int (3 : Int32)), .val .null, .unset] [(.int (3 : Int32))])) _
    refine XS.ifYes X2.here hx rfl (pc0 := 5) (pc' := 27) rfl (hb hby d_jdk_42_method_149_code_5) rfl ((if0 _ _).trans (feq (by decide)).2) (by decide) (by decide) ?_
    show Steps _ _ _ (T2.setTop (mkF m 27 #[.val (.ref a), .val (.ref b), .val (.int (0 : Int32)), .val (.int (3 : Int32)), .val .null, .unset] [])) _
    exact hq)
  obtain ⟨T4, X4, e4, st4⟩ := getS2 X2 hx hZ hown (host := "") (Or.inl (hw _ (List.mem_of_getElem? (i := 78) rfl))) Via.refl e2 (staOld S_c O0) (g := (mkF m 27 #[.val (.ref a), .val (.ref b), .val (.int (0 : Int32)), .val (.int (3 : Int32)), .val .null, .unset] [])) rfl (hb hby d_jdk_42_method_149_code_27)
  have k4 : To p.tables e below S0 (T4.setTop (mkF m 30 #[.val (.ref a), .val (.ref b), .val (.int (0 : Int32)), .val (.int (3 : Int32)), .val .null, .unset] [(.int zc)])) := fun tt hq => k3 tt (st4 tt hq)
  have k5 : To p.tables e below S0 (T4.setTop (mkF m 36 #[.val (.ref a), .val (.ref b), .val (.int (0 : Int32)), .val (.int (3 : Int32)), .val .null, .unset] [(.int (3 : Int32)), (.int (0 : Int32)), (.ref b)])) := fun tt hq => k4 tt (by
    show Steps _ _ _ (T4.setTop (mkF m 30 #[.val (.ref a), .val (.ref b), .val (.int (0 : Int32)), .val (.int (3 : Int32)), .val .null, .unset] [(.int zc)])) _
    refine XS.ifNo X4.here hx rfl (hb hby d_jdk_42_method_149_code_30) rfl ((if0 _ _).trans (feq hzc).1) ?_
    show Steps _ _ _ (T4.setTop (mkF m 33 #[.val (.ref a), .val (.ref b), .val (.int (0 : Int32)), .val (.int (3 : Int32)), .val .null, .unset] [])) _
    refine XS.aloadN X4.here hx rfl (hb hby d_jdk_42_method_149_code_33) rfl rfl ?_
    show Steps _ _ _ (T4.setTop (mkF m 34 #[.val (.ref a), .val (.ref b), .val (.int (0 : Int32)), .val (.int (3 : Int32)), .val .null, .unset] [(.ref b)])) _
    refine XS.iloadN X4.here hx rfl (hb hby d_jdk_42_method_149_code_34) rfl ?_
    show Steps _ _ _ (T4.setTop (mkF m 35 #[.val (.ref a), .val (.ref b), .val (.int (0 : Int32)), .val (.int (3 : Int32)), .val .null, .unset] [(.int (0 : Int32)), (.ref b)])) _
    refine XS.iloadN X4.here hx rfl (hb hby d_jdk_42_method_149_code_35) rfl ?_
    show Steps _ _ _ (T4.setTop (mkF m 36 #[.val (.ref a), .val (.ref b), .val (.int (0 : Int32)), .val (.int (3 : Int32)), .val .null, .unset] [(.int (3 : Int32)), (.int (0 : Int32)), (.ref b)])) _
    exact hq)
  obtain ⟨_, T6, L6, X6, ⟨t6, kt6, rfl, Nq6, gt6, Kq6, V6⟩, k6a⟩ := callS' X4 hx hZ (y := (⟨"java/lang/StringUTF16", "compress", "([CII)[B"⟩ : MethodName)) hown (hw _ (List.mem_of_getElem? (i := 120) rfl)) (hw _ (List.mem_of_getElem? (i := 121) rfl)) (hw _ (List.mem_of_getElem? (i := 122) rfl)) (hw _ (List.mem_of_getElem? (i := 123) rfl)) (by decide) (backC (W := 0) (rm_c3_3 l Z a0 hw b kb d0 d1 d2 h0 n0 (by omega) P0 (by omega) hd0 hd1 hd2) hZ (hw _ (List.mem_of_getElem? (i := 123) rfl)) (hw _ (List.mem_of_getElem? (i := 122) rfl)) (by decide) (by decide)) e4 (argsL := [(.ref b), (.int (0 : Int32)), (.int (3 : Int32))]) (rest := []) rfl rfl pd_1 rfl (by rw [hml]; rfl) (hb hby d_jdk_42_method_149_code_36) (Nat.le_of_eq rfl) (by decide) (by decide) k5
  have k6 : To p.tables e below S0 (T6.setTop (mkF m 39 #[.val (.ref a), .val (.ref b), .val (.int (0 : Int32)), .val (.int (3 : Int32)), .val .null, .unset] [(.ref t6)])) := k6a
  have N6 := N0.app Nq6
  obtain ⟨h6, e6⟩ : ∃ z, T6.heap = z := ⟨_, rfl⟩
  rw [e6] at Kq6 V6
  have z6 : h0.size ≤ h6.size := Kq6.1
  have y6 : @LT.lt Nat instLTNat t6 h6.size := V6.lt
  have k7 : To p.tables e below S0 (T6.setTop (mkF m 45 #[.val (.ref a), .val (.ref b), .val (.int (0 : Int32)), .val (.int (3 : Int32)), .val .null, .val (.ref t6)] [(.int (3 : Int32)), (.ref t6), (.ref a)])) := fun tt hq => k6 tt (by
    show Steps _ _ _ (T6.setTop (mkF m 39 #[.val (.ref a), .val (.ref b), .val (.int (0 : Int32)), .val (.int (3 : Int32)), .val .null, .unset] [(.ref t6)])) _
    refine XS.astore X6.here hx rfl (hb hby d_jdk_42_method_149_code_39) rfl rfl (l' := #[.val (.ref a), .val (.ref b), .val (.int (0 : Int32)), .val (.int (3 : Int32)), .val .null, .val (.ref t6)]) rfl ?_
    show Steps _ _ _ (T6.setTop (mkF m 41 #[.val (.ref a), .val (.ref b), .val (.int (0 : Int32)), .val (.int (3 : Int32)), .val .null, .val (.ref t6)] [])) _
    refine XS.aloadN X6.here hx rfl (hb hby d_jdk_42_method_149_code_41) rfl rfl ?_
    show Steps _ _ _ (T6.setTop (mkF m 42 #[.val (.ref a), .val (.ref b), .val (.int (0 : Int32)), .val (.int (3 : Int32)), .val .null, .val (.ref t6)] [(.ref a)])) _
    refine XS.aload X6.here hx rfl (hb hby d_jdk_42_method_149_code_42) rfl rfl ?_
    show Steps _ _ _ (T6.setTop (mkF m 44 #[.val (.ref a), .val (.ref b), .val (.int (0 : Int32)), .val (.int (3 : Int32)), .val .null, .val (.ref t6)] [(.ref t6), (.ref a)])) _
    refine XS.iloadN X6.here hx rfl (hb hby d_jdk_42_method_149_code_44) rfl ?_
    show Steps _ _ _ (T6.setTop (mkF m 45 #[.val (.ref a), .val (.ref b), .val (.int (0 : Int32)), .val (.int (3 : Int32)), .val .null, .val (.ref t6)] [(.int (3 : Int32)), (.ref t6), (.ref a)])) _
    exact hq)
  obtain ⟨_, T8, L8, X8, ⟨rfl, Nq8, eq8⟩, k8a⟩ := callS' X6 hx hZ (y := (⟨"java/lang/StringUTF16", "coderFromArrayLen", "([BI)B"⟩ : MethodName)) hown (hw _ (List.mem_of_getElem? (i := 127) rfl)) (hw _ (List.mem_of_getElem? (i := 128) rfl)) (hw _ (List.mem_of_getElem? (i := 122) rfl)) (hw _ (List.mem_of_getElem? (i := 129) rfl)) (by decide) (backC (W := 1) (rm_cl_3 l Z a0 hw t6 kt6 (nar .byte (d0.toInt8.toInt32)) (nar .byte (d1.toInt8.toInt32)) (nar .byte (d2.toInt8.toInt32)) h6 n0 (by omega) V6) hZ (hw _ (List.mem_of_getElem? (i := 129) rfl)) (hw _ (List.mem_of_getElem? (i := 122) rfl)) (by decide) (by decide)) e6 (argsL := [(.ref t6), (.int (3 : Int32))]) (rest := [(.ref a)]) rfl rfl pd_2 rfl (by rw [hml]; rfl) (hb hby d_jdk_42_method_149_code_45) (Nat.le_of_eq rfl) (by decide) (by decide) k7
  have k8 : To p.tables e below S0 (T8.setTop (mkF m 48 #[.val (.ref a), .val (.ref b), .val (.int (0 : Int32)), .val (.int (3 : Int32)), .val .null, .val (.ref t6)] [(.int (0 : Int32)), (.ref a)])) := k8a
  have N8 := N6.app Nq8
  have e8 : T8.heap = h6 := eq8
  have f9 : Exa Z h6 a "java/lang/String" := (E0.keep Kq6)
  have f10 : Fld Z h6 a "java/lang/String" "coder" "B" u2 := (F2.keep Kq6 nin0)
  obtain ⟨T11, h11, X11, e11, W11, st11⟩ := putF X8 hx hZ hown (host := "") (Or.inl (hw _ (List.mem_of_getElem? (i := 28) rfl))) Via.refl e8 f10 f9 (Or.inr ⟨(hw _ (List.mem_of_getElem? (i := 24) rfl)), rfl, hnm⟩) (hw _ (List.mem_of_getElem? (i := 8) rfl)) (ty := .byte) (by decide) rfl rfl (g := (mkF m 48 #[.val (.ref a), .val (.ref b), .val (.int (0 : Int32)), .val (.int (3 : Int32)), .val .null, .val (.ref t6)] [(.int (0 : Int32)), (.ref a)])) rfl rfl (hb hby d_jdk_42_method_149_code_48)
  have k11 : To p.tables e below S0 (T11.setTop (mkF m 51 #[.val (.ref a), .val (.ref b), .val (.int (0 : Int32)), .val (.int (3 : Int32)), .val .null, .val (.ref t6)] [])) := fun tt hq => k8 tt (st11 tt hq)
  have z11 : h11.size = h6.size := W11.size
  have F11 := f10.same W11
  have N11 := Fr.snoc X11 N8 (by omega : n0 ≤ a)
  have f12 : Exa Z h11 a "java/lang/String" := (f9.wr W11)
  have f13 : Fld Z h11 a "java/lang/String" "value" "[B" u1 := ((F1.keep Kq6 nin0).other W11 (Or.inr (slot_ne (Or.inr (hw _ (List.mem_of_getElem? (i := 23) rfl))) (Or.inr (hw _ (List.mem_of_getElem? (i := 24) rfl))) (by decide) (t := (.array .byte)) (t' := .byte) (by decide) (by decide))))
  have k14 : To p.tables e below S0 (T11.setTop (mkF m 54 #[.val (.ref a), .val (.ref b), .val (.int (0 : Int32)), .val (.int (3 : Int32)), .val .null, .val (.ref t6)] [(.ref t6), (.ref a)])) := fun tt hq => k11 tt (by
    show Steps _ _ _ (T11.setTop (mkF m 51 #[.val (.ref a), .val (.ref b), .val (.int (0 : Int32)), .val (.int (3 : Int32)), .val .null, .val (.ref t6)] [])) _
    refine XS.aloadN X11.here hx rfl (hb hby d_jdk_42_method_149_code_51) rfl rfl ?_
    show Steps _ _ _ (T11.setTop (mkF m 52 #[.val (.ref a), .val (.ref b), .val (.int (0 : Int32)), .val (.int (3 : Int32)), .val .null, .val (.ref t6)] [(.ref a)])) _
    refine XS.aload X11.here hx rfl (hb hby d_jdk_42_method_149_code_52) rfl rfl ?_
    show Steps _ _ _ (T11.setTop (mkF m 54 #[.val (.ref a), .val (.ref b), .val (.int (0 : Int32)), .val (.int (3 : Int32)), .val .null, .val (.ref t6)] [(.ref t6), (.ref a)])) _
    exact hq)
  obtain ⟨T15, h15, X15, e15, W15, st15⟩ := putF X11 hx hZ hown (host := "") (Or.inl (hw _ (List.mem_of_getElem? (i := 27) rfl))) Via.refl e11 f13 f12 (Or.inr ⟨(hw _ (List.mem_of_getElem? (i := 23) rfl)), rfl, hnm⟩) (hw _ (List.mem_of_getElem? (i := 8) rfl)) (ty := (.array .byte)) (by decide) rfl rfl (g := (mkF m 54 #[.val (.ref a), .val (.ref b), .val (.int (0 : Int32)), .val (.int (3 : Int32)), .val .null, .val (.ref t6)] [(.ref t6), (.ref a)])) rfl rfl (hb hby d_jdk_42_method_149_code_54)
  have k15 : To p.tables e below S0 (T15.setTop (mkF m 57 #[.val (.ref a), .val (.ref b), .val (.int (0 : Int32)), .val (.int (3 : Int32)), .val .null, .val (.ref t6)] [])) := fun tt hq => k14 tt (st15 tt hq)
  have z15 : h15.size = h11.size := W15.size
  have F15 := f13.same W15
  have N15 := Fr.snoc X15 N11 (by omega : n0 ≤ a)
  have f16 : Exa Z h15 a "java/lang/String" := (f12.wr W15)
  have f17 : Fld Z h15 a "java/lang/String" "coder" "B" (.int (0 : Int32)) := (F11.other W15 (Or.inr (slot_ne (Or.inr (hw _ (List.mem_of_getElem? (i := 24) rfl))) (Or.inr (hw _ (List.mem_of_getElem? (i := 23) rfl))) (by decide) (t := .byte) (t' := (.array .byte)) (by decide) (by decide))))
  have f18 : Arv Z h15 t6 kt6 .byte (3 : Int32) [(.int (nar .byte (d0.toInt8.toInt32))), (.int (nar .byte (d1.toInt8.toInt32))), (.int (nar .byte (d2.toInt8.toInt32)))] (.int (0 : Int32)) := ((V6.other W11 (adr_ne (by omega))).other W15 (adr_ne (by omega)))
  have hE := e15
  refine retVoid X15 hx hret hlk (hb hby d_jdk_42_method_149_code_57) k15 ?_ (by decide) (by decide)
  try rw [hE]
  exact ⟨rfl, N15, ((((Keep.refl h0 [a]).trans Kq6 all0).wr W11 (Or.inl (by simp))).wr W15 (Or.inl (by simp))), t6, kt6, (by omega), f16, F15, f17, f18⟩
set_option maxRecDepth 65536 in
set_option maxHeartbeats 40000000 in
theorem rm_n1_3 (l : Launch) (Z : State) (a0 : Array Value) (hw : ∀ d ∈ tables_1, d.before a0 Z = true) (zc : Int32) (a : Addr) (b : Addr) (kb : ClassId) (u1 : Value) (u2 : Value) (d0 : Int32) (d1 : Int32) (d2 : Int32) (h0 : Heap) (n0 : Nat) (hn0 : n0 ≤ h0.size) (S_c : Sta Z Z.heap "java/lang/String" "COMPACT_STRINGS" "Z" (.int zc)) (hzc : ¬ zc = (0 : Int32)) (O0 : Old Z n0 h0) (E0 : Exa Z h0 a "java/lang/String") (F1 : Fld Z h0 a "java/lang/String" "value" "[B" u1) (F2 : Fld Z h0 a "java/lang/String" "coder" "B" u2) (P0 : Arv Z h0 b kb .char (3 : Int32) [(.int d0), (.int d1), (.int d2)] (.int (0 : Int32))) (ga : n0 ≤ a) (ya : @LT.lt Nat instLTNat a h0.size) (yb : @LT.lt Nat instLTNat b h0.size) (nab : ¬ (@Eq Nat b a)) (hd0 : ¬ d0 < (0 : Int32) ∧ ¬ (255 : Int32) < d0) (hd1 : ¬ d1 < (0 : Int32) ∧ ¬ (255 : Int32) < d1) (hd2 : ¬ d2 < (0 : Int32) ∧ ¬ (255 : Int32) < d2) :
    Con l Z (⟨"java/lang/String", "<init>", "([C)V"⟩ : MethodName) jdk_42_method_3_code 2 none [] ({ frames := 3, cells := 1, slots := 3, locals := 52 } : Room) #[(.ref a), (.ref b)] h0 (fun v h L => v = none ∧ Fr n0 L ∧ Keep h0 h [a] ∧ ∃ (t : Addr) (k : ClassId), h0.size ≤ t ∧ Exa Z h a "java/lang/String" ∧ Fld Z h a "java/lang/String" "value" "[B" (.ref t) ∧ Fld Z h a "java/lang/String" "coder" "B" (.int (0 : Int32)) ∧ Arv Z h t k .byte (3 : Int32) [(.int (nar .byte (d0.toInt8.toInt32))), (.int (nar .byte (d1.toInt8.toInt32))), (.int (nar .byte (d2.toInt8.toInt32)))] (.int (0 : Int32))) := by
  refine enter (Ls := #[.val (.ref a), .val (.ref b)]) (plainFor_of_name pn_1) (fun m => by exact entry_eq rfl) ?_
  intro p e s m below meth cd_ s₁ S0 hx hby hml hret hlk hnm hown hZ X0 e0 k0
  have N0 := Fr.nil n0
  have k1 : To p.tables e below S0 (s₁.setTop (mkF m 4 #[.val (.ref a), .val (.ref b)] [(.ref b), (.int (0 : Int32)), (.ref b), (.ref a)])) := fun tt hq => k0 tt (by
    show Steps _ _ _ (s₁.setTop (mkF m 0 #[.val (.ref a), .val (.ref b)] [])) _
    refine XS.aloadN X0.here hx rfl (hb hby d_jdk_42_method_3_code_0) rfl rfl ?_
    show Steps _ _ _ (s₁.setTop (mkF m 1 #[.val (.ref a), .val (.ref b)] [(.ref a)])) _
    refine XS.aloadN X0.here hx rfl (hb hby d_jdk_42_method_3_code_1) rfl rfl ?_
    show Steps _ _ _ (s₁.setTop (mkF m 2 #[.val (.ref a), .val (.ref b)] [(.ref b), (.ref a)])) _
    refine XS.iconst X0.here hx rfl (hb hby d_jdk_42_method_3_code_2) ?_
    show Steps _ _ _ (s₁.setTop (mkF m 3 #[.val (.ref a), .val (.ref b)] [(.int (0 : Int32)), (.ref b), (.ref a)])) _
    refine XS.aloadN X0.here hx rfl (hb hby d_jdk_42_method_3_code_3) rfl rfl ?_
    show Steps _ _ _ (s₁.setTop (mkF m 4 #[.val (.ref a), .val (.ref b)] [(.ref b), (.int (0 : Int32)), (.ref b), (.ref a)])) _
    exact hq)
  obtain ⟨cl2, Ar2, -, S2, M2, -, -⟩ := id P0
  have st2 := fun tt => X0.arraylength hx (by rw [e0]; exact Ar2.1) (State.isArrayOf_alike hZ.alike Ar2.2.1) (g := (mkF m 4 #[.val (.ref a), .val (.ref b)] [(.ref b), (.int (0 : Int32)), (.ref b), (.ref a)])) rfl rfl (hb hby d_jdk_42_method_3_code_4) tt
  rw [len_of S2 M2] at st2
  have k2 : To p.tables e below S0 (s₁.setTop (mkF m 5 #[.val (.ref a), .val (.ref b)] [(.int (3 : Int32)), (.int (0 : Int32)), (.ref b), (.ref a)])) := fun tt hq => k1 tt (st2 tt hq)
  have k3 : To p.tables e below S0 (s₁.setTop (mkF m 6 #[.val (.ref a), .val (.ref b)] [.null, (.int (3 : Int32)), (.int (0 : Int32)), (.ref b), (.ref a)])) := fun tt hq => k2 tt (by
    show Steps _ _ _ (s₁.setTop (mkF m 5 #[.val (.ref a), .val (.ref b)] [(.int (3 : Int32)), (.int (0 : Int32)), (.ref b), (.ref a)])) _
    refine XS.aconstNull X0.here hx rfl (hb hby d_jdk_42_method_3_code_5) ?_
    show Steps _ _ _ (s₁.setTop (mkF m 6 #[.val (.ref a), .val (.ref b)] [.null, (.int (3 : Int32)), (.int (0 : Int32)), (.ref b), (.ref a)])) _
    exact hq)
  obtain ⟨_, T4, L4, X4, ⟨rfl, Nq4, Kq4, t4, kt4, gt4, P40, P41, P42, P43⟩, k4a⟩ := callC' X0 hx hZ (y := (⟨"java/lang/String", "<init>", "([CIILjava/lang/Void;)V"⟩ : MethodName)) rfl hown (hw _ (List.mem_of_getElem? (i := 14) rfl)) (hw _ (List.mem_of_getElem? (i := 15) rfl)) (hw _ (List.mem_of_getElem? (i := 17) rfl)) (by decide) (backC (W := 0) (rm_n4_3 l Z a0 hw zc a b kb u1 u2 d0 d1 d2 h0 n0 (by omega) S_c hzc O0 E0 F1 F2 P0 (by omega) (by omega) (by omega) (by omega) hd0 hd1 hd2) hZ (hw _ (List.mem_of_getElem? (i := 17) rfl)) (hw _ (List.mem_of_getElem? (i := 9) rfl)) (by decide) (by decide)) e0 (argsL := [(.ref b), (.int (0 : Int32)), (.int (3 : Int32)), .null]) (rest := []) rfl rfl pd_3 rfl (by rw [hml]; rfl) (hb hby d_jdk_42_method_3_code_6) (Nat.le_of_eq rfl) (by decide) (by decide) k3
  have k4 : To p.tables e below S0 (T4.setTop (mkF m 9 #[.val (.ref a), .val (.ref b)] [])) := k4a
  have N4 := N0.app Nq4
  obtain ⟨h4, e4⟩ : ∃ z, T4.heap = z := ⟨_, rfl⟩
  rw [e4] at Kq4 P40 P41 P42 P43
  have z4 : h0.size ≤ h4.size := Kq4.1
  have y4 : @LT.lt Nat instLTNat t4 h4.size := P43.lt
  have hE := e4
  refine retVoid X4 hx hret hlk (hb hby d_jdk_42_method_3_code_9) k4 ?_ (by decide) (by decide)
  try rw [hE]
  exact ⟨rfl, N4, ((Keep.refl h0 [a]).trans Kq4 (allS (Or.inl (by simp)) all0)), t4, kt4, (by omega), P40, P41, P42, P43⟩
set_option maxRecDepth 65536 in
set_option maxHeartbeats 40000000 in
theorem rm_n4_0 (l : Launch) (Z : State) (a0 : Array Value) (hw : ∀ d ∈ tables_1, d.before a0 Z = true) (a : Addr) (b : Addr) (kb : ClassId) (u1 : Value) (u2 : Value) (h0 : Heap) (n0 : Nat) (hn0 : n0 ≤ h0.size) (E0 : Exa Z h0 a "java/lang/String") (F1 : Fld Z h0 a "java/lang/String" "value" "[B" u1) (F2 : Fld Z h0 a "java/lang/String" "coder" "B" u2) (P0 : Arv Z h0 b kb .char (0 : Int32) [] (.int (0 : Int32))) (ga : n0 ≤ a) (ya : @LT.lt Nat instLTNat a h0.size) :
    ConW l Z own_EL (⟨"java/lang/String", "<init>", "([CIILjava/lang/Void;)V"⟩ : MethodName) jdk_42_method_149_code 6 none [] ({ frames := 1, cells := 4, slots := 8, locals := 12 } : Room) #[(.ref a), (.ref b), (.int (0 : Int32)), (.int (0 : Int32)), .null] h0 [a] (fun v h L => v = none ∧ Fr n0 L ∧ Keep h0 h [a] ∧ ∃ (t : Addr) (k : ClassId), (@LT.lt Nat instLTNat t h.size) ∧ Exa Z h a "java/lang/String" ∧ Fld Z h a "java/lang/String" "value" "[B" (.ref t) ∧ Fld Z h a "java/lang/String" "coder" "B" (.int (0 : Int32)) ∧ Arv Z h t k .byte (0 : Int32) [] (.int 0)) := by
  refine enterW (Ls := #[.val (.ref a), .val (.ref b), .val (.int (0 : Int32)), .val (.int (0 : Int32)), .val .null, .unset]) (plainFor_of_name pn_1) (fun m => by exact entry_eq rfl) ?_
  intro p e s m below meth cd_ s₁ S0 vm0 hx hby hml hret hlk hnm hown hZ X0 e0 k0 C0 hsf hS0
  have N0 := Fr.nil n0
  have Sf_a : Safe Z own_EL vm0 h0 a := hsf _ (List.mem_of_getElem? (i := 0) rfl)
  have k1 : To p.tables e below S0 (s₁.setTop (mkF m 1 #[.val (.ref a), .val (.ref b), .val (.int (0 : Int32)), .val (.int (0 : Int32)), .val .null, .unset] [(.ref a)])) := fun tt hq => k0 tt (by
    show Steps _ _ _ (s₁.setTop (mkF m 0 #[.val (.ref a), .val (.ref b), .val (.int (0 : Int32)), .val (.int (0 : Int32)), .val .null, .unset] [])) _
    refine XS.aloadN X0.here hx rfl (hb hby d_jdk_42_method_149_code_0) rfl rfl ?_
    show Steps _ _ _ (s₁.setTop (mkF m 1 #[.val (.ref a), .val (.ref b), .val (.int (0 : Int32)), .val (.int (0 : Int32)), .val .null, .unset] [(.ref a)])) _
    exact hq)
  obtain ⟨T2, X2, e2, st2⟩ := initO X0 hx hZ hown (hw _ (List.mem_of_getElem? (i := 18) rfl)) (hw _ (List.mem_of_getElem? (i := 19) rfl)) (hw _ (List.mem_of_getElem? (i := 20) rfl)) e0 (g := (mkF m 1 #[.val (.ref a), .val (.ref b), .val (.int (0 : Int32)), .val (.int (0 : Int32)), .val .null, .unset] [(.ref a)])) rfl (by rw [hml]; rfl) rfl (hb hby d_jdk_42_method_149_code_1) (by decide) (W := 0) (by show 2 * 0 + _ ≤ _; exact Nat.le_of_eq rfl) (by decide)
  have k2 : To p.tables e below S0 (T2.setTop (mkF m 4 #[.val (.ref a), .val (.ref b), .val (.int (0 : Int32)), .val (.int (0 : Int32)), .val .null, .unset] [])) := fun tt hq => k1 tt (st2 tt hq)
  have k3 : To p.tables e below S0 (T2.setTop (mkF m 9 #[.val (.ref a), .val (.ref b), .val (.int (0 : Int32)), .val (.int (0 : Int32)), .val .null, .unset] [(.ref a)])) := fun tt hq => k2 tt (by
    show Steps _ _ _ (T2.setTop (mkF m 4 #[.val (.ref a), .val (.ref b), .val (.int (0 : Int32)), .val (.int (0 : Int32)), .val .null, .unset] [])) _
    refine XS.iloadN X2.here hx rfl (hb hby d_jdk_42_method_149_code_4) rfl ?_
    show Steps _ _ _ (T2.setTop (mkF m 5 #[.val (.ref a), .val (.ref b), .val (.int (0 : Int32)), .val (.int (0 : Int32)), .val .null, .unset] [(.int (0 : Int32))])) _
    refine XS.ifNo X2.here hx rfl (hb hby d_jdk_42_method_149_code_5) rfl ((if0 _ _).trans (teq (by decide)).2) ?_
    show Steps _ _ _ (T2.setTop (mkF m 8 #[.val (.ref a), .val (.ref b), .val (.int (0 : Int32)), .val (.int (0 : Int32)), .val .null, .unset] [])) _
    refine XS.aloadN X2.here hx rfl (hb hby d_jdk_42_method_149_code_8) rfl rfl ?_
    show Steps _ _ _ (T2.setTop (mkF m 9 #[.val (.ref a), .val (.ref b), .val (.int (0 : Int32)), .val (.int (0 : Int32)), .val .null, .unset] [(.ref a)])) _
    exact hq)
  obtain ⟨a4, T4, h4, kk4, b4, c4, X4, e4, E4, hS4, hk4, hZ4a, hown4a, A4, Fc4, Fv4, V4, ya4, yb4, Cq4, -, hne4, st4⟩ := ldcCH X2 hx hZ hown (hw _ (List.mem_of_getElem? (i := 21) rfl)) (own_wS hw) e2 hS0 (by omega) (own_EW hw) (List.mem_of_getElem? (i := 0) rfl) C0.1 (vs := []) (z := (0 : Int32)) ⟨by decide, by decide⟩ (by decide) (by decide) (g := (mkF m 9 #[.val (.ref a), .val (.ref b), .val (.int (0 : Int32)), .val (.int (0 : Int32)), .val .null, .unset] [(.ref a)])) rfl (hb hby d_jdk_42_method_149_code_9) (n := 0) (by decide) (by decide) (by decide) (by decide)
  have k4 : To p.tables e below S0 (T4.setTop (mkF m 11 #[.val (.ref a), .val (.ref b), .val (.int (0 : Int32)), .val (.int (0 : Int32)), .val .null, .unset] [(.ref a4), (.ref a)])) := fun tt hq => k3 tt (st4 tt hq)
  have hZ4 : Z.Warmed39 T4.vm := hZ4a
  have hown4 : T4.vm.findClass "java/lang/String" = some m.cls := hown4a
  have z4 : h0.size ≤ h4.size := E4.1
  have C4 := C0.trans Cq4
  have f5 : Safe Z own_EL T4.vm h4 a := (Cq4.safe (adr_lt (by omega)) Sf_a)
  have nx4_a : ¬ (@Eq Nat a a4) ∧ ¬ (@Eq Nat a b4) := hne4 a f5
  obtain ⟨T6, X6, e6, st6⟩ := getF X4 hx hZ4 hown4 (host := "") (Or.inl (hw _ (List.mem_of_getElem? (i := 27) rfl))) Via.refl e4 Fv4 (g := (mkF m 11 #[.val (.ref a), .val (.ref b), .val (.int (0 : Int32)), .val (.int (0 : Int32)), .val .null, .unset] [(.ref a4), (.ref a)])) rfl rfl (hb hby d_jdk_42_method_149_code_11)
  have k6 : To p.tables e below S0 (T6.setTop (mkF m 14 #[.val (.ref a), .val (.ref b), .val (.int (0 : Int32)), .val (.int (0 : Int32)), .val .null, .unset] [(.ref b4), (.ref a)])) := fun tt hq => k4 tt (st6 tt hq)
  have f7 : Exa Z h4 a "java/lang/String" := (E0.ext E4)
  have f8 : Fld Z h4 a "java/lang/String" "value" "[B" u1 := (F1.ext E4)
  obtain ⟨T9, h9, X9, e9, W9, st9⟩ := putF X6 hx hZ4 hown4 (host := "") (Or.inl (hw _ (List.mem_of_getElem? (i := 27) rfl))) Via.refl e6 f8 f7 (Or.inr ⟨(hw _ (List.mem_of_getElem? (i := 23) rfl)), rfl, hnm⟩) (hw _ (List.mem_of_getElem? (i := 8) rfl)) (ty := (.array .byte)) (by decide) rfl rfl (g := (mkF m 14 #[.val (.ref a), .val (.ref b), .val (.int (0 : Int32)), .val (.int (0 : Int32)), .val .null, .unset] [(.ref b4), (.ref a)])) rfl rfl (hb hby d_jdk_42_method_149_code_14)
  have k9 : To p.tables e below S0 (T9.setTop (mkF m 17 #[.val (.ref a), .val (.ref b), .val (.int (0 : Int32)), .val (.int (0 : Int32)), .val .null, .unset] [])) := fun tt hq => k6 tt (st9 tt hq)
  have z9 : h9.size = h4.size := W9.size
  have F9 := f8.same W9
  have N9 := Fr.snoc X9 N0 (by omega : n0 ≤ a)
  have C9 := C4.trans (CHr.wr W9 f5 C4.1)
  have k10 : To p.tables e below S0 (T9.setTop (mkF m 18 #[.val (.ref a), .val (.ref b), .val (.int (0 : Int32)), .val (.int (0 : Int32)), .val .null, .unset] [(.ref a)])) := fun tt hq => k9 tt (by
    show Steps _ _ _ (T9.setTop (mkF m 17 #[.val (.ref a), .val (.ref b), .val (.int (0 : Int32)), .val (.int (0 : Int32)), .val .null, .unset] [])) _
    refine XS.aloadN X9.here hx rfl (hb hby d_jdk_42_method_149_code_17) rfl rfl ?_
    show Steps _ _ _ (T9.setTop (mkF m 18 #[.val (.ref a), .val (.ref b), .val (.int (0 : Int32)), .val (.int (0 : Int32)), .val .null, .unset] [(.ref a)])) _
    exact hq)
  obtain ⟨a11, T11, h11, kk11, b11, c11, X11, e11, E11, hS11, hk11, hZ11a, hown11a, A11, Fc11, Fv11, V11, ya11, yb11, Cq11, -, hne11, st11⟩ := ldcCH X9 hx hZ4 hown4 (hw _ (List.mem_of_getElem? (i := 21) rfl)) (own_wS hw) e9 hS4 (by omega) (own_EW hw) (List.mem_of_getElem? (i := 0) rfl) C9.1 (vs := []) (z := (0 : Int32)) ⟨by decide, by decide⟩ (by decide) (by decide) (g := (mkF m 18 #[.val (.ref a), .val (.ref b), .val (.int (0 : Int32)), .val (.int (0 : Int32)), .val .null, .unset] [(.ref a)])) rfl (hb hby d_jdk_42_method_149_code_18) (n := 0) (by decide) (by decide) (by decide) (by decide)
  have k11 : To p.tables e below S0 (T11.setTop (mkF m 20 #[.val (.ref a), .val (.ref b), .val (.int (0 : Int32)), .val (.int (0 : Int32)), .val .null, .unset] [(.ref a11), (.ref a)])) := fun tt hq => k10 tt (st11 tt hq)
  have hZ11 : Z.Warmed39 T11.vm := hZ11a
  have hown11 : T11.vm.findClass "java/lang/String" = some m.cls := hown11a
  have z11 : h9.size ≤ h11.size := E11.1
  have C11 := C9.trans Cq11
  have f12 : Safe Z own_EL T11.vm h11 a := (Cq11.safe (adr_lt (by omega)) (Safe.wr W9 f5 C4.1 f5))
  have nx11_a : ¬ (@Eq Nat a a11) ∧ ¬ (@Eq Nat a b11) := hne11 a f12
  obtain ⟨T13, X13, e13, st13⟩ := getF X11 hx hZ11 hown11 (host := "") (Or.inl (hw _ (List.mem_of_getElem? (i := 28) rfl))) Via.refl e11 Fc11 (g := (mkF m 20 #[.val (.ref a), .val (.ref b), .val (.int (0 : Int32)), .val (.int (0 : Int32)), .val .null, .unset] [(.ref a11), (.ref a)])) rfl rfl (hb hby d_jdk_42_method_149_code_20)
  have k13 : To p.tables e below S0 (T13.setTop (mkF m 23 #[.val (.ref a), .val (.ref b), .val (.int (0 : Int32)), .val (.int (0 : Int32)), .val .null, .unset] [(.int (0 : Int32)), (.ref a)])) := fun tt hq => k11 tt (st13 tt hq)
  have f14 : Exa Z h11 a "java/lang/String" := ((f7.wr W9).ext E11)
  have f15 : Fld Z h11 a "java/lang/String" "coder" "B" u2 := (((F2.ext E4).other W9 (Or.inr (slot_ne (Or.inr (hw _ (List.mem_of_getElem? (i := 24) rfl))) (Or.inr (hw _ (List.mem_of_getElem? (i := 23) rfl))) (by decide) (t := .byte) (t' := (.array .byte)) (by decide) (by decide)))).ext E11)
  obtain ⟨T16, h16, X16, e16, W16, st16⟩ := putF X13 hx hZ11 hown11 (host := "") (Or.inl (hw _ (List.mem_of_getElem? (i := 28) rfl))) Via.refl e13 f15 f14 (Or.inr ⟨(hw _ (List.mem_of_getElem? (i := 24) rfl)), rfl, hnm⟩) (hw _ (List.mem_of_getElem? (i := 8) rfl)) (ty := .byte) (by decide) rfl rfl (g := (mkF m 23 #[.val (.ref a), .val (.ref b), .val (.int (0 : Int32)), .val (.int (0 : Int32)), .val .null, .unset] [(.int (0 : Int32)), (.ref a)])) rfl rfl (hb hby d_jdk_42_method_149_code_23)
  have k16 : To p.tables e below S0 (T16.setTop (mkF m 26 #[.val (.ref a), .val (.ref b), .val (.int (0 : Int32)), .val (.int (0 : Int32)), .val .null, .unset] [])) := fun tt hq => k13 tt (st16 tt hq)
  have z16 : h16.size = h11.size := W16.size
  have F16 := f15.same W16
  have N16 := Fr.snoc X16 N9 (by omega : n0 ≤ a)
  have C16 := C11.trans (CHr.wr W16 f12 C11.1)
  have f17 : Arv Z h16 b4 c4 .byte (0 : Int32) [] (.int 0) := (((V4.other W9 (adr_ne (by omega))).ext E11).other W16 (adr_ne (by omega)))
  have f18 : Exa Z h16 a "java/lang/String" := (f14.wr W16)
  have f19 : Fld Z h16 a "java/lang/String" "value" "[B" (.ref b4) := ((F9.ext E11).other W16 (Or.inr (slot_ne (Or.inr (hw _ (List.mem_of_getElem? (i := 23) rfl))) (Or.inr (hw _ (List.mem_of_getElem? (i := 24) rfl))) (by decide) (t := (.array .byte)) (t' := .byte) (by decide) (by decide))))
  refine retVoidW X16 hx hZ11 (own_EW hw) hS11 (by omega) C16 e16 hret hlk (hb hby d_jdk_42_method_149_code_26) k16 ?_ (by decide) (by decide)
  exact ⟨rfl, N16, (((((Keep.refl h0 [a]).ext E4).wr W9 (Or.inl (by simp))).ext E11).wr W16 (Or.inl (by simp))), b4, c4, f17.lt, f18, f19, F16, f17⟩
set_option maxRecDepth 65536 in
set_option maxHeartbeats 40000000 in
theorem rm_n1_0 (l : Launch) (Z : State) (a0 : Array Value) (hw : ∀ d ∈ tables_1, d.before a0 Z = true) (a : Addr) (b : Addr) (kb : ClassId) (u1 : Value) (u2 : Value) (h0 : Heap) (n0 : Nat) (hn0 : n0 ≤ h0.size) (E0 : Exa Z h0 a "java/lang/String") (F1 : Fld Z h0 a "java/lang/String" "value" "[B" u1) (F2 : Fld Z h0 a "java/lang/String" "coder" "B" u2) (P0 : Arv Z h0 b kb .char (0 : Int32) [] (.int (0 : Int32))) (ga : n0 ≤ a) (ya : @LT.lt Nat instLTNat a h0.size) :
    ConW l Z own_EL (⟨"java/lang/String", "<init>", "([C)V"⟩ : MethodName) jdk_42_method_3_code 2 none [] ({ frames := 2, cells := 4, slots := 8, locals := 29 } : Room) #[(.ref a), (.ref b)] h0 [a] (fun v h L => v = none ∧ Fr n0 L ∧ Keep h0 h [a] ∧ ∃ (t : Addr) (k : ClassId), (@LT.lt Nat instLTNat t h.size) ∧ Exa Z h a "java/lang/String" ∧ Fld Z h a "java/lang/String" "value" "[B" (.ref t) ∧ Fld Z h a "java/lang/String" "coder" "B" (.int (0 : Int32)) ∧ Arv Z h t k .byte (0 : Int32) [] (.int 0)) := by
  refine enterW (Ls := #[.val (.ref a), .val (.ref b)]) (plainFor_of_name pn_1) (fun m => by exact entry_eq rfl) ?_
  intro p e s m below meth cd_ s₁ S0 vm0 hx hby hml hret hlk hnm hown hZ X0 e0 k0 C0 hsf hS0
  have N0 := Fr.nil n0
  have Sf_a : Safe Z own_EL vm0 h0 a := hsf _ (List.mem_of_getElem? (i := 0) rfl)
  have k1 : To p.tables e below S0 (s₁.setTop (mkF m 4 #[.val (.ref a), .val (.ref b)] [(.ref b), (.int (0 : Int32)), (.ref b), (.ref a)])) := fun tt hq => k0 tt (by
    show Steps _ _ _ (s₁.setTop (mkF m 0 #[.val (.ref a), .val (.ref b)] [])) _
    refine XS.aloadN X0.here hx rfl (hb hby d_jdk_42_method_3_code_0) rfl rfl ?_
    show Steps _ _ _ (s₁.setTop (mkF m 1 #[.val (.ref a), .val (.ref b)] [(.ref a)])) _
    refine XS.aloadN X0.here hx rfl (hb hby d_jdk_42_method_3_code_1) rfl rfl ?_
    show Steps _ _ _ (s₁.setTop (mkF m 2 #[.val (.ref a), .val (.ref b)] [(.ref b), (.ref a)])) _
    refine XS.iconst X0.here hx rfl (hb hby d_jdk_42_method_3_code_2) ?_
    show Steps _ _ _ (s₁.setTop (mkF m 3 #[.val (.ref a), .val (.ref b)] [(.int (0 : Int32)), (.ref b), (.ref a)])) _
    refine XS.aloadN X0.here hx rfl (hb hby d_jdk_42_method_3_code_3) rfl rfl ?_
    show Steps _ _ _ (s₁.setTop (mkF m 4 #[.val (.ref a), .val (.ref b)] [(.ref b), (.int (0 : Int32)), (.ref b), (.ref a)])) _
    exact hq)
  obtain ⟨cl2, Ar2, -, S2, M2, -, -⟩ := id P0
  have st2 := fun tt => X0.arraylength hx (by rw [e0]; exact Ar2.1) (State.isArrayOf_alike hZ.alike Ar2.2.1) (g := (mkF m 4 #[.val (.ref a), .val (.ref b)] [(.ref b), (.int (0 : Int32)), (.ref b), (.ref a)])) rfl rfl (hb hby d_jdk_42_method_3_code_4) tt
  rw [len_of S2 M2] at st2
  have k2 : To p.tables e below S0 (s₁.setTop (mkF m 5 #[.val (.ref a), .val (.ref b)] [(.int (0 : Int32)), (.int (0 : Int32)), (.ref b), (.ref a)])) := fun tt hq => k1 tt (st2 tt hq)
  have k3 : To p.tables e below S0 (s₁.setTop (mkF m 6 #[.val (.ref a), .val (.ref b)] [.null, (.int (0 : Int32)), (.int (0 : Int32)), (.ref b), (.ref a)])) := fun tt hq => k2 tt (by
    show Steps _ _ _ (s₁.setTop (mkF m 5 #[.val (.ref a), .val (.ref b)] [(.int (0 : Int32)), (.int (0 : Int32)), (.ref b), (.ref a)])) _
    refine XS.aconstNull X0.here hx rfl (hb hby d_jdk_42_method_3_code_5) ?_
    show Steps _ _ _ (s₁.setTop (mkF m 6 #[.val (.ref a), .val (.ref b)] [.null, (.int (0 : Int32)), (.int (0 : Int32)), (.ref b), (.ref a)])) _
    exact hq)
  obtain ⟨_, T4, L4, X4, ⟨rfl, Nq4, Kq4, t4, kt4, gt4, P40, P41, P42, P43⟩, k4a, Cq4, hS4, hZ4, hown4⟩ := callCW X0 hx hZ (y := (⟨"java/lang/String", "<init>", "([CIILjava/lang/Void;)V"⟩ : MethodName)) rfl hown hS0 (by omega) (hw _ (List.mem_of_getElem? (i := 14) rfl)) (hw _ (List.mem_of_getElem? (i := 15) rfl)) (hw _ (List.mem_of_getElem? (i := 17) rfl)) (by decide) (backOfW (W := 0) (rm_n4_0 l Z a0 hw a b kb u1 u2 h0 n0 (by omega) E0 F1 F2 P0 (by omega) (by omega)) hZ (hw _ (List.mem_of_getElem? (i := 17) rfl)) (hw _ (List.mem_of_getElem? (i := 9) rfl)) (by decide) (by decide) (own_EW hw) C0.1 (allS ⟨adr_lt (by omega), Sf_a⟩ all0)) e0 (argsL := [(.ref b), (.int (0 : Int32)), (.int (0 : Int32)), .null]) (rest := []) rfl rfl pd_3 rfl (by rw [hml]; rfl) (hb hby d_jdk_42_method_3_code_6) (Nat.le_of_eq rfl) (by decide) (by decide) k3
  have k4 : To p.tables e below S0 (T4.setTop (mkF m 9 #[.val (.ref a), .val (.ref b)] [])) := k4a
  have N4 := N0.app Nq4
  obtain ⟨h4, e4⟩ : ∃ z, T4.heap = z := ⟨_, rfl⟩
  rw [e4] at Kq4 gt4 P40 P41 P42 P43 Cq4 hS4
  have z4 : h0.size ≤ h4.size := Kq4.1
  have C4 := C0.trans Cq4
  refine retVoidW X4 hx hZ4 (own_EW hw) hS4 (by omega) C4 e4 hret hlk (hb hby d_jdk_42_method_3_code_9) k4 ?_ (by decide) (by decide)
  exact ⟨rfl, N4, ((Keep.refl h0 [a]).trans Kq4 (allS (Or.inl (by simp)) all0)), t4, kt4, P43.lt, P40, P41, P42, P43⟩
theorem d_jdk_43_method_3_code_0 : decode jdk_43_method_3_code 0 = .ok (.iload_n 0, 1) := by decide +kernel
theorem d_jdk_43_method_3_code_1 : decode jdk_43_method_3_code 1 = .ok (.sipush 255, 3) := by decide +kernel
theorem d_jdk_43_method_3_code_4 : decode jdk_43_method_3_code 4 = .ok (.if_icmp .gt 7, 3) := by decide +kernel
theorem d_jdk_43_method_3_code_7 : decode jdk_43_method_3_code 7 = .ok (.iconst 1, 1) := by decide +kernel
theorem d_jdk_43_method_3_code_8 : decode jdk_43_method_3_code 8 = .ok (.goto 4, 3) := by decide +kernel
theorem d_jdk_43_method_3_code_11 : decode jdk_43_method_3_code 11 = .ok (.iconst 0, 1) := by decide +kernel
theorem d_jdk_43_method_3_code_12 : decode jdk_43_method_3_code 12 = .ok (.ireturn, 1) := by decide +kernel
theorem pn_2 : plainName "java/lang/StringLatin1" = true := by first | (simp [plainName, overriddenIn]; done) | decide +kernel
set_option maxRecDepth 65536 in
set_option maxHeartbeats 40000000 in
theorem rm_enc (l : Launch) (Z : State) (a0 : Array Value) (hw : ∀ d ∈ tables_1, d.before a0 Z = true) (c : Int32) (h0 : Heap) (n0 : Nat) (hn0 : n0 ≤ h0.size) (hc : ¬ (255 : Int32) < c) :
    Con l Z (⟨"java/lang/StringLatin1", "canEncode", "(C)Z"⟩ : MethodName) jdk_43_method_3_code 1 (some .boolean) [] ({ frames := 0, cells := 0, slots := 0, locals := 0 } : Room) #[(.int c)] h0 (fun v h L => v = some (.int (1 : Int32)) ∧ Fr n0 L ∧ h = h0) := by
  refine enter (Ls := #[.val (.int c)]) (plainFor_of_name pn_2) (fun m => by exact entry_eq rfl) ?_
  intro p e s m below meth cd_ s₁ S0 hx hby hml hret hlk hnm hown hZ X0 e0 k0
  have N0 := Fr.nil n0
  have k1 : To p.tables e below S0 (s₁.setTop (mkF m 12 #[.val (.int c)] [(.int (1 : Int32))])) := fun tt hq => k0 tt (by
    show Steps _ _ _ (s₁.setTop (mkF m 0 #[.val (.int c)] [])) _
    refine XS.iloadN X0.here hx rfl (hb hby d_jdk_43_method_3_code_0) rfl ?_
    show Steps _ _ _ (s₁.setTop (mkF m 1 #[.val (.int c)] [(.int c)])) _
    refine XS.sipush X0.here hx rfl (hb hby d_jdk_43_method_3_code_1) ?_
    show Steps _ _ _ (s₁.setTop (mkF m 4 #[.val (.int c)] [(.int (255 : Int32)), (.int c)])) _
    refine XS.icmpNo X0.here hx rfl (hb hby d_jdk_43_method_3_code_4) rfl (flt hc).2.2.1 ?_
    show Steps _ _ _ (s₁.setTop (mkF m 7 #[.val (.int c)] [])) _
    refine XS.iconst X0.here hx rfl (hb hby d_jdk_43_method_3_code_7) ?_
    show Steps _ _ _ (s₁.setTop (mkF m 8 #[.val (.int c)] [(.int (1 : Int32))])) _
    refine XS.goto X0.here hx rfl (pc0 := 8) (pc' := 12) rfl (hb hby d_jdk_43_method_3_code_8) (by decide) (by decide) ?_
    show Steps _ _ _ (s₁.setTop (mkF m 12 #[.val (.int c)] [(.int (1 : Int32))])) _
    exact hq)
  have hE := e0
  refine retInt X0 hx hret hlk (by simp) rfl (hb hby d_jdk_43_method_3_code_12) k1 ?_ (by decide) (by decide)
  try rw [hE]
  exact ⟨rfl, N0, rfl⟩
theorem d_jdk_43_method_46_code_0 : decode jdk_43_method_46_code 0 = .ok (.iconst 1, 1) := by decide +kernel
theorem d_jdk_43_method_46_code_1 : decode jdk_43_method_46_code 1 = .ok (.newarray .byte, 2) := by decide +kernel
theorem d_jdk_43_method_46_code_3 : decode jdk_43_method_46_code 3 = .ok (.dup, 1) := by decide +kernel
theorem d_jdk_43_method_46_code_4 : decode jdk_43_method_46_code 4 = .ok (.iconst 0, 1) := by decide +kernel
theorem d_jdk_43_method_46_code_5 : decode jdk_43_method_46_code 5 = .ok (.iload_n 0, 1) := by decide +kernel
theorem d_jdk_43_method_46_code_6 : decode jdk_43_method_46_code 6 = .ok (.i2b, 1) := by decide +kernel
theorem d_jdk_43_method_46_code_7 : decode jdk_43_method_46_code 7 = .ok (.bastore, 1) := by decide +kernel
theorem d_jdk_43_method_46_code_8 : decode jdk_43_method_46_code 8 = .ok (.areturn, 1) := by decide +kernel
set_option maxRecDepth 65536 in
set_option maxHeartbeats 40000000 in
theorem rm_tob (l : Launch) (Z : State) (a0 : Array Value) (hw : ∀ d ∈ tables_1, d.before a0 Z = true) (c : Int32) (h0 : Heap) (n0 : Nat) (hn0 : n0 ≤ h0.size)  :
    Con l Z (⟨"java/lang/StringLatin1", "toBytes", "(C)[B"⟩ : MethodName) jdk_43_method_46_code 1 (some (.array .byte)) [] ({ frames := 0, cells := 1, slots := 1, locals := 0 } : Room) #[(.int c)] h0 (fun v h L => ∃ (t : Addr) (k : ClassId), v = some (.ref t) ∧ Fr n0 L ∧ h0.size ≤ t ∧ Keep h0 h [] ∧ Arv Z h t k .byte (1 : Int32) [(.int (nar .byte (c.toInt8.toInt32)))] (.int (0 : Int32))) := by
  refine enter (Ls := #[.val (.int c)]) (plainFor_of_name pn_2) (fun m => by exact entry_eq rfl) ?_
  intro p e s m below meth cd_ s₁ S0 hx hby hml hret hlk hnm hown hZ X0 e0 k0
  have N0 := Fr.nil n0
  have k1 : To p.tables e below S0 (s₁.setTop (mkF m 1 #[.val (.int c)] [(.int (1 : Int32))])) := fun tt hq => k0 tt (by
    show Steps _ _ _ (s₁.setTop (mkF m 0 #[.val (.int c)] [])) _
    refine XS.iconst X0.here hx rfl (hb hby d_jdk_43_method_46_code_0) ?_
    show Steps _ _ _ (s₁.setTop (mkF m 1 #[.val (.int c)] [(.int (1 : Int32))])) _
    exact hq)
  obtain ⟨T2, h2, c2, X2, e2, E2, A2, st2⟩ := newP X0 hx hZ (hw _ (List.mem_of_getElem? (i := 22) rfl)) e0 (g := (mkF m 1 #[.val (.int c)] [(.int (1 : Int32))])) rfl (hb hby d_jdk_43_method_46_code_1) rfl (by decide) (cap := 1) (by decide) (by decide) (by decide) (by decide)
  obtain ⟨b2, g2⟩ : ∃ z, z = h0.size := ⟨_, rfl⟩
  rw [← g2] at A2 st2
  have k2 : To p.tables e below S0 (T2.setTop (mkF m 3 #[.val (.int c)] [(.ref b2)])) := fun tt hq => k1 tt (st2 tt hq)
  have z2 : h0.size ≤ h2.size := E2.1
  have V2 : Arv Z h2 b2 c2 .byte (1 : Int32) [(.int (0 : Int32))] (.int (0 : Int32)) := (Arv.new A2 (by decide)).pad (pad_rep [] (.int (0 : Int32)) 1)
  have y2 : @LT.lt Nat instLTNat b2 h2.size := V2.lt
  have k3 : To p.tables e below S0 (T2.setTop (mkF m 7 #[.val (.int c)] [(.int (c.toInt8.toInt32)), (.int (0 : Int32)), (.ref b2), (.ref b2)])) := fun tt hq => k2 tt (by
    show Steps _ _ _ (T2.setTop (mkF m 3 #[.val (.int c)] [(.ref b2)])) _
    refine XS.dup X2.here hx rfl (hb hby d_jdk_43_method_46_code_3) rfl rfl ?_
    show Steps _ _ _ (T2.setTop (mkF m 4 #[.val (.int c)] [(.ref b2), (.ref b2)])) _
    refine XS.iconst X2.here hx rfl (hb hby d_jdk_43_method_46_code_4) ?_
    show Steps _ _ _ (T2.setTop (mkF m 5 #[.val (.int c)] [(.int (0 : Int32)), (.ref b2), (.ref b2)])) _
    refine XS.iloadN X2.here hx rfl (hb hby d_jdk_43_method_46_code_5) rfl ?_
    show Steps _ _ _ (T2.setTop (mkF m 6 #[.val (.int c)] [(.int c), (.int (0 : Int32)), (.ref b2), (.ref b2)])) _
    refine XS.i2b X2.here hx rfl (hb hby d_jdk_43_method_46_code_6) rfl ?_
    show Steps _ _ _ (T2.setTop (mkF m 7 #[.val (.int c)] [(.int (c.toInt8.toInt32)), (.int (0 : Int32)), (.ref b2), (.ref b2)])) _
    exact hq)
  obtain ⟨cl4, Ar4, q4, S4, M4, G4, J4⟩ := id V2
  obtain ⟨T4, h4, X4, e4, W4, st4⟩ := stB X2 hx hZ e2 Ar4 (j := (0 : Int32)) (inb_of S4 ⟨by decide, by decide⟩) (g := (mkF m 7 #[.val (.int c)] [(.int (c.toInt8.toInt32)), (.int (0 : Int32)), (.ref b2), (.ref b2)])) rfl rfl (hb hby d_jdk_43_method_46_code_7)
  have k4 : To p.tables e below S0 (T4.setTop (mkF m 8 #[.val (.int c)] [(.ref b2)])) := fun tt hq => k3 tt (st4 tt hq)
  have z4 : h4.size = h2.size := W4.size
  have V4 : Arv Z h4 b2 c2 .byte (1 : Int32) [(.int (nar .byte (c.toInt8.toInt32)))] (.int (0 : Int32)) := Arv.set Ar4 q4 S4 M4 G4 J4 (fits_nar_byte _) W4 0 rfl (Nat.le_of_ble_eq_true rfl)
  have N4 := Fr.snoc X4 N0 (by omega : n0 ≤ b2)
  have hE := e4
  refine retRef X4 hx hret hlk rfl rfl (hb hby d_jdk_43_method_46_code_8) k4 ?_ (by decide) (by decide)
  try rw [hE]
  exact ⟨b2, _, rfl, N4, (by omega), (((Keep.refl h0 []).ext E2).wr W4 (Or.inr (by omega))), V4⟩
theorem d_jdk_42_method_151_code_0 : decode jdk_42_method_151_code 0 = .ok (.aload_n 0, 1) := by decide +kernel
theorem d_jdk_42_method_151_code_1 : decode jdk_42_method_151_code 1 = .ok (.invokespecial 1, 3) := by decide +kernel
theorem d_jdk_42_method_151_code_4 : decode jdk_42_method_151_code 4 = .ok (.aload_n 0, 1) := by decide +kernel
theorem d_jdk_42_method_151_code_5 : decode jdk_42_method_151_code 5 = .ok (.aload_n 1, 1) := by decide +kernel
theorem d_jdk_42_method_151_code_6 : decode jdk_42_method_151_code 6 = .ok (.putfield 9, 3) := by decide +kernel
theorem d_jdk_42_method_151_code_9 : decode jdk_42_method_151_code 9 = .ok (.aload_n 0, 1) := by decide +kernel
theorem d_jdk_42_method_151_code_10 : decode jdk_42_method_151_code 10 = .ok (.iload_n 2, 1) := by decide +kernel
theorem d_jdk_42_method_151_code_11 : decode jdk_42_method_151_code 11 = .ok (.putfield 15, 3) := by decide +kernel
theorem d_jdk_42_method_151_code_14 : decode jdk_42_method_151_code 14 = .ok (.return_, 1) := by decide +kernel
set_option maxRecDepth 65536 in
set_option maxHeartbeats 40000000 in
theorem rm_sbb (l : Launch) (Z : State) (a0 : Array Value) (hw : ∀ d ∈ tables_1, d.before a0 Z = true) (a : Addr) (t : Addr) (u1 : Value) (u2 : Value) (h0 : Heap) (n0 : Nat) (hn0 : n0 ≤ h0.size) (E0 : Exa Z h0 a "java/lang/String") (F1 : Fld Z h0 a "java/lang/String" "value" "[B" u1) (F2 : Fld Z h0 a "java/lang/String" "coder" "B" u2) (ga : n0 ≤ a) :
    Con l Z (⟨"java/lang/String", "<init>", "([BB)V"⟩ : MethodName) jdk_42_method_151_code 3 none [] ({ frames := 1, cells := 0, slots := 0, locals := 12 } : Room) #[(.ref a), (.ref t), (.int (0 : Int32))] h0 (fun v h L => v = none ∧ Fr n0 L ∧ Keep h0 h [a] ∧ Exa Z h a "java/lang/String" ∧ Fld Z h a "java/lang/String" "value" "[B" (.ref t) ∧ Fld Z h a "java/lang/String" "coder" "B" (.int (0 : Int32))) := by
  refine enter (Ls := #[.val (.ref a), .val (.ref t), .val (.int (0 : Int32))]) (plainFor_of_name pn_1) (fun m => by exact entry_eq rfl) ?_
  intro p e s m below meth cd_ s₁ S0 hx hby hml hret hlk hnm hown hZ X0 e0 k0
  have N0 := Fr.nil n0
  have k1 : To p.tables e below S0 (s₁.setTop (mkF m 1 #[.val (.ref a), .val (.ref t), .val (.int (0 : Int32))] [(.ref a)])) := fun tt hq => k0 tt (by
    show Steps _ _ _ (s₁.setTop (mkF m 0 #[.val (.ref a), .val (.ref t), .val (.int (0 : Int32))] [])) _
    refine XS.aloadN X0.here hx rfl (hb hby d_jdk_42_method_151_code_0) rfl rfl ?_
    show Steps _ _ _ (s₁.setTop (mkF m 1 #[.val (.ref a), .val (.ref t), .val (.int (0 : Int32))] [(.ref a)])) _
    exact hq)
  obtain ⟨T2, X2, e2, st2⟩ := initO X0 hx hZ hown (hw _ (List.mem_of_getElem? (i := 18) rfl)) (hw _ (List.mem_of_getElem? (i := 19) rfl)) (hw _ (List.mem_of_getElem? (i := 20) rfl)) e0 (g := (mkF m 1 #[.val (.ref a), .val (.ref t), .val (.int (0 : Int32))] [(.ref a)])) rfl (by rw [hml]; rfl) rfl (hb hby d_jdk_42_method_151_code_1) (by decide) (W := 0) (by show 2 * 0 + _ ≤ _; exact Nat.le_of_eq rfl) (by decide)
  have k2 : To p.tables e below S0 (T2.setTop (mkF m 4 #[.val (.ref a), .val (.ref t), .val (.int (0 : Int32))] [])) := fun tt hq => k1 tt (st2 tt hq)
  have k3 : To p.tables e below S0 (T2.setTop (mkF m 6 #[.val (.ref a), .val (.ref t), .val (.int (0 : Int32))] [(.ref t), (.ref a)])) := fun tt hq => k2 tt (by
    show Steps _ _ _ (T2.setTop (mkF m 4 #[.val (.ref a), .val (.ref t), .val (.int (0 : Int32))] [])) _
    refine XS.aloadN X2.here hx rfl (hb hby d_jdk_42_method_151_code_4) rfl rfl ?_
    show Steps _ _ _ (T2.setTop (mkF m 5 #[.val (.ref a), .val (.ref t), .val (.int (0 : Int32))] [(.ref a)])) _
    refine XS.aloadN X2.here hx rfl (hb hby d_jdk_42_method_151_code_5) rfl rfl ?_
    show Steps _ _ _ (T2.setTop (mkF m 6 #[.val (.ref a), .val (.ref t), .val (.int (0 : Int32))] [(.ref t), (.ref a)])) _
    exact hq)
  obtain ⟨T4, h4, X4, e4, W4, st4⟩ := putF X2 hx hZ hown (host := "") (Or.inl (hw _ (List.mem_of_getElem? (i := 27) rfl))) Via.refl e2 F1 E0 (Or.inr ⟨(hw _ (List.mem_of_getElem? (i := 23) rfl)), rfl, hnm⟩) (hw _ (List.mem_of_getElem? (i := 8) rfl)) (ty := (.array .byte)) (by decide) rfl rfl (g := (mkF m 6 #[.val (.ref a), .val (.ref t), .val (.int (0 : Int32))] [(.ref t), (.ref a)])) rfl rfl (hb hby d_jdk_42_method_151_code_6)
  have k4 : To p.tables e below S0 (T4.setTop (mkF m 9 #[.val (.ref a), .val (.ref t), .val (.int (0 : Int32))] [])) := fun tt hq => k3 tt (st4 tt hq)
  have z4 : h4.size = h0.size := W4.size
  have F4 := F1.same W4
  have N4 := Fr.snoc X4 N0 (by omega : n0 ≤ a)
  have f5 : Exa Z h4 a "java/lang/String" := (E0.wr W4)
  have f6 : Fld Z h4 a "java/lang/String" "coder" "B" u2 := (F2.other W4 (Or.inr (slot_ne (Or.inr (hw _ (List.mem_of_getElem? (i := 24) rfl))) (Or.inr (hw _ (List.mem_of_getElem? (i := 23) rfl))) (by decide) (t := .byte) (t' := (.array .byte)) (by decide) (by decide))))
  have k7 : To p.tables e below S0 (T4.setTop (mkF m 11 #[.val (.ref a), .val (.ref t), .val (.int (0 : Int32))] [(.int (0 : Int32)), (.ref a)])) := fun tt hq => k4 tt (by
    show Steps _ _ _ (T4.setTop (mkF m 9 #[.val (.ref a), .val (.ref t), .val (.int (0 : Int32))] [])) _
    refine XS.aloadN X4.here hx rfl (hb hby d_jdk_42_method_151_code_9) rfl rfl ?_
    show Steps _ _ _ (T4.setTop (mkF m 10 #[.val (.ref a), .val (.ref t), .val (.int (0 : Int32))] [(.ref a)])) _
    refine XS.iloadN X4.here hx rfl (hb hby d_jdk_42_method_151_code_10) rfl ?_
    show Steps _ _ _ (T4.setTop (mkF m 11 #[.val (.ref a), .val (.ref t), .val (.int (0 : Int32))] [(.int (0 : Int32)), (.ref a)])) _
    exact hq)
  obtain ⟨T8, h8, X8, e8, W8, st8⟩ := putF X4 hx hZ hown (host := "") (Or.inl (hw _ (List.mem_of_getElem? (i := 28) rfl))) Via.refl e4 f6 f5 (Or.inr ⟨(hw _ (List.mem_of_getElem? (i := 24) rfl)), rfl, hnm⟩) (hw _ (List.mem_of_getElem? (i := 8) rfl)) (ty := .byte) (by decide) rfl rfl (g := (mkF m 11 #[.val (.ref a), .val (.ref t), .val (.int (0 : Int32))] [(.int (0 : Int32)), (.ref a)])) rfl rfl (hb hby d_jdk_42_method_151_code_11)
  have k8 : To p.tables e below S0 (T8.setTop (mkF m 14 #[.val (.ref a), .val (.ref t), .val (.int (0 : Int32))] [])) := fun tt hq => k7 tt (st8 tt hq)
  have z8 : h8.size = h4.size := W8.size
  have F8 := f6.same W8
  have N8 := Fr.snoc X8 N4 (by omega : n0 ≤ a)
  have f9 : Exa Z h8 a "java/lang/String" := (f5.wr W8)
  have f10 : Fld Z h8 a "java/lang/String" "value" "[B" (.ref t) := (F4.other W8 (Or.inr (slot_ne (Or.inr (hw _ (List.mem_of_getElem? (i := 23) rfl))) (Or.inr (hw _ (List.mem_of_getElem? (i := 24) rfl))) (by decide) (t := (.array .byte)) (t' := .byte) (by decide) (by decide))))
  have hE := e8
  refine retVoid X8 hx hret hlk (hb hby d_jdk_42_method_151_code_14) k8 ?_ (by decide) (by decide)
  try rw [hE]
  exact ⟨rfl, N8, (((Keep.refl h0 [a]).wr W4 (Or.inl (by simp))).wr W8 (Or.inl (by simp))), f9, f10, F8⟩
theorem d_jdk_42_method_139_code_0 : decode jdk_42_method_139_code 0 = .ok (.getstatic 38, 3) := by decide +kernel
theorem d_jdk_42_method_139_code_3 : decode jdk_42_method_139_code 3 = .ok (.ifCond .eq 23, 3) := by decide +kernel
theorem d_jdk_42_method_139_code_6 : decode jdk_42_method_139_code 6 = .ok (.iload_n 0, 1) := by decide +kernel
theorem d_jdk_42_method_139_code_7 : decode jdk_42_method_139_code 7 = .ok (.invokestatic 1015, 3) := by decide +kernel
theorem d_jdk_42_method_139_code_10 : decode jdk_42_method_139_code 10 = .ok (.ifCond .eq 16, 3) := by decide +kernel
theorem d_jdk_42_method_139_code_13 : decode jdk_42_method_139_code 13 = .ok (.new 10, 3) := by decide +kernel
theorem d_jdk_42_method_139_code_16 : decode jdk_42_method_139_code 16 = .ok (.dup, 1) := by decide +kernel
theorem d_jdk_42_method_139_code_17 : decode jdk_42_method_139_code 17 = .ok (.iload_n 0, 1) := by decide +kernel
theorem d_jdk_42_method_139_code_18 : decode jdk_42_method_139_code 18 = .ok (.invokestatic 1018, 3) := by decide +kernel
theorem d_jdk_42_method_139_code_21 : decode jdk_42_method_139_code 21 = .ok (.iconst 0, 1) := by decide +kernel
theorem d_jdk_42_method_139_code_22 : decode jdk_42_method_139_code 22 = .ok (.invokespecial 209, 3) := by decide +kernel
theorem d_jdk_42_method_139_code_25 : decode jdk_42_method_139_code 25 = .ok (.areturn, 1) := by decide +kernel
theorem d_jdk_42_method_139_code_26 : decode jdk_42_method_139_code 26 = .ok (.new 10, 3) := by decide +kernel
theorem d_jdk_42_method_139_code_29 : decode jdk_42_method_139_code 29 = .ok (.dup, 1) := by decide +kernel
theorem d_jdk_42_method_139_code_30 : decode jdk_42_method_139_code 30 = .ok (.iload_n 0, 1) := by decide +kernel
theorem d_jdk_42_method_139_code_31 : decode jdk_42_method_139_code 31 = .ok (.invokestatic 1021, 3) := by decide +kernel
theorem d_jdk_42_method_139_code_34 : decode jdk_42_method_139_code 34 = .ok (.iconst 1, 1) := by decide +kernel
theorem d_jdk_42_method_139_code_35 : decode jdk_42_method_139_code 35 = .ok (.invokespecial 209, 3) := by decide +kernel
theorem d_jdk_42_method_139_code_38 : decode jdk_42_method_139_code 38 = .ok (.areturn, 1) := by decide +kernel
theorem pd_4 : parseMethodDescriptor "(C)Z" = some ⟨[.char], some .boolean⟩ := by decide +kernel
theorem pd_5 : parseMethodDescriptor "(C)[B" = some ⟨[.char], some (.array .byte)⟩ := by decide +kernel
theorem pd_6 : parseMethodDescriptor "([BB)V" = some ⟨[(.array .byte), .byte], none⟩ := by decide +kernel
set_option maxRecDepth 65536 in
set_option maxHeartbeats 40000000 in
theorem rm_vof (l : Launch) (Z : State) (a0 : Array Value) (hw : ∀ d ∈ tables_1, d.before a0 Z = true) (zc : Int32) (c : Int32) (h0 : Heap) (n0 : Nat) (hn0 : n0 ≤ h0.size) (S_c : Sta Z Z.heap "java/lang/String" "COMPACT_STRINGS" "Z" (.int zc)) (hzc : ¬ zc = (0 : Int32)) (O0 : Old Z n0 h0) (hc : ¬ (255 : Int32) < c) :
    Con l Z (⟨"java/lang/String", "valueOf", "(C)Ljava/lang/String;"⟩ : MethodName) jdk_42_method_139_code 1 (some (.object "java/lang/String")) [] ({ frames := 2, cells := 2, slots := 5, locals := 27 } : Room) #[(.int c)] h0 (fun v h L => ∃ (a t : Addr) (k : ClassId), v = some (.ref a) ∧ Fr n0 L ∧ h0.size ≤ a ∧ h0.size ≤ t ∧ Keep h0 h [] ∧ Exa Z h a "java/lang/String" ∧ Fld Z h a "java/lang/String" "value" "[B" (.ref t) ∧ Fld Z h a "java/lang/String" "coder" "B" (.int (0 : Int32)) ∧ Arv Z h t k .byte (1 : Int32) [(.int (nar .byte (c.toInt8.toInt32)))] (.int (0 : Int32))) := by
  refine enter (Ls := #[.val (.int c)]) (plainFor_of_name pn_1) (fun m => by exact entry_eq rfl) ?_
  intro p e s m below meth cd_ s₁ S0 hx hby hml hret hlk hnm hown hZ X0 e0 k0
  have N0 := Fr.nil n0
  obtain ⟨T1, X1, e1, st1⟩ := getS2 X0 hx hZ hown (host := "") (Or.inl (hw _ (List.mem_of_getElem? (i := 78) rfl))) Via.refl e0 (staOld S_c O0) (g := (mkF m 0 #[.val (.int c)] [])) rfl (hb hby d_jdk_42_method_139_code_0)
  have k1 : To p.tables e below S0 (T1.setTop (mkF m 3 #[.val (.int c)] [(.int zc)])) := fun tt hq => k0 tt (st1 tt hq)
  have k2 : To p.tables e below S0 (T1.setTop (mkF m 7 #[.val (.int c)] [(.int c)])) := fun tt hq => k1 tt (by
    show Steps _ _ _ (T1.setTop (mkF m 3 #[.val (.int c)] [(.int zc)])) _
    refine XS.ifNo X1.here hx rfl (hb hby d_jdk_42_method_139_code_3) rfl ((if0 _ _).trans (feq hzc).1) ?_
    show Steps _ _ _ (T1.setTop (mkF m 6 #[.val (.int c)] [])) _
    refine XS.iloadN X1.here hx rfl (hb hby d_jdk_42_method_139_code_6) rfl ?_
    show Steps _ _ _ (T1.setTop (mkF m 7 #[.val (.int c)] [(.int c)])) _
    exact hq)
  obtain ⟨_, T3, L3, X3, ⟨rfl, Nq3, eq3⟩, k3a⟩ := callS' X1 hx hZ (y := (⟨"java/lang/StringLatin1", "canEncode", "(C)Z"⟩ : MethodName)) hown (hw _ (List.mem_of_getElem? (i := 133) rfl)) (hw _ (List.mem_of_getElem? (i := 134) rfl)) (hw _ (List.mem_of_getElem? (i := 135) rfl)) (hw _ (List.mem_of_getElem? (i := 136) rfl)) (by decide) (backC (W := 0) (rm_enc l Z a0 hw c h0 n0 (by omega) hc) hZ (hw _ (List.mem_of_getElem? (i := 136) rfl)) (hw _ (List.mem_of_getElem? (i := 135) rfl)) (by decide) (by decide)) e1 (argsL := [(.int c)]) (rest := []) rfl rfl pd_4 rfl (by rw [hml]; rfl) (hb hby d_jdk_42_method_139_code_7) (Nat.le_of_eq rfl) (by decide) (by decide) k2
  have k3 : To p.tables e below S0 (T3.setTop (mkF m 10 #[.val (.int c)] [(.int (1 : Int32))])) := k3a
  have N3 := N0.app Nq3
  have e3 : T3.heap = h0 := eq3
  have k4 : To p.tables e below S0 (T3.setTop (mkF m 13 #[.val (.int c)] [])) := fun tt hq => k3 tt (by
    show Steps _ _ _ (T3.setTop (mkF m 10 #[.val (.int c)] [(.int (1 : Int32))])) _
    refine XS.ifNo X3.here hx rfl (hb hby d_jdk_42_method_139_code_10) rfl ((if0 _ _).trans (feq (by decide)).1) ?_
    show Steps _ _ _ (T3.setTop (mkF m 13 #[.val (.int c)] [])) _
    exact hq)
  obtain ⟨T5, h5, X5, e5, E5, A5, D5, -, st5⟩ := newO X3 hx hZ hown (hw _ (List.mem_of_getElem? (i := 137) rfl)) (hw _ (List.mem_of_getElem? (i := 8) rfl)) (hw _ (List.mem_of_getElem? (i := 9) rfl)) e3 (g := (mkF m 13 #[.val (.int c)] [])) rfl (hb hby d_jdk_42_method_139_code_13) (by decide) (by decide)
  obtain ⟨b5, g5⟩ : ∃ z, z = h0.size := ⟨_, rfl⟩
  rw [← g5] at A5 D5 st5
  have k5 : To p.tables e below S0 (T5.setTop (mkF m 16 #[.val (.int c)] [(.ref b5)])) := fun tt hq => k4 tt (st5 tt hq)
  have z5 : h0.size ≤ h5.size := E5.1
  have y5 : @LT.lt Nat instLTNat b5 h5.size := A5.lt
  have F5_value : Fld Z h5 b5 "java/lang/String" "value" "[B" .null := D5 (Or.inr (hw _ (List.mem_of_getElem? (i := 23) rfl))) (ty := (.array .byte)) (by decide)
  have F5_coder : Fld Z h5 b5 "java/lang/String" "coder" "B" (.int (0 : Int32)) := D5 (Or.inr (hw _ (List.mem_of_getElem? (i := 24) rfl))) (ty := .byte) (by decide)
  have k6 : To p.tables e below S0 (T5.setTop (mkF m 18 #[.val (.int c)] [(.int c), (.ref b5), (.ref b5)])) := fun tt hq => k5 tt (by
    show Steps _ _ _ (T5.setTop (mkF m 16 #[.val (.int c)] [(.ref b5)])) _
    refine XS.dup X5.here hx rfl (hb hby d_jdk_42_method_139_code_16) rfl rfl ?_
    show Steps _ _ _ (T5.setTop (mkF m 17 #[.val (.int c)] [(.ref b5), (.ref b5)])) _
    refine XS.iloadN X5.here hx rfl (hb hby d_jdk_42_method_139_code_17) rfl ?_
    show Steps _ _ _ (T5.setTop (mkF m 18 #[.val (.int c)] [(.int c), (.ref b5), (.ref b5)])) _
    exact hq)
  obtain ⟨_, T7, L7, X7, ⟨t7, kt7, rfl, Nq7, gt7, Kq7, V7⟩, k7a⟩ := callS' X5 hx hZ (y := (⟨"java/lang/StringLatin1", "toBytes", "(C)[B"⟩ : MethodName)) hown (hw _ (List.mem_of_getElem? (i := 138) rfl)) (hw _ (List.mem_of_getElem? (i := 139) rfl)) (hw _ (List.mem_of_getElem? (i := 135) rfl)) (hw _ (List.mem_of_getElem? (i := 140) rfl)) (by decide) (backC (W := 2) (rm_tob l Z a0 hw c h5 n0 (by omega)) hZ (hw _ (List.mem_of_getElem? (i := 140) rfl)) (hw _ (List.mem_of_getElem? (i := 135) rfl)) (by decide) (by decide)) e5 (argsL := [(.int c)]) (rest := [(.ref b5), (.ref b5)]) rfl rfl pd_5 rfl (by rw [hml]; rfl) (hb hby d_jdk_42_method_139_code_18) (Nat.le_of_eq rfl) (by decide) (by decide) k6
  have k7 : To p.tables e below S0 (T7.setTop (mkF m 21 #[.val (.int c)] [(.ref t7), (.ref b5), (.ref b5)])) := k7a
  have N7 := N3.app Nq7
  obtain ⟨h7, e7⟩ : ∃ z, T7.heap = z := ⟨_, rfl⟩
  rw [e7] at Kq7 V7
  have z7 : h5.size ≤ h7.size := Kq7.1
  have y7 : @LT.lt Nat instLTNat t7 h7.size := V7.lt
  have k8 : To p.tables e below S0 (T7.setTop (mkF m 22 #[.val (.int c)] [(.int (0 : Int32)), (.ref t7), (.ref b5), (.ref b5)])) := fun tt hq => k7 tt (by
    show Steps _ _ _ (T7.setTop (mkF m 21 #[.val (.int c)] [(.ref t7), (.ref b5), (.ref b5)])) _
    refine XS.iconst X7.here hx rfl (hb hby d_jdk_42_method_139_code_21) ?_
    show Steps _ _ _ (T7.setTop (mkF m 22 #[.val (.int c)] [(.int (0 : Int32)), (.ref t7), (.ref b5), (.ref b5)])) _
    exact hq)
  have f9 : Exa Z h7 b5 "java/lang/String" := (A5.keep Kq7)
  have f10 : Fld Z h7 b5 "java/lang/String" "value" "[B" .null := (F5_value.keep Kq7 nin0)
  have f11 : Fld Z h7 b5 "java/lang/String" "coder" "B" (.int (0 : Int32)) := (F5_coder.keep Kq7 nin0)
  obtain ⟨_, T12, L12, X12, ⟨rfl, Nq12, Kq12, A12, Fv12, Fc12⟩, k12a⟩ := callC' X7 hx hZ (y := (⟨"java/lang/String", "<init>", "([BB)V"⟩ : MethodName)) rfl hown (hw _ (List.mem_of_getElem? (i := 141) rfl)) (hw _ (List.mem_of_getElem? (i := 142) rfl)) (hw _ (List.mem_of_getElem? (i := 143) rfl)) (by decide) (backC (W := 1) (rm_sbb l Z a0 hw b5 t7 .null (.int (0 : Int32)) h7 n0 (by omega) f9 f10 f11 (by omega)) hZ (hw _ (List.mem_of_getElem? (i := 143) rfl)) (hw _ (List.mem_of_getElem? (i := 9) rfl)) (by decide) (by decide)) e7 (argsL := [(.ref t7), (.int (0 : Int32))]) (rest := [(.ref b5)]) rfl rfl pd_6 rfl (by rw [hml]; rfl) (hb hby d_jdk_42_method_139_code_22) (Nat.le_of_eq rfl) (by decide) (by decide) k8
  have k12 : To p.tables e below S0 (T12.setTop (mkF m 25 #[.val (.int c)] [(.ref b5)])) := k12a
  have N12 := N7.app Nq12
  obtain ⟨h12, e12⟩ : ∃ z, T12.heap = z := ⟨_, rfl⟩
  rw [e12] at Kq12 A12 Fv12 Fc12
  have z12 : h7.size ≤ h12.size := Kq12.1
  have f13 : Arv Z h12 t7 kt7 .byte (1 : Int32) [(.int (nar .byte (c.toInt8.toInt32)))] (.int (0 : Int32)) := (V7.keep Kq12 (ninS (adr_ne (by omega)) nin0))
  have hE := e12
  refine retRef X12 hx hret hlk rfl rfl (hb hby d_jdk_42_method_139_code_25) k12 ?_ (by decide) (by decide)
  try rw [hE]
  exact ⟨b5, t7, kt7, rfl, N12, (by omega), (by omega), ((((Keep.refl h0 []).ext E5).trans Kq7 all0).trans Kq12 (allS (Or.inr (by omega)) all0)), A12, Fv12, Fc12, f13⟩
theorem d_jdk_42_method_152_code_0 : decode jdk_42_method_152_code 0 = .ok (.getstatic 38, 3) := by decide +kernel
theorem d_jdk_42_method_152_code_3 : decode jdk_42_method_152_code 3 = .ok (.ifCond .eq 10, 3) := by decide +kernel
theorem d_jdk_42_method_152_code_6 : decode jdk_42_method_152_code 6 = .ok (.aload_n 0, 1) := by decide +kernel
theorem d_jdk_42_method_152_code_7 : decode jdk_42_method_152_code 7 = .ok (.getfield 15, 3) := by decide +kernel
theorem d_jdk_42_method_152_code_10 : decode jdk_42_method_152_code 10 = .ok (.goto 4, 3) := by decide +kernel
theorem d_jdk_42_method_152_code_13 : decode jdk_42_method_152_code 13 = .ok (.iconst 1, 1) := by decide +kernel
theorem d_jdk_42_method_152_code_14 : decode jdk_42_method_152_code 14 = .ok (.ireturn, 1) := by decide +kernel
set_option maxRecDepth 65536 in
set_option maxHeartbeats 40000000 in
theorem rm_coder (l : Launch) (Z : State) (a0 : Array Value) (hw : ∀ d ∈ tables_1, d.before a0 Z = true) (zc : Int32) (a : Addr) (h0 : Heap) (n0 : Nat) (hn0 : n0 ≤ h0.size) (S_c : Sta Z Z.heap "java/lang/String" "COMPACT_STRINGS" "Z" (.int zc)) (hzc : ¬ zc = (0 : Int32)) (O0 : Old Z n0 h0) (F0 : Fld Z h0 a "java/lang/String" "coder" "B" (.int (0 : Int32))) :
    Con l Z (⟨"java/lang/String", "coder", "()B"⟩ : MethodName) jdk_42_method_152_code 1 (some .byte) [] ({ frames := 0, cells := 0, slots := 0, locals := 0 } : Room) #[(.ref a)] h0 (fun v h L => v = some (.int (0 : Int32)) ∧ Fr n0 L ∧ h = h0) := by
  refine enter (Ls := #[.val (.ref a)]) (plainFor_of_name pn_1) (fun m => by exact entry_eq rfl) ?_
  intro p e s m below meth cd_ s₁ S0 hx hby hml hret hlk hnm hown hZ X0 e0 k0
  have N0 := Fr.nil n0
  obtain ⟨T1, X1, e1, st1⟩ := getS2 X0 hx hZ hown (host := "") (Or.inl (hw _ (List.mem_of_getElem? (i := 78) rfl))) Via.refl e0 (staOld S_c O0) (g := (mkF m 0 #[.val (.ref a)] [])) rfl (hb hby d_jdk_42_method_152_code_0)
  have k1 : To p.tables e below S0 (T1.setTop (mkF m 3 #[.val (.ref a)] [(.int zc)])) := fun tt hq => k0 tt (st1 tt hq)
  have k2 : To p.tables e below S0 (T1.setTop (mkF m 7 #[.val (.ref a)] [(.ref a)])) := fun tt hq => k1 tt (by
    show Steps _ _ _ (T1.setTop (mkF m 3 #[.val (.ref a)] [(.int zc)])) _
    refine XS.ifNo X1.here hx rfl (hb hby d_jdk_42_method_152_code_3) rfl ((if0 _ _).trans (feq hzc).1) ?_
    show Steps _ _ _ (T1.setTop (mkF m 6 #[.val (.ref a)] [])) _
    refine XS.aloadN X1.here hx rfl (hb hby d_jdk_42_method_152_code_6) rfl rfl ?_
    show Steps _ _ _ (T1.setTop (mkF m 7 #[.val (.ref a)] [(.ref a)])) _
    exact hq)
  obtain ⟨T3, X3, e3, st3⟩ := getF X1 hx hZ hown (host := "") (Or.inl (hw _ (List.mem_of_getElem? (i := 28) rfl))) Via.refl e1 F0 (g := (mkF m 7 #[.val (.ref a)] [(.ref a)])) rfl rfl (hb hby d_jdk_42_method_152_code_7)
  have k3 : To p.tables e below S0 (T3.setTop (mkF m 10 #[.val (.ref a)] [(.int (0 : Int32))])) := fun tt hq => k2 tt (st3 tt hq)
  have k4 : To p.tables e below S0 (T3.setTop (mkF m 14 #[.val (.ref a)] [(.int (0 : Int32))])) := fun tt hq => k3 tt (by
    show Steps _ _ _ (T3.setTop (mkF m 10 #[.val (.ref a)] [(.int (0 : Int32))])) _
    refine XS.goto X3.here hx rfl (pc0 := 10) (pc' := 14) rfl (hb hby d_jdk_42_method_152_code_10) (by decide) (by decide) ?_
    show Steps _ _ _ (T3.setTop (mkF m 14 #[.val (.ref a)] [(.int (0 : Int32))])) _
    exact hq)
  have hE := e3
  refine retInt X3 hx hret hlk (by simp) rfl (hb hby d_jdk_42_method_152_code_14) k4 ?_ (by decide) (by decide)
  try rw [hE]
  exact ⟨rfl, N0, rfl⟩
theorem d_jdk_42_method_54_code_0 : decode jdk_42_method_54_code 0 = .ok (.aload_n 0, 1) := by decide +kernel
theorem d_jdk_42_method_54_code_1 : decode jdk_42_method_54_code 1 = .ok (.getfield 9, 3) := by decide +kernel
theorem d_jdk_42_method_54_code_4 : decode jdk_42_method_54_code 4 = .ok (.arraylength, 1) := by decide +kernel
theorem d_jdk_42_method_54_code_5 : decode jdk_42_method_54_code 5 = .ok (.aload_n 0, 1) := by decide +kernel
theorem d_jdk_42_method_54_code_6 : decode jdk_42_method_54_code 6 = .ok (.invokevirtual 335, 3) := by decide +kernel
theorem d_jdk_42_method_54_code_9 : decode jdk_42_method_54_code 9 = .ok (.ishr, 1) := by decide +kernel
theorem d_jdk_42_method_54_code_10 : decode jdk_42_method_54_code 10 = .ok (.ireturn, 1) := by decide +kernel
theorem pd_7 : parseMethodDescriptor "()B" = some ⟨[], some .byte⟩ := by decide +kernel
set_option maxRecDepth 65536 in
set_option maxHeartbeats 40000000 in
theorem rm_len0 (l : Launch) (Z : State) (a0 : Array Value) (hw : ∀ d ∈ tables_1, d.before a0 Z = true) (zc : Int32) (a : Addr) (t : Addr) (kt : ClassId) (h0 : Heap) (n0 : Nat) (hn0 : n0 ≤ h0.size) (S_c : Sta Z Z.heap "java/lang/String" "COMPACT_STRINGS" "Z" (.int zc)) (hzc : ¬ zc = (0 : Int32)) (O0 : Old Z n0 h0) (P0 : Exa Z h0 a "java/lang/String") (P1 : Fld Z h0 a "java/lang/String" "value" "[B" (.ref t)) (P2 : Fld Z h0 a "java/lang/String" "coder" "B" (.int (0 : Int32))) (P3 : Arv Z h0 t kt .byte (0 : Int32) [] (.int 0)) :
    Con l Z (⟨"java/lang/String", "length", "()I"⟩ : MethodName) jdk_42_method_54_code 1 (some .int) [] ({ frames := 1, cells := 0, slots := 0, locals := 13 } : Room) #[(.ref a)] h0 (fun v h L => v = some (.int (0 : Int32)) ∧ Fr n0 L ∧ h = h0) := by
  refine enter (Ls := #[.val (.ref a)]) (plainFor_of_name pn_1) (fun m => by exact entry_eq rfl) ?_
  intro p e s m below meth cd_ s₁ S0 hx hby hml hret hlk hnm hown hZ X0 e0 k0
  have N0 := Fr.nil n0
  have k1 : To p.tables e below S0 (s₁.setTop (mkF m 1 #[.val (.ref a)] [(.ref a)])) := fun tt hq => k0 tt (by
    show Steps _ _ _ (s₁.setTop (mkF m 0 #[.val (.ref a)] [])) _
    refine XS.aloadN X0.here hx rfl (hb hby d_jdk_42_method_54_code_0) rfl rfl ?_
    show Steps _ _ _ (s₁.setTop (mkF m 1 #[.val (.ref a)] [(.ref a)])) _
    exact hq)
  obtain ⟨T2, X2, e2, st2⟩ := getF X0 hx hZ hown (host := "") (Or.inl (hw _ (List.mem_of_getElem? (i := 27) rfl))) Via.refl e0 P1 (g := (mkF m 1 #[.val (.ref a)] [(.ref a)])) rfl rfl (hb hby d_jdk_42_method_54_code_1)
  have k2 : To p.tables e below S0 (T2.setTop (mkF m 4 #[.val (.ref a)] [(.ref t)])) := fun tt hq => k1 tt (st2 tt hq)
  obtain ⟨cl3, Ar3, -, S3, M3, -, -⟩ := id P3
  have st3 := fun tt => X2.arraylength hx (by rw [e2]; exact Ar3.1) (State.isArrayOf_alike hZ.alike Ar3.2.1) (g := (mkF m 4 #[.val (.ref a)] [(.ref t)])) rfl rfl (hb hby d_jdk_42_method_54_code_4) tt
  rw [len_of S3 M3] at st3
  have k3 : To p.tables e below S0 (T2.setTop (mkF m 5 #[.val (.ref a)] [(.int (0 : Int32))])) := fun tt hq => k2 tt (st3 tt hq)
  have k4 : To p.tables e below S0 (T2.setTop (mkF m 6 #[.val (.ref a)] [(.ref a), (.int (0 : Int32))])) := fun tt hq => k3 tt (by
    show Steps _ _ _ (T2.setTop (mkF m 5 #[.val (.ref a)] [(.int (0 : Int32))])) _
    refine XS.aloadN X2.here hx rfl (hb hby d_jdk_42_method_54_code_5) rfl rfl ?_
    show Steps _ _ _ (T2.setTop (mkF m 6 #[.val (.ref a)] [(.ref a), (.int (0 : Int32))])) _
    exact hq)
  obtain ⟨_, T5, L5, X5, ⟨rfl, Nq5, eq5⟩, k5a⟩ := callV' X2 hx hZ (y := (⟨"java/lang/String", "coder", "()B"⟩ : MethodName)) (z := (⟨"java/lang/String", "coder", "()B"⟩ : MethodName)) hown (hw _ (List.mem_of_getElem? (i := 73) rfl)) (hw _ (List.mem_of_getElem? (i := 74) rfl)) (notFace_of_selects (args := #[]) (mvT hZ (hw _ (List.mem_of_getElem? (i := 76) rfl)))) (hw _ (List.mem_of_getElem? (i := 76) rfl)) (hw _ (List.mem_of_getElem? (i := 75) rfl)) (by decide) P0 (backC (W := 1) (rm_coder l Z a0 hw zc a h0 n0 (by omega) S_c hzc O0 P2) hZ (hw _ (List.mem_of_getElem? (i := 77) rfl)) (hw _ (List.mem_of_getElem? (i := 9) rfl)) (by decide) (by decide)) e2 (argsL := []) (rest := [(.int (0 : Int32))]) rfl rfl pd_7 rfl (by rw [hml]; rfl) (hb hby d_jdk_42_method_54_code_6) (Nat.le_of_eq rfl) (by decide) (by decide) k4
  have k5 : To p.tables e below S0 (T5.setTop (mkF m 9 #[.val (.ref a)] [(.int (0 : Int32)), (.int (0 : Int32))])) := k5a
  have N5 := N0.app Nq5
  have e5 : T5.heap = h0 := eq5
  have k6 : To p.tables e below S0 (T5.setTop (mkF m 10 #[.val (.ref a)] [(.int (0 : Int32))])) := fun tt hq => k5 tt (by
    show Steps _ _ _ (T5.setTop (mkF m 9 #[.val (.ref a)] [(.int (0 : Int32)), (.int (0 : Int32))])) _
    refine XS.ishr X5.here hx rfl (hb hby d_jdk_42_method_54_code_9) rfl ?_
    show Steps _ _ _ (T5.setTop (mkF m 10 #[.val (.ref a)] [(.int (0 : Int32))])) _
    exact hq)
  have hE := e5
  refine retInt X5 hx hret hlk (by simp) rfl (hb hby d_jdk_42_method_54_code_10) k6 ?_ (by decide) (by decide)
  try rw [hE]
  exact ⟨rfl, N5, rfl⟩
set_option maxRecDepth 65536 in
set_option maxHeartbeats 40000000 in
theorem rm_len1 (l : Launch) (Z : State) (a0 : Array Value) (hw : ∀ d ∈ tables_1, d.before a0 Z = true) (zc : Int32) (a : Addr) (t : Addr) (kt : ClassId) (c0 : Int32) (h0 : Heap) (n0 : Nat) (hn0 : n0 ≤ h0.size) (S_c : Sta Z Z.heap "java/lang/String" "COMPACT_STRINGS" "Z" (.int zc)) (hzc : ¬ zc = (0 : Int32)) (O0 : Old Z n0 h0) (P0 : Exa Z h0 a "java/lang/String") (P1 : Fld Z h0 a "java/lang/String" "value" "[B" (.ref t)) (P2 : Fld Z h0 a "java/lang/String" "coder" "B" (.int (0 : Int32))) (P3 : Arv Z h0 t kt .byte (1 : Int32) [(.int c0)] (.int 0)) :
    Con l Z (⟨"java/lang/String", "length", "()I"⟩ : MethodName) jdk_42_method_54_code 1 (some .int) [] ({ frames := 1, cells := 0, slots := 0, locals := 13 } : Room) #[(.ref a)] h0 (fun v h L => v = some (.int (1 : Int32)) ∧ Fr n0 L ∧ h = h0) := by
  refine enter (Ls := #[.val (.ref a)]) (plainFor_of_name pn_1) (fun m => by exact entry_eq rfl) ?_
  intro p e s m below meth cd_ s₁ S0 hx hby hml hret hlk hnm hown hZ X0 e0 k0
  have N0 := Fr.nil n0
  have k1 : To p.tables e below S0 (s₁.setTop (mkF m 1 #[.val (.ref a)] [(.ref a)])) := fun tt hq => k0 tt (by
    show Steps _ _ _ (s₁.setTop (mkF m 0 #[.val (.ref a)] [])) _
    refine XS.aloadN X0.here hx rfl (hb hby d_jdk_42_method_54_code_0) rfl rfl ?_
    show Steps _ _ _ (s₁.setTop (mkF m 1 #[.val (.ref a)] [(.ref a)])) _
    exact hq)
  obtain ⟨T2, X2, e2, st2⟩ := getF X0 hx hZ hown (host := "") (Or.inl (hw _ (List.mem_of_getElem? (i := 27) rfl))) Via.refl e0 P1 (g := (mkF m 1 #[.val (.ref a)] [(.ref a)])) rfl rfl (hb hby d_jdk_42_method_54_code_1)
  have k2 : To p.tables e below S0 (T2.setTop (mkF m 4 #[.val (.ref a)] [(.ref t)])) := fun tt hq => k1 tt (st2 tt hq)
  obtain ⟨cl3, Ar3, -, S3, M3, -, -⟩ := id P3
  have st3 := fun tt => X2.arraylength hx (by rw [e2]; exact Ar3.1) (State.isArrayOf_alike hZ.alike Ar3.2.1) (g := (mkF m 4 #[.val (.ref a)] [(.ref t)])) rfl rfl (hb hby d_jdk_42_method_54_code_4) tt
  rw [len_of S3 M3] at st3
  have k3 : To p.tables e below S0 (T2.setTop (mkF m 5 #[.val (.ref a)] [(.int (1 : Int32))])) := fun tt hq => k2 tt (st3 tt hq)
  have k4 : To p.tables e below S0 (T2.setTop (mkF m 6 #[.val (.ref a)] [(.ref a), (.int (1 : Int32))])) := fun tt hq => k3 tt (by
    show Steps _ _ _ (T2.setTop (mkF m 5 #[.val (.ref a)] [(.int (1 : Int32))])) _
    refine XS.aloadN X2.here hx rfl (hb hby d_jdk_42_method_54_code_5) rfl rfl ?_
    show Steps _ _ _ (T2.setTop (mkF m 6 #[.val (.ref a)] [(.ref a), (.int (1 : Int32))])) _
    exact hq)
  obtain ⟨_, T5, L5, X5, ⟨rfl, Nq5, eq5⟩, k5a⟩ := callV' X2 hx hZ (y := (⟨"java/lang/String", "coder", "()B"⟩ : MethodName)) (z := (⟨"java/lang/String", "coder", "()B"⟩ : MethodName)) hown (hw _ (List.mem_of_getElem? (i := 73) rfl)) (hw _ (List.mem_of_getElem? (i := 74) rfl)) (notFace_of_selects (args := #[]) (mvT hZ (hw _ (List.mem_of_getElem? (i := 76) rfl)))) (hw _ (List.mem_of_getElem? (i := 76) rfl)) (hw _ (List.mem_of_getElem? (i := 75) rfl)) (by decide) P0 (backC (W := 1) (rm_coder l Z a0 hw zc a h0 n0 (by omega) S_c hzc O0 P2) hZ (hw _ (List.mem_of_getElem? (i := 77) rfl)) (hw _ (List.mem_of_getElem? (i := 9) rfl)) (by decide) (by decide)) e2 (argsL := []) (rest := [(.int (1 : Int32))]) rfl rfl pd_7 rfl (by rw [hml]; rfl) (hb hby d_jdk_42_method_54_code_6) (Nat.le_of_eq rfl) (by decide) (by decide) k4
  have k5 : To p.tables e below S0 (T5.setTop (mkF m 9 #[.val (.ref a)] [(.int (0 : Int32)), (.int (1 : Int32))])) := k5a
  have N5 := N0.app Nq5
  have e5 : T5.heap = h0 := eq5
  have k6 : To p.tables e below S0 (T5.setTop (mkF m 10 #[.val (.ref a)] [(.int (1 : Int32))])) := fun tt hq => k5 tt (by
    show Steps _ _ _ (T5.setTop (mkF m 9 #[.val (.ref a)] [(.int (0 : Int32)), (.int (1 : Int32))])) _
    refine XS.ishr X5.here hx rfl (hb hby d_jdk_42_method_54_code_9) rfl ?_
    show Steps _ _ _ (T5.setTop (mkF m 10 #[.val (.ref a)] [(.int (1 : Int32))])) _
    exact hq)
  have hE := e5
  refine retInt X5 hx hret hlk (by simp) rfl (hb hby d_jdk_42_method_54_code_10) k6 ?_ (by decide) (by decide)
  try rw [hE]
  exact ⟨rfl, N5, rfl⟩
set_option maxRecDepth 65536 in
set_option maxHeartbeats 40000000 in
theorem rm_len2 (l : Launch) (Z : State) (a0 : Array Value) (hw : ∀ d ∈ tables_1, d.before a0 Z = true) (zc : Int32) (a : Addr) (t : Addr) (kt : ClassId) (c0 : Int32) (c1 : Int32) (h0 : Heap) (n0 : Nat) (hn0 : n0 ≤ h0.size) (S_c : Sta Z Z.heap "java/lang/String" "COMPACT_STRINGS" "Z" (.int zc)) (hzc : ¬ zc = (0 : Int32)) (O0 : Old Z n0 h0) (P0 : Exa Z h0 a "java/lang/String") (P1 : Fld Z h0 a "java/lang/String" "value" "[B" (.ref t)) (P2 : Fld Z h0 a "java/lang/String" "coder" "B" (.int (0 : Int32))) (P3 : Arv Z h0 t kt .byte (2 : Int32) [(.int c0), (.int c1)] (.int 0)) :
    Con l Z (⟨"java/lang/String", "length", "()I"⟩ : MethodName) jdk_42_method_54_code 1 (some .int) [] ({ frames := 1, cells := 0, slots := 0, locals := 13 } : Room) #[(.ref a)] h0 (fun v h L => v = some (.int (2 : Int32)) ∧ Fr n0 L ∧ h = h0) := by
  refine enter (Ls := #[.val (.ref a)]) (plainFor_of_name pn_1) (fun m => by exact entry_eq rfl) ?_
  intro p e s m below meth cd_ s₁ S0 hx hby hml hret hlk hnm hown hZ X0 e0 k0
  have N0 := Fr.nil n0
  have k1 : To p.tables e below S0 (s₁.setTop (mkF m 1 #[.val (.ref a)] [(.ref a)])) := fun tt hq => k0 tt (by
    show Steps _ _ _ (s₁.setTop (mkF m 0 #[.val (.ref a)] [])) _
    refine XS.aloadN X0.here hx rfl (hb hby d_jdk_42_method_54_code_0) rfl rfl ?_
    show Steps _ _ _ (s₁.setTop (mkF m 1 #[.val (.ref a)] [(.ref a)])) _
    exact hq)
  obtain ⟨T2, X2, e2, st2⟩ := getF X0 hx hZ hown (host := "") (Or.inl (hw _ (List.mem_of_getElem? (i := 27) rfl))) Via.refl e0 P1 (g := (mkF m 1 #[.val (.ref a)] [(.ref a)])) rfl rfl (hb hby d_jdk_42_method_54_code_1)
  have k2 : To p.tables e below S0 (T2.setTop (mkF m 4 #[.val (.ref a)] [(.ref t)])) := fun tt hq => k1 tt (st2 tt hq)
  obtain ⟨cl3, Ar3, -, S3, M3, -, -⟩ := id P3
  have st3 := fun tt => X2.arraylength hx (by rw [e2]; exact Ar3.1) (State.isArrayOf_alike hZ.alike Ar3.2.1) (g := (mkF m 4 #[.val (.ref a)] [(.ref t)])) rfl rfl (hb hby d_jdk_42_method_54_code_4) tt
  rw [len_of S3 M3] at st3
  have k3 : To p.tables e below S0 (T2.setTop (mkF m 5 #[.val (.ref a)] [(.int (2 : Int32))])) := fun tt hq => k2 tt (st3 tt hq)
  have k4 : To p.tables e below S0 (T2.setTop (mkF m 6 #[.val (.ref a)] [(.ref a), (.int (2 : Int32))])) := fun tt hq => k3 tt (by
    show Steps _ _ _ (T2.setTop (mkF m 5 #[.val (.ref a)] [(.int (2 : Int32))])) _
    refine XS.aloadN X2.here hx rfl (hb hby d_jdk_42_method_54_code_5) rfl rfl ?_
    show Steps _ _ _ (T2.setTop (mkF m 6 #[.val (.ref a)] [(.ref a), (.int (2 : Int32))])) _
    exact hq)
  obtain ⟨_, T5, L5, X5, ⟨rfl, Nq5, eq5⟩, k5a⟩ := callV' X2 hx hZ (y := (⟨"java/lang/String", "coder", "()B"⟩ : MethodName)) (z := (⟨"java/lang/String", "coder", "()B"⟩ : MethodName)) hown (hw _ (List.mem_of_getElem? (i := 73) rfl)) (hw _ (List.mem_of_getElem? (i := 74) rfl)) (notFace_of_selects (args := #[]) (mvT hZ (hw _ (List.mem_of_getElem? (i := 76) rfl)))) (hw _ (List.mem_of_getElem? (i := 76) rfl)) (hw _ (List.mem_of_getElem? (i := 75) rfl)) (by decide) P0 (backC (W := 1) (rm_coder l Z a0 hw zc a h0 n0 (by omega) S_c hzc O0 P2) hZ (hw _ (List.mem_of_getElem? (i := 77) rfl)) (hw _ (List.mem_of_getElem? (i := 9) rfl)) (by decide) (by decide)) e2 (argsL := []) (rest := [(.int (2 : Int32))]) rfl rfl pd_7 rfl (by rw [hml]; rfl) (hb hby d_jdk_42_method_54_code_6) (Nat.le_of_eq rfl) (by decide) (by decide) k4
  have k5 : To p.tables e below S0 (T5.setTop (mkF m 9 #[.val (.ref a)] [(.int (0 : Int32)), (.int (2 : Int32))])) := k5a
  have N5 := N0.app Nq5
  have e5 : T5.heap = h0 := eq5
  have k6 : To p.tables e below S0 (T5.setTop (mkF m 10 #[.val (.ref a)] [(.int (2 : Int32))])) := fun tt hq => k5 tt (by
    show Steps _ _ _ (T5.setTop (mkF m 9 #[.val (.ref a)] [(.int (0 : Int32)), (.int (2 : Int32))])) _
    refine XS.ishr X5.here hx rfl (hb hby d_jdk_42_method_54_code_9) rfl ?_
    show Steps _ _ _ (T5.setTop (mkF m 10 #[.val (.ref a)] [(.int (2 : Int32))])) _
    exact hq)
  have hE := e5
  refine retInt X5 hx hret hlk (by simp) rfl (hb hby d_jdk_42_method_54_code_10) k6 ?_ (by decide) (by decide)
  try rw [hE]
  exact ⟨rfl, N5, rfl⟩
set_option maxRecDepth 65536 in
set_option maxHeartbeats 40000000 in
theorem rm_len3 (l : Launch) (Z : State) (a0 : Array Value) (hw : ∀ d ∈ tables_1, d.before a0 Z = true) (zc : Int32) (a : Addr) (t : Addr) (kt : ClassId) (c0 : Int32) (c1 : Int32) (c2 : Int32) (h0 : Heap) (n0 : Nat) (hn0 : n0 ≤ h0.size) (S_c : Sta Z Z.heap "java/lang/String" "COMPACT_STRINGS" "Z" (.int zc)) (hzc : ¬ zc = (0 : Int32)) (O0 : Old Z n0 h0) (P0 : Exa Z h0 a "java/lang/String") (P1 : Fld Z h0 a "java/lang/String" "value" "[B" (.ref t)) (P2 : Fld Z h0 a "java/lang/String" "coder" "B" (.int (0 : Int32))) (P3 : Arv Z h0 t kt .byte (3 : Int32) [(.int c0), (.int c1), (.int c2)] (.int 0)) :
    Con l Z (⟨"java/lang/String", "length", "()I"⟩ : MethodName) jdk_42_method_54_code 1 (some .int) [] ({ frames := 1, cells := 0, slots := 0, locals := 13 } : Room) #[(.ref a)] h0 (fun v h L => v = some (.int (3 : Int32)) ∧ Fr n0 L ∧ h = h0) := by
  refine enter (Ls := #[.val (.ref a)]) (plainFor_of_name pn_1) (fun m => by exact entry_eq rfl) ?_
  intro p e s m below meth cd_ s₁ S0 hx hby hml hret hlk hnm hown hZ X0 e0 k0
  have N0 := Fr.nil n0
  have k1 : To p.tables e below S0 (s₁.setTop (mkF m 1 #[.val (.ref a)] [(.ref a)])) := fun tt hq => k0 tt (by
    show Steps _ _ _ (s₁.setTop (mkF m 0 #[.val (.ref a)] [])) _
    refine XS.aloadN X0.here hx rfl (hb hby d_jdk_42_method_54_code_0) rfl rfl ?_
    show Steps _ _ _ (s₁.setTop (mkF m 1 #[.val (.ref a)] [(.ref a)])) _
    exact hq)
  obtain ⟨T2, X2, e2, st2⟩ := getF X0 hx hZ hown (host := "") (Or.inl (hw _ (List.mem_of_getElem? (i := 27) rfl))) Via.refl e0 P1 (g := (mkF m 1 #[.val (.ref a)] [(.ref a)])) rfl rfl (hb hby d_jdk_42_method_54_code_1)
  have k2 : To p.tables e below S0 (T2.setTop (mkF m 4 #[.val (.ref a)] [(.ref t)])) := fun tt hq => k1 tt (st2 tt hq)
  obtain ⟨cl3, Ar3, -, S3, M3, -, -⟩ := id P3
  have st3 := fun tt => X2.arraylength hx (by rw [e2]; exact Ar3.1) (State.isArrayOf_alike hZ.alike Ar3.2.1) (g := (mkF m 4 #[.val (.ref a)] [(.ref t)])) rfl rfl (hb hby d_jdk_42_method_54_code_4) tt
  rw [len_of S3 M3] at st3
  have k3 : To p.tables e below S0 (T2.setTop (mkF m 5 #[.val (.ref a)] [(.int (3 : Int32))])) := fun tt hq => k2 tt (st3 tt hq)
  have k4 : To p.tables e below S0 (T2.setTop (mkF m 6 #[.val (.ref a)] [(.ref a), (.int (3 : Int32))])) := fun tt hq => k3 tt (by
    show Steps _ _ _ (T2.setTop (mkF m 5 #[.val (.ref a)] [(.int (3 : Int32))])) _
    refine XS.aloadN X2.here hx rfl (hb hby d_jdk_42_method_54_code_5) rfl rfl ?_
    show Steps _ _ _ (T2.setTop (mkF m 6 #[.val (.ref a)] [(.ref a), (.int (3 : Int32))])) _
    exact hq)
  obtain ⟨_, T5, L5, X5, ⟨rfl, Nq5, eq5⟩, k5a⟩ := callV' X2 hx hZ (y := (⟨"java/lang/String", "coder", "()B"⟩ : MethodName)) (z := (⟨"java/lang/String", "coder", "()B"⟩ : MethodName)) hown (hw _ (List.mem_of_getElem? (i := 73) rfl)) (hw _ (List.mem_of_getElem? (i := 74) rfl)) (notFace_of_selects (args := #[]) (mvT hZ (hw _ (List.mem_of_getElem? (i := 76) rfl)))) (hw _ (List.mem_of_getElem? (i := 76) rfl)) (hw _ (List.mem_of_getElem? (i := 75) rfl)) (by decide) P0 (backC (W := 1) (rm_coder l Z a0 hw zc a h0 n0 (by omega) S_c hzc O0 P2) hZ (hw _ (List.mem_of_getElem? (i := 77) rfl)) (hw _ (List.mem_of_getElem? (i := 9) rfl)) (by decide) (by decide)) e2 (argsL := []) (rest := [(.int (3 : Int32))]) rfl rfl pd_7 rfl (by rw [hml]; rfl) (hb hby d_jdk_42_method_54_code_6) (Nat.le_of_eq rfl) (by decide) (by decide) k4
  have k5 : To p.tables e below S0 (T5.setTop (mkF m 9 #[.val (.ref a)] [(.int (0 : Int32)), (.int (3 : Int32))])) := k5a
  have N5 := N0.app Nq5
  have e5 : T5.heap = h0 := eq5
  have k6 : To p.tables e below S0 (T5.setTop (mkF m 10 #[.val (.ref a)] [(.int (3 : Int32))])) := fun tt hq => k5 tt (by
    show Steps _ _ _ (T5.setTop (mkF m 9 #[.val (.ref a)] [(.int (0 : Int32)), (.int (3 : Int32))])) _
    refine XS.ishr X5.here hx rfl (hb hby d_jdk_42_method_54_code_9) rfl ?_
    show Steps _ _ _ (T5.setTop (mkF m 10 #[.val (.ref a)] [(.int (3 : Int32))])) _
    exact hq)
  have hE := e5
  refine retInt X5 hx hret hlk (by simp) rfl (hb hby d_jdk_42_method_54_code_10) k6 ?_ (by decide) (by decide)
  try rw [hE]
  exact ⟨rfl, N5, rfl⟩
theorem d_method_2_code_0 : decode method_2_code 0 = .ok (.iload_n 0, 1) := by decide +kernel
theorem d_method_2_code_1 : decode method_2_code 1 = .ok (.ifCond .ne 14, 3) := by decide +kernel
theorem d_method_2_code_4 : decode method_2_code 4 = .ok (.new 7, 3) := by decide +kernel
theorem d_method_2_code_7 : decode method_2_code 7 = .ok (.dup, 1) := by decide +kernel
theorem d_method_2_code_8 : decode method_2_code 8 = .ok (.iconst 0, 1) := by decide +kernel
theorem d_method_2_code_9 : decode method_2_code 9 = .ok (.newarray .char, 2) := by decide +kernel
theorem d_method_2_code_11 : decode method_2_code 11 = .ok (.invokespecial 9, 3) := by decide +kernel
theorem d_method_2_code_14 : decode method_2_code 14 = .ok (.areturn, 1) := by decide +kernel
theorem d_method_2_code_15 : decode method_2_code 15 = .ok (.iload_n 0, 1) := by decide +kernel
theorem d_method_2_code_16 : decode method_2_code 16 = .ok (.iconst 1, 1) := by decide +kernel
theorem d_method_2_code_17 : decode method_2_code 17 = .ok (.if_icmp .ne 8, 3) := by decide +kernel
theorem d_method_2_code_20 : decode method_2_code 20 = .ok (.iload_n 1, 1) := by decide +kernel
theorem d_method_2_code_21 : decode method_2_code 21 = .ok (.invokestatic 12, 3) := by decide +kernel
theorem d_method_2_code_24 : decode method_2_code 24 = .ok (.areturn, 1) := by decide +kernel
theorem d_method_2_code_25 : decode method_2_code 25 = .ok (.iload_n 0, 1) := by decide +kernel
theorem d_method_2_code_26 : decode method_2_code 26 = .ok (.iconst 2, 1) := by decide +kernel
theorem d_method_2_code_27 : decode method_2_code 27 = .ok (.if_icmp .ne 22, 3) := by decide +kernel
theorem d_method_2_code_30 : decode method_2_code 30 = .ok (.new 7, 3) := by decide +kernel
theorem d_method_2_code_33 : decode method_2_code 33 = .ok (.dup, 1) := by decide +kernel
theorem d_method_2_code_34 : decode method_2_code 34 = .ok (.iconst 2, 1) := by decide +kernel
theorem d_method_2_code_35 : decode method_2_code 35 = .ok (.newarray .char, 2) := by decide +kernel
theorem d_method_2_code_37 : decode method_2_code 37 = .ok (.dup, 1) := by decide +kernel
theorem d_method_2_code_38 : decode method_2_code 38 = .ok (.iconst 0, 1) := by decide +kernel
theorem d_method_2_code_39 : decode method_2_code 39 = .ok (.iload_n 1, 1) := by decide +kernel
theorem d_method_2_code_40 : decode method_2_code 40 = .ok (.castore, 1) := by decide +kernel
theorem d_method_2_code_41 : decode method_2_code 41 = .ok (.dup, 1) := by decide +kernel
theorem d_method_2_code_42 : decode method_2_code 42 = .ok (.iconst 1, 1) := by decide +kernel
theorem d_method_2_code_43 : decode method_2_code 43 = .ok (.iload_n 2, 1) := by decide +kernel
theorem d_method_2_code_44 : decode method_2_code 44 = .ok (.castore, 1) := by decide +kernel
theorem d_method_2_code_45 : decode method_2_code 45 = .ok (.invokespecial 9, 3) := by decide +kernel
theorem d_method_2_code_48 : decode method_2_code 48 = .ok (.areturn, 1) := by decide +kernel
theorem d_method_2_code_49 : decode method_2_code 49 = .ok (.new 7, 3) := by decide +kernel
theorem d_method_2_code_52 : decode method_2_code 52 = .ok (.dup, 1) := by decide +kernel
theorem d_method_2_code_53 : decode method_2_code 53 = .ok (.iconst 3, 1) := by decide +kernel
theorem d_method_2_code_54 : decode method_2_code 54 = .ok (.newarray .char, 2) := by decide +kernel
theorem d_method_2_code_56 : decode method_2_code 56 = .ok (.dup, 1) := by decide +kernel
theorem d_method_2_code_57 : decode method_2_code 57 = .ok (.iconst 0, 1) := by decide +kernel
theorem d_method_2_code_58 : decode method_2_code 58 = .ok (.iload_n 1, 1) := by decide +kernel
theorem d_method_2_code_59 : decode method_2_code 59 = .ok (.castore, 1) := by decide +kernel
theorem d_method_2_code_60 : decode method_2_code 60 = .ok (.dup, 1) := by decide +kernel
theorem d_method_2_code_61 : decode method_2_code 61 = .ok (.iconst 1, 1) := by decide +kernel
theorem d_method_2_code_62 : decode method_2_code 62 = .ok (.iload_n 2, 1) := by decide +kernel
theorem d_method_2_code_63 : decode method_2_code 63 = .ok (.castore, 1) := by decide +kernel
theorem d_method_2_code_64 : decode method_2_code 64 = .ok (.dup, 1) := by decide +kernel
theorem d_method_2_code_65 : decode method_2_code 65 = .ok (.iconst 2, 1) := by decide +kernel
theorem d_method_2_code_66 : decode method_2_code 66 = .ok (.iload_n 3, 1) := by decide +kernel
theorem d_method_2_code_67 : decode method_2_code 67 = .ok (.castore, 1) := by decide +kernel
theorem d_method_2_code_68 : decode method_2_code 68 = .ok (.invokespecial 9, 3) := by decide +kernel
theorem d_method_2_code_71 : decode method_2_code 71 = .ok (.areturn, 1) := by decide +kernel
theorem pn_3 : plainName "com/example/apportion/apportion/policy/JsonValueWrittenPinLaw" = true := by first | (simp [plainName, overriddenIn]; done) | decide +kernel
theorem pd_8 : parseMethodDescriptor "([C)V" = some ⟨[(.array .char)], none⟩ := by decide +kernel
set_option maxRecDepth 65536 in
set_option maxHeartbeats 40000000 in
theorem rm_dr0 (l : Launch) (Z : State) (a0 : Array Value) (hw : ∀ d ∈ tables_1, d.before a0 Z = true) (zc : Int32) (d0 : Int32) (d1 : Int32) (d2 : Int32) (h0 : Heap) (n0 : Nat) (hn0 : n0 ≤ h0.size) (S_c : Sta Z Z.heap "java/lang/String" "COMPACT_STRINGS" "Z" (.int zc)) (hzc : ¬ zc = (0 : Int32)) (O0 : Old Z n0 h0) (hd0 : ¬ d0 < (0 : Int32) ∧ ¬ (255 : Int32) < d0) (hd1 : ¬ d1 < (0 : Int32) ∧ ¬ (255 : Int32) < d1) (hd2 : ¬ d2 < (0 : Int32) ∧ ¬ (255 : Int32) < d2) :
    ConW l Z own_EL (⟨"com/example/apportion/apportion/policy/JsonValueWrittenPinLaw", "drawn", "(ICCC)Ljava/lang/String;"⟩ : MethodName) method_2_code 4 (some (.object "java/lang/String")) [] ({ frames := 3, cells := 6, slots := 12, locals := 43 } : Room) #[(.int (0 : Int32)), (.int d0), (.int d1), (.int d2)] h0 [] (fun v h L => ∃ (a t : Addr) (k : ClassId), v = some (.ref a) ∧ Fr n0 L ∧ h0.size ≤ a ∧ (@LT.lt Nat instLTNat t h.size) ∧ Keep h0 h [] ∧ Exa Z h a "java/lang/String" ∧ Fld Z h a "java/lang/String" "value" "[B" (.ref t) ∧ Fld Z h a "java/lang/String" "coder" "B" (.int (0 : Int32)) ∧ Arv Z h t k .byte (0 : Int32) [] (.int 0)) := by
  refine enterW (Ls := #[.val (.int (0 : Int32)), .val (.int d0), .val (.int d1), .val (.int d2)]) (plainFor_of_name pn_3) (fun m => by exact entry_eq rfl) ?_
  intro p e s m below meth cd_ s₁ S0 vm0 hx hby hml hret hlk hnm hown hZ X0 e0 k0 C0 hsf hS0
  have N0 := Fr.nil n0
  have k1 : To p.tables e below S0 (s₁.setTop (mkF m 4 #[.val (.int (0 : Int32)), .val (.int d0), .val (.int d1), .val (.int d2)] [])) := fun tt hq => k0 tt (by
    show Steps _ _ _ (s₁.setTop (mkF m 0 #[.val (.int (0 : Int32)), .val (.int d0), .val (.int d1), .val (.int d2)] [])) _
    refine XS.iloadN X0.here hx rfl (hb hby d_method_2_code_0) rfl ?_
    show Steps _ _ _ (s₁.setTop (mkF m 1 #[.val (.int (0 : Int32)), .val (.int d0), .val (.int d1), .val (.int d2)] [(.int (0 : Int32))])) _
    refine XS.ifNo X0.here hx rfl (hb hby d_method_2_code_1) rfl ((if0 _ _).trans (teq (by decide)).2) ?_
    show Steps _ _ _ (s₁.setTop (mkF m 4 #[.val (.int (0 : Int32)), .val (.int d0), .val (.int d1), .val (.int d2)] [])) _
    exact hq)
  obtain ⟨T2, h2, X2, e2, E2, A2, D2, -, st2⟩ := newO X0 hx hZ hown (hw _ (List.mem_of_getElem? (i := 7) rfl)) (hw _ (List.mem_of_getElem? (i := 8) rfl)) (hw _ (List.mem_of_getElem? (i := 9) rfl)) e0 (g := (mkF m 4 #[.val (.int (0 : Int32)), .val (.int d0), .val (.int d1), .val (.int d2)] [])) rfl (hb hby d_method_2_code_4) (by decide) (by decide)
  obtain ⟨b2, g2⟩ : ∃ z, z = h0.size := ⟨_, rfl⟩
  rw [← g2] at A2 D2 st2
  have k2 : To p.tables e below S0 (T2.setTop (mkF m 7 #[.val (.int (0 : Int32)), .val (.int d0), .val (.int d1), .val (.int d2)] [(.ref b2)])) := fun tt hq => k1 tt (st2 tt hq)
  have z2 : h0.size ≤ h2.size := E2.1
  have y2 : @LT.lt Nat instLTNat b2 h2.size := A2.lt
  have C2 := C0.trans (CHr.ext E2 C0.1)
  have Sf2 : Safe Z own_EL vm0 h2 b2 := Safe.ext E2 C0.1 (Safe.new (by omega))
  have F2_value : Fld Z h2 b2 "java/lang/String" "value" "[B" .null := D2 (Or.inr (hw _ (List.mem_of_getElem? (i := 23) rfl))) (ty := (.array .byte)) (by decide)
  have F2_coder : Fld Z h2 b2 "java/lang/String" "coder" "B" (.int (0 : Int32)) := D2 (Or.inr (hw _ (List.mem_of_getElem? (i := 24) rfl))) (ty := .byte) (by decide)
  have k3 : To p.tables e below S0 (T2.setTop (mkF m 9 #[.val (.int (0 : Int32)), .val (.int d0), .val (.int d1), .val (.int d2)] [(.int (0 : Int32)), (.ref b2), (.ref b2)])) := fun tt hq => k2 tt (by
    show Steps _ _ _ (T2.setTop (mkF m 7 #[.val (.int (0 : Int32)), .val (.int d0), .val (.int d1), .val (.int d2)] [(.ref b2)])) _
    refine XS.dup X2.here hx rfl (hb hby d_method_2_code_7) rfl rfl ?_
    show Steps _ _ _ (T2.setTop (mkF m 8 #[.val (.int (0 : Int32)), .val (.int d0), .val (.int d1), .val (.int d2)] [(.ref b2), (.ref b2)])) _
    refine XS.iconst X2.here hx rfl (hb hby d_method_2_code_8) ?_
    show Steps _ _ _ (T2.setTop (mkF m 9 #[.val (.int (0 : Int32)), .val (.int d0), .val (.int d1), .val (.int d2)] [(.int (0 : Int32)), (.ref b2), (.ref b2)])) _
    exact hq)
  obtain ⟨T4, h4, c4, X4, e4, E4, A4, st4⟩ := newP X2 hx hZ (hw _ (List.mem_of_getElem? (i := 10) rfl)) e2 (g := (mkF m 9 #[.val (.int (0 : Int32)), .val (.int d0), .val (.int d1), .val (.int d2)] [(.int (0 : Int32)), (.ref b2), (.ref b2)])) rfl (hb hby d_method_2_code_9) rfl (by decide) (cap := 0) (by decide) (by decide) (by decide) (by decide)
  obtain ⟨b4, g4⟩ : ∃ z, z = h2.size := ⟨_, rfl⟩
  rw [← g4] at A4 st4
  have k4 : To p.tables e below S0 (T4.setTop (mkF m 11 #[.val (.int (0 : Int32)), .val (.int d0), .val (.int d1), .val (.int d2)] [(.ref b4), (.ref b2), (.ref b2)])) := fun tt hq => k3 tt (st4 tt hq)
  have z4 : h2.size ≤ h4.size := E4.1
  have C4 := C2.trans (CHr.ext E4 C2.1)
  have V4 : Arv Z h4 b4 c4 .char (0 : Int32) [] (.int (0 : Int32)) := (Arv.new A4 (by decide)).pad (pad_rep [] (.int (0 : Int32)) 0)
  have y4 : @LT.lt Nat instLTNat b4 h4.size := V4.lt
  have f5 : Exa Z h4 b2 "java/lang/String" := (A2.ext E4)
  have f6 : Fld Z h4 b2 "java/lang/String" "value" "[B" .null := (F2_value.ext E4)
  have f7 : Fld Z h4 b2 "java/lang/String" "coder" "B" (.int (0 : Int32)) := (F2_coder.ext E4)
  have f9 : Safe Z own_EL vm0 h4 b2 := (Safe.ext E4 C2.1 Sf2)
  obtain ⟨_, T8, L8, X8, ⟨rfl, Nq8, Kq8, t8, kt8, gt8, P80, P81, P82, P83⟩, k8a, Cq8, hS8, hZ8, hown8⟩ := callCW X4 hx hZ (y := (⟨"java/lang/String", "<init>", "([C)V"⟩ : MethodName)) rfl hown hS0 (by omega) (hw _ (List.mem_of_getElem? (i := 11) rfl)) (hw _ (List.mem_of_getElem? (i := 12) rfl)) (hw _ (List.mem_of_getElem? (i := 13) rfl)) (by decide) (backOfW (W := 1) (rm_n1_0 l Z a0 hw b2 b4 c4 .null (.int (0 : Int32)) h4 n0 (by omega) f5 f6 f7 V4 (by omega) (by omega)) hZ (hw _ (List.mem_of_getElem? (i := 13) rfl)) (hw _ (List.mem_of_getElem? (i := 9) rfl)) (by decide) (by decide) (own_EW hw) C4.1 (allS ⟨adr_lt (by omega), f9⟩ all0)) e4 (argsL := [(.ref b4)]) (rest := [(.ref b2)]) rfl rfl pd_8 rfl (by rw [hml]; rfl) (hb hby d_method_2_code_11) (Nat.le_of_eq rfl) (by decide) (by decide) k4
  have k8 : To p.tables e below S0 (T8.setTop (mkF m 14 #[.val (.int (0 : Int32)), .val (.int d0), .val (.int d1), .val (.int d2)] [(.ref b2)])) := k8a
  have N8 := N0.app Nq8
  obtain ⟨h8, e8⟩ : ∃ z, T8.heap = z := ⟨_, rfl⟩
  rw [e8] at Kq8 gt8 P80 P81 P82 P83 Cq8 hS8
  have z8 : h4.size ≤ h8.size := Kq8.1
  have C8 := C4.trans Cq8
  refine retRefW X8 hx hZ8 (own_EW hw) hS8 (by omega) C8 e8 hret hlk rfl rfl (hb hby d_method_2_code_14) k8 ?_ (by decide) (by decide)
  exact ⟨b2, t8, kt8, rfl, N8, (by omega), P83.lt, ((((Keep.refl h0 []).ext E2).ext E4).trans Kq8 (allS (Or.inr (by omega)) all0)), P80, P81, P82, P83⟩
theorem pd_9 : parseMethodDescriptor "(C)Ljava/lang/String;" = some ⟨[.char], some (.object "java/lang/String")⟩ := by decide +kernel
set_option maxRecDepth 65536 in
set_option maxHeartbeats 40000000 in
theorem rm_dr1 (l : Launch) (Z : State) (a0 : Array Value) (hw : ∀ d ∈ tables_1, d.before a0 Z = true) (zc : Int32) (d0 : Int32) (d1 : Int32) (d2 : Int32) (h0 : Heap) (n0 : Nat) (hn0 : n0 ≤ h0.size) (S_c : Sta Z Z.heap "java/lang/String" "COMPACT_STRINGS" "Z" (.int zc)) (hzc : ¬ zc = (0 : Int32)) (O0 : Old Z n0 h0) (hd0 : ¬ d0 < (0 : Int32) ∧ ¬ (255 : Int32) < d0) (hd1 : ¬ d1 < (0 : Int32) ∧ ¬ (255 : Int32) < d1) (hd2 : ¬ d2 < (0 : Int32) ∧ ¬ (255 : Int32) < d2) :
    Con l Z (⟨"com/example/apportion/apportion/policy/JsonValueWrittenPinLaw", "drawn", "(ICCC)Ljava/lang/String;"⟩ : MethodName) method_2_code 4 (some (.object "java/lang/String")) [] ({ frames := 3, cells := 2, slots := 5, locals := 39 } : Room) #[(.int (1 : Int32)), (.int d0), (.int d1), (.int d2)] h0 (fun v h L => ∃ (a t : Addr) (k : ClassId), v = some (.ref a) ∧ Fr n0 L ∧ h0.size ≤ a ∧ (@LT.lt Nat instLTNat t h.size) ∧ Keep h0 h [] ∧ Exa Z h a "java/lang/String" ∧ Fld Z h a "java/lang/String" "value" "[B" (.ref t) ∧ Fld Z h a "java/lang/String" "coder" "B" (.int (0 : Int32)) ∧ Arv Z h t k .byte (1 : Int32) [(.int (nar .byte (d0.toInt8.toInt32)))] (.int 0)) := by
  refine enter (Ls := #[.val (.int (1 : Int32)), .val (.int d0), .val (.int d1), .val (.int d2)]) (plainFor_of_name pn_3) (fun m => by exact entry_eq rfl) ?_
  intro p e s m below meth cd_ s₁ S0 hx hby hml hret hlk hnm hown hZ X0 e0 k0
  have N0 := Fr.nil n0
  have k1 : To p.tables e below S0 (s₁.setTop (mkF m 21 #[.val (.int (1 : Int32)), .val (.int d0), .val (.int d1), .val (.int d2)] [(.int d0)])) := fun tt hq => k0 tt (by
    show Steps _ _ _ (s₁.setTop (mkF m 0 #[.val (.int (1 : Int32)), .val (.int d0), .val (.int d1), .val (.int d2)] [])) _
    refine XS.iloadN X0.here hx rfl (hb hby d_method_2_code_0) rfl ?_
    show Steps _ _ _ (s₁.setTop (mkF m 1 #[.val (.int (1 : Int32)), .val (.int d0), .val (.int d1), .val (.int d2)] [(.int (1 : Int32))])) _
    refine XS.ifYes X0.here hx rfl (pc0 := 1) (pc' := 15) rfl (hb hby d_method_2_code_1) rfl ((if0 _ _).trans (feq (by decide)).2) (by decide) (by decide) ?_
    show Steps _ _ _ (s₁.setTop (mkF m 15 #[.val (.int (1 : Int32)), .val (.int d0), .val (.int d1), .val (.int d2)] [])) _
    refine XS.iloadN X0.here hx rfl (hb hby d_method_2_code_15) rfl ?_
    show Steps _ _ _ (s₁.setTop (mkF m 16 #[.val (.int (1 : Int32)), .val (.int d0), .val (.int d1), .val (.int d2)] [(.int (1 : Int32))])) _
    refine XS.iconst X0.here hx rfl (hb hby d_method_2_code_16) ?_
    show Steps _ _ _ (s₁.setTop (mkF m 17 #[.val (.int (1 : Int32)), .val (.int d0), .val (.int d1), .val (.int d2)] [(.int (1 : Int32)), (.int (1 : Int32))])) _
    refine XS.icmpNo X0.here hx rfl (hb hby d_method_2_code_17) rfl (teq (by decide)).2 ?_
    show Steps _ _ _ (s₁.setTop (mkF m 20 #[.val (.int (1 : Int32)), .val (.int d0), .val (.int d1), .val (.int d2)] [])) _
    refine XS.iloadN X0.here hx rfl (hb hby d_method_2_code_20) rfl ?_
    show Steps _ _ _ (s₁.setTop (mkF m 21 #[.val (.int (1 : Int32)), .val (.int d0), .val (.int d1), .val (.int d2)] [(.int d0)])) _
    exact hq)
  obtain ⟨_, T2, L2, X2, ⟨a2, t2, k2x, rfl, Nq2, ga2, gt2, Kq2, P20, P21, P22, P23⟩, k2a⟩ := callS' X0 hx hZ (y := (⟨"java/lang/String", "valueOf", "(C)Ljava/lang/String;"⟩ : MethodName)) hown (hw _ (List.mem_of_getElem? (i := 130) rfl)) (hw _ (List.mem_of_getElem? (i := 131) rfl)) (hw _ (List.mem_of_getElem? (i := 9) rfl)) (hw _ (List.mem_of_getElem? (i := 132) rfl)) (by decide) (backC (W := 0) (rm_vof l Z a0 hw zc d0 h0 n0 (by omega) S_c hzc O0 hd0.2) hZ (hw _ (List.mem_of_getElem? (i := 132) rfl)) (hw _ (List.mem_of_getElem? (i := 9) rfl)) (by decide) (by decide)) e0 (argsL := [(.int d0)]) (rest := []) rfl rfl pd_9 rfl (by rw [hml]; rfl) (hb hby d_method_2_code_21) (Nat.le_of_eq rfl) (by decide) (by decide) k1
  have k2 : To p.tables e below S0 (T2.setTop (mkF m 24 #[.val (.int (1 : Int32)), .val (.int d0), .val (.int d1), .val (.int d2)] [(.ref a2)])) := k2a
  have N2 := N0.app Nq2
  obtain ⟨h2, e2⟩ : ∃ z, T2.heap = z := ⟨_, rfl⟩
  rw [e2] at Kq2 P20 P21 P22 P23
  have z2 : h0.size ≤ h2.size := Kq2.1
  have ya2 : @LT.lt Nat instLTNat a2 h2.size := P20.lt
  have yt2 : @LT.lt Nat instLTNat t2 h2.size := P23.lt
  have hE := e2
  refine retRef X2 hx hret hlk rfl rfl (hb hby d_method_2_code_24) k2 ?_ (by decide) (by decide)
  try rw [hE]
  exact ⟨a2, t2, k2x, rfl, N2, (by omega), P23.lt, ((Keep.refl h0 []).trans Kq2 all0), P20, P21, P22, P23⟩
set_option maxRecDepth 65536 in
set_option maxHeartbeats 40000000 in
theorem rm_dr2 (l : Launch) (Z : State) (a0 : Array Value) (hw : ∀ d ∈ tables_1, d.before a0 Z = true) (zc : Int32) (d0 : Int32) (d1 : Int32) (d2 : Int32) (h0 : Heap) (n0 : Nat) (hn0 : n0 ≤ h0.size) (S_c : Sta Z Z.heap "java/lang/String" "COMPACT_STRINGS" "Z" (.int zc)) (hzc : ¬ zc = (0 : Int32)) (O0 : Old Z n0 h0) (hd0 : ¬ d0 < (0 : Int32) ∧ ¬ (255 : Int32) < d0) (hd1 : ¬ d1 < (0 : Int32) ∧ ¬ (255 : Int32) < d1) (hd2 : ¬ d2 < (0 : Int32) ∧ ¬ (255 : Int32) < d2) :
    Con l Z (⟨"com/example/apportion/apportion/policy/JsonValueWrittenPinLaw", "drawn", "(ICCC)Ljava/lang/String;"⟩ : MethodName) method_2_code 4 (some (.object "java/lang/String")) [] ({ frames := 4, cells := 3, slots := 8, locals := 66 } : Room) #[(.int (2 : Int32)), (.int d0), (.int d1), (.int d2)] h0 (fun v h L => ∃ (a t : Addr) (k : ClassId), v = some (.ref a) ∧ Fr n0 L ∧ h0.size ≤ a ∧ (@LT.lt Nat instLTNat t h.size) ∧ Keep h0 h [] ∧ Exa Z h a "java/lang/String" ∧ Fld Z h a "java/lang/String" "value" "[B" (.ref t) ∧ Fld Z h a "java/lang/String" "coder" "B" (.int (0 : Int32)) ∧ Arv Z h t k .byte (2 : Int32) [(.int (nar .byte (d0.toInt8.toInt32))), (.int (nar .byte (d1.toInt8.toInt32)))] (.int 0)) := by
  refine enter (Ls := #[.val (.int (2 : Int32)), .val (.int d0), .val (.int d1), .val (.int d2)]) (plainFor_of_name pn_3) (fun m => by exact entry_eq rfl) ?_
  intro p e s m below meth cd_ s₁ S0 hx hby hml hret hlk hnm hown hZ X0 e0 k0
  have N0 := Fr.nil n0
  have k1 : To p.tables e below S0 (s₁.setTop (mkF m 30 #[.val (.int (2 : Int32)), .val (.int d0), .val (.int d1), .val (.int d2)] [])) := fun tt hq => k0 tt (by
    show Steps _ _ _ (s₁.setTop (mkF m 0 #[.val (.int (2 : Int32)), .val (.int d0), .val (.int d1), .val (.int d2)] [])) _
    refine XS.iloadN X0.here hx rfl (hb hby d_method_2_code_0) rfl ?_
    show Steps _ _ _ (s₁.setTop (mkF m 1 #[.val (.int (2 : Int32)), .val (.int d0), .val (.int d1), .val (.int d2)] [(.int (2 : Int32))])) _
    refine XS.ifYes X0.here hx rfl (pc0 := 1) (pc' := 15) rfl (hb hby d_method_2_code_1) rfl ((if0 _ _).trans (feq (by decide)).2) (by decide) (by decide) ?_
    show Steps _ _ _ (s₁.setTop (mkF m 15 #[.val (.int (2 : Int32)), .val (.int d0), .val (.int d1), .val (.int d2)] [])) _
    refine XS.iloadN X0.here hx rfl (hb hby d_method_2_code_15) rfl ?_
    show Steps _ _ _ (s₁.setTop (mkF m 16 #[.val (.int (2 : Int32)), .val (.int d0), .val (.int d1), .val (.int d2)] [(.int (2 : Int32))])) _
    refine XS.iconst X0.here hx rfl (hb hby d_method_2_code_16) ?_
    show Steps _ _ _ (s₁.setTop (mkF m 17 #[.val (.int (2 : Int32)), .val (.int d0), .val (.int d1), .val (.int d2)] [(.int (1 : Int32)), (.int (2 : Int32))])) _
    refine XS.icmpYes X0.here hx rfl (pc0 := 17) (pc' := 25) rfl (hb hby d_method_2_code_17) rfl (feq (by decide)).2 (by decide) (by decide) ?_
    show Steps _ _ _ (s₁.setTop (mkF m 25 #[.val (.int (2 : Int32)), .val (.int d0), .val (.int d1), .val (.int d2)] [])) _
    refine XS.iloadN X0.here hx rfl (hb hby d_method_2_code_25) rfl ?_
    show Steps _ _ _ (s₁.setTop (mkF m 26 #[.val (.int (2 : Int32)), .val (.int d0), .val (.int d1), .val (.int d2)] [(.int (2 : Int32))])) _
    refine XS.iconst X0.here hx rfl (hb hby d_method_2_code_26) ?_
    show Steps _ _ _ (s₁.setTop (mkF m 27 #[.val (.int (2 : Int32)), .val (.int d0), .val (.int d1), .val (.int d2)] [(.int (2 : Int32)), (.int (2 : Int32))])) _
    refine XS.icmpNo X0.here hx rfl (hb hby d_method_2_code_27) rfl (teq (by decide)).2 ?_
    show Steps _ _ _ (s₁.setTop (mkF m 30 #[.val (.int (2 : Int32)), .val (.int d0), .val (.int d1), .val (.int d2)] [])) _
    exact hq)
  obtain ⟨T2, h2, X2, e2, E2, A2, D2, -, st2⟩ := newO X0 hx hZ hown (hw _ (List.mem_of_getElem? (i := 7) rfl)) (hw _ (List.mem_of_getElem? (i := 8) rfl)) (hw _ (List.mem_of_getElem? (i := 9) rfl)) e0 (g := (mkF m 30 #[.val (.int (2 : Int32)), .val (.int d0), .val (.int d1), .val (.int d2)] [])) rfl (hb hby d_method_2_code_30) (by decide) (by decide)
  obtain ⟨b2, g2⟩ : ∃ z, z = h0.size := ⟨_, rfl⟩
  rw [← g2] at A2 D2 st2
  have k2 : To p.tables e below S0 (T2.setTop (mkF m 33 #[.val (.int (2 : Int32)), .val (.int d0), .val (.int d1), .val (.int d2)] [(.ref b2)])) := fun tt hq => k1 tt (st2 tt hq)
  have z2 : h0.size ≤ h2.size := E2.1
  have y2 : @LT.lt Nat instLTNat b2 h2.size := A2.lt
  have F2_value : Fld Z h2 b2 "java/lang/String" "value" "[B" .null := D2 (Or.inr (hw _ (List.mem_of_getElem? (i := 23) rfl))) (ty := (.array .byte)) (by decide)
  have F2_coder : Fld Z h2 b2 "java/lang/String" "coder" "B" (.int (0 : Int32)) := D2 (Or.inr (hw _ (List.mem_of_getElem? (i := 24) rfl))) (ty := .byte) (by decide)
  have k3 : To p.tables e below S0 (T2.setTop (mkF m 35 #[.val (.int (2 : Int32)), .val (.int d0), .val (.int d1), .val (.int d2)] [(.int (2 : Int32)), (.ref b2), (.ref b2)])) := fun tt hq => k2 tt (by
    show Steps _ _ _ (T2.setTop (mkF m 33 #[.val (.int (2 : Int32)), .val (.int d0), .val (.int d1), .val (.int d2)] [(.ref b2)])) _
    refine XS.dup X2.here hx rfl (hb hby d_method_2_code_33) rfl rfl ?_
    show Steps _ _ _ (T2.setTop (mkF m 34 #[.val (.int (2 : Int32)), .val (.int d0), .val (.int d1), .val (.int d2)] [(.ref b2), (.ref b2)])) _
    refine XS.iconst X2.here hx rfl (hb hby d_method_2_code_34) ?_
    show Steps _ _ _ (T2.setTop (mkF m 35 #[.val (.int (2 : Int32)), .val (.int d0), .val (.int d1), .val (.int d2)] [(.int (2 : Int32)), (.ref b2), (.ref b2)])) _
    exact hq)
  obtain ⟨T4, h4, c4, X4, e4, E4, A4, st4⟩ := newP X2 hx hZ (hw _ (List.mem_of_getElem? (i := 10) rfl)) e2 (g := (mkF m 35 #[.val (.int (2 : Int32)), .val (.int d0), .val (.int d1), .val (.int d2)] [(.int (2 : Int32)), (.ref b2), (.ref b2)])) rfl (hb hby d_method_2_code_35) rfl (by decide) (cap := 2) (by decide) (by decide) (by decide) (by decide)
  obtain ⟨b4, g4⟩ : ∃ z, z = h2.size := ⟨_, rfl⟩
  rw [← g4] at A4 st4
  have k4 : To p.tables e below S0 (T4.setTop (mkF m 37 #[.val (.int (2 : Int32)), .val (.int d0), .val (.int d1), .val (.int d2)] [(.ref b4), (.ref b2), (.ref b2)])) := fun tt hq => k3 tt (st4 tt hq)
  have z4 : h2.size ≤ h4.size := E4.1
  have V4 : Arv Z h4 b4 c4 .char (2 : Int32) [(.int (0 : Int32)), (.int (0 : Int32))] (.int (0 : Int32)) := (Arv.new A4 (by decide)).pad (pad_rep [] (.int (0 : Int32)) 2)
  have y4 : @LT.lt Nat instLTNat b4 h4.size := V4.lt
  have k5 : To p.tables e below S0 (T4.setTop (mkF m 40 #[.val (.int (2 : Int32)), .val (.int d0), .val (.int d1), .val (.int d2)] [(.int d0), (.int (0 : Int32)), (.ref b4), (.ref b4), (.ref b2), (.ref b2)])) := fun tt hq => k4 tt (by
    show Steps _ _ _ (T4.setTop (mkF m 37 #[.val (.int (2 : Int32)), .val (.int d0), .val (.int d1), .val (.int d2)] [(.ref b4), (.ref b2), (.ref b2)])) _
    refine XS.dup X4.here hx rfl (hb hby d_method_2_code_37) rfl rfl ?_
    show Steps _ _ _ (T4.setTop (mkF m 38 #[.val (.int (2 : Int32)), .val (.int d0), .val (.int d1), .val (.int d2)] [(.ref b4), (.ref b4), (.ref b2), (.ref b2)])) _
    refine XS.iconst X4.here hx rfl (hb hby d_method_2_code_38) ?_
    show Steps _ _ _ (T4.setTop (mkF m 39 #[.val (.int (2 : Int32)), .val (.int d0), .val (.int d1), .val (.int d2)] [(.int (0 : Int32)), (.ref b4), (.ref b4), (.ref b2), (.ref b2)])) _
    refine XS.iloadN X4.here hx rfl (hb hby d_method_2_code_39) rfl ?_
    show Steps _ _ _ (T4.setTop (mkF m 40 #[.val (.int (2 : Int32)), .val (.int d0), .val (.int d1), .val (.int d2)] [(.int d0), (.int (0 : Int32)), (.ref b4), (.ref b4), (.ref b2), (.ref b2)])) _
    exact hq)
  obtain ⟨cl6, Ar6, q6, S6, M6, G6, J6⟩ := id V4
  obtain ⟨T6, h6, X6, e6, W6, st6⟩ := stC X4 hx hZ e4 Ar6 (j := (0 : Int32)) (inb_of S6 ⟨by decide, by decide⟩) (g := (mkF m 40 #[.val (.int (2 : Int32)), .val (.int d0), .val (.int d1), .val (.int d2)] [(.int d0), (.int (0 : Int32)), (.ref b4), (.ref b4), (.ref b2), (.ref b2)])) rfl rfl (hb hby d_method_2_code_40)
  have k6 : To p.tables e below S0 (T6.setTop (mkF m 41 #[.val (.int (2 : Int32)), .val (.int d0), .val (.int d1), .val (.int d2)] [(.ref b4), (.ref b2), (.ref b2)])) := fun tt hq => k5 tt (st6 tt hq)
  have z6 : h6.size = h4.size := W6.size
  rw [own_narc hd0] at W6
  have V6 : Arv Z h6 b4 c4 .char (2 : Int32) [(.int d0), (.int (0 : Int32))] (.int (0 : Int32)) := Arv.set Ar6 q6 S6 M6 G6 J6 (own_fitc hd0) W6 0 rfl (Nat.le_of_ble_eq_true rfl)
  have N6 := Fr.snoc X6 N0 (by omega : n0 ≤ b4)
  have k7 : To p.tables e below S0 (T6.setTop (mkF m 44 #[.val (.int (2 : Int32)), .val (.int d0), .val (.int d1), .val (.int d2)] [(.int d1), (.int (1 : Int32)), (.ref b4), (.ref b4), (.ref b2), (.ref b2)])) := fun tt hq => k6 tt (by
    show Steps _ _ _ (T6.setTop (mkF m 41 #[.val (.int (2 : Int32)), .val (.int d0), .val (.int d1), .val (.int d2)] [(.ref b4), (.ref b2), (.ref b2)])) _
    refine XS.dup X6.here hx rfl (hb hby d_method_2_code_41) rfl rfl ?_
    show Steps _ _ _ (T6.setTop (mkF m 42 #[.val (.int (2 : Int32)), .val (.int d0), .val (.int d1), .val (.int d2)] [(.ref b4), (.ref b4), (.ref b2), (.ref b2)])) _
    refine XS.iconst X6.here hx rfl (hb hby d_method_2_code_42) ?_
    show Steps _ _ _ (T6.setTop (mkF m 43 #[.val (.int (2 : Int32)), .val (.int d0), .val (.int d1), .val (.int d2)] [(.int (1 : Int32)), (.ref b4), (.ref b4), (.ref b2), (.ref b2)])) _
    refine XS.iloadN X6.here hx rfl (hb hby d_method_2_code_43) rfl ?_
    show Steps _ _ _ (T6.setTop (mkF m 44 #[.val (.int (2 : Int32)), .val (.int d0), .val (.int d1), .val (.int d2)] [(.int d1), (.int (1 : Int32)), (.ref b4), (.ref b4), (.ref b2), (.ref b2)])) _
    exact hq)
  obtain ⟨cl8, Ar8, q8, S8, M8, G8, J8⟩ := id V6
  obtain ⟨T8, h8, X8, e8, W8, st8⟩ := stC X6 hx hZ e6 Ar8 (j := (1 : Int32)) (inb_of S8 ⟨by decide, by decide⟩) (g := (mkF m 44 #[.val (.int (2 : Int32)), .val (.int d0), .val (.int d1), .val (.int d2)] [(.int d1), (.int (1 : Int32)), (.ref b4), (.ref b4), (.ref b2), (.ref b2)])) rfl rfl (hb hby d_method_2_code_44)
  have k8 : To p.tables e below S0 (T8.setTop (mkF m 45 #[.val (.int (2 : Int32)), .val (.int d0), .val (.int d1), .val (.int d2)] [(.ref b4), (.ref b2), (.ref b2)])) := fun tt hq => k7 tt (st8 tt hq)
  have z8 : h8.size = h6.size := W8.size
  rw [own_narc hd1] at W8
  have V8 : Arv Z h8 b4 c4 .char (2 : Int32) [(.int d0), (.int d1)] (.int (0 : Int32)) := Arv.set Ar8 q8 S8 M8 G8 J8 (own_fitc hd1) W8 1 rfl (Nat.le_of_ble_eq_true rfl)
  have N8 := Fr.snoc X8 N6 (by omega : n0 ≤ b4)
  have f9 : Old Z n0 h8 := ((((O0.ext E2).ext E4).wr W6 (by omega)).wr W8 (by omega))
  have f10 : Exa Z h8 b2 "java/lang/String" := (((A2.ext E4).wr W6).wr W8)
  have f11 : Fld Z h8 b2 "java/lang/String" "value" "[B" .null := (((F2_value.ext E4).other W6 (Or.inl (adr_ne (by omega)))).other W8 (Or.inl (adr_ne (by omega))))
  have f12 : Fld Z h8 b2 "java/lang/String" "coder" "B" (.int (0 : Int32)) := (((F2_coder.ext E4).other W6 (Or.inl (adr_ne (by omega)))).other W8 (Or.inl (adr_ne (by omega))))
  obtain ⟨_, T13, L13, X13, ⟨rfl, Nq13, Kq13, t13, kt13, gt13, P130, P131, P132, P133⟩, k13a⟩ := callC' X8 hx hZ (y := (⟨"java/lang/String", "<init>", "([C)V"⟩ : MethodName)) rfl hown (hw _ (List.mem_of_getElem? (i := 11) rfl)) (hw _ (List.mem_of_getElem? (i := 12) rfl)) (hw _ (List.mem_of_getElem? (i := 13) rfl)) (by decide) (backC (W := 1) (rm_n1_2 l Z a0 hw zc b2 b4 c4 .null (.int (0 : Int32)) d0 d1 h8 n0 (by omega) S_c hzc f9 f10 f11 f12 V8 (by omega) (by omega) (by omega) (by omega) hd0 hd1) hZ (hw _ (List.mem_of_getElem? (i := 13) rfl)) (hw _ (List.mem_of_getElem? (i := 9) rfl)) (by decide) (by decide)) e8 (argsL := [(.ref b4)]) (rest := [(.ref b2)]) rfl rfl pd_8 rfl (by rw [hml]; rfl) (hb hby d_method_2_code_45) (Nat.le_of_eq rfl) (by decide) (by decide) k8
  have k13 : To p.tables e below S0 (T13.setTop (mkF m 48 #[.val (.int (2 : Int32)), .val (.int d0), .val (.int d1), .val (.int d2)] [(.ref b2)])) := k13a
  have N13 := N8.app Nq13
  obtain ⟨h13, e13⟩ : ∃ z, T13.heap = z := ⟨_, rfl⟩
  rw [e13] at Kq13 P130 P131 P132 P133
  have z13 : h8.size ≤ h13.size := Kq13.1
  have y13 : @LT.lt Nat instLTNat t13 h13.size := P133.lt
  have hE := e13
  refine retRef X13 hx hret hlk rfl rfl (hb hby d_method_2_code_48) k13 ?_ (by decide) (by decide)
  try rw [hE]
  exact ⟨b2, t13, kt13, rfl, N13, (by omega), P133.lt, ((((((Keep.refl h0 []).ext E2).ext E4).wr W6 (Or.inr (by omega))).wr W8 (Or.inr (by omega))).trans Kq13 (allS (Or.inr (by omega)) all0)), P130, P131, P132, P133⟩
set_option maxRecDepth 65536 in
set_option maxHeartbeats 40000000 in
theorem rm_dr3 (l : Launch) (Z : State) (a0 : Array Value) (hw : ∀ d ∈ tables_1, d.before a0 Z = true) (zc : Int32) (d0 : Int32) (d1 : Int32) (d2 : Int32) (h0 : Heap) (n0 : Nat) (hn0 : n0 ≤ h0.size) (S_c : Sta Z Z.heap "java/lang/String" "COMPACT_STRINGS" "Z" (.int zc)) (hzc : ¬ zc = (0 : Int32)) (O0 : Old Z n0 h0) (hd0 : ¬ d0 < (0 : Int32) ∧ ¬ (255 : Int32) < d0) (hd1 : ¬ d1 < (0 : Int32) ∧ ¬ (255 : Int32) < d1) (hd2 : ¬ d2 < (0 : Int32) ∧ ¬ (255 : Int32) < d2) :
    Con l Z (⟨"com/example/apportion/apportion/policy/JsonValueWrittenPinLaw", "drawn", "(ICCC)Ljava/lang/String;"⟩ : MethodName) method_2_code 4 (some (.object "java/lang/String")) [] ({ frames := 4, cells := 3, slots := 10, locals := 66 } : Room) #[(.int (3 : Int32)), (.int d0), (.int d1), (.int d2)] h0 (fun v h L => ∃ (a t : Addr) (k : ClassId), v = some (.ref a) ∧ Fr n0 L ∧ h0.size ≤ a ∧ (@LT.lt Nat instLTNat t h.size) ∧ Keep h0 h [] ∧ Exa Z h a "java/lang/String" ∧ Fld Z h a "java/lang/String" "value" "[B" (.ref t) ∧ Fld Z h a "java/lang/String" "coder" "B" (.int (0 : Int32)) ∧ Arv Z h t k .byte (3 : Int32) [(.int (nar .byte (d0.toInt8.toInt32))), (.int (nar .byte (d1.toInt8.toInt32))), (.int (nar .byte (d2.toInt8.toInt32)))] (.int 0)) := by
  refine enter (Ls := #[.val (.int (3 : Int32)), .val (.int d0), .val (.int d1), .val (.int d2)]) (plainFor_of_name pn_3) (fun m => by exact entry_eq rfl) ?_
  intro p e s m below meth cd_ s₁ S0 hx hby hml hret hlk hnm hown hZ X0 e0 k0
  have N0 := Fr.nil n0
  have k1 : To p.tables e below S0 (s₁.setTop (mkF m 49 #[.val (.int (3 : Int32)), .val (.int d0), .val (.int d1), .val (.int d2)] [])) := fun tt hq => k0 tt (by
    show Steps _ _ _ (s₁.setTop (mkF m 0 #[.val (.int (3 : Int32)), .val (.int d0), .val (.int d1), .val (.int d2)] [])) _
    refine XS.iloadN X0.here hx rfl (hb hby d_method_2_code_0) rfl ?_
    show Steps _ _ _ (s₁.setTop (mkF m 1 #[.val (.int (3 : Int32)), .val (.int d0), .val (.int d1), .val (.int d2)] [(.int (3 : Int32))])) _
    refine XS.ifYes X0.here hx rfl (pc0 := 1) (pc' := 15) rfl (hb hby d_method_2_code_1) rfl ((if0 _ _).trans (feq (by decide)).2) (by decide) (by decide) ?_
    show Steps _ _ _ (s₁.setTop (mkF m 15 #[.val (.int (3 : Int32)), .val (.int d0), .val (.int d1), .val (.int d2)] [])) _
    refine XS.iloadN X0.here hx rfl (hb hby d_method_2_code_15) rfl ?_
    show Steps _ _ _ (s₁.setTop (mkF m 16 #[.val (.int (3 : Int32)), .val (.int d0), .val (.int d1), .val (.int d2)] [(.int (3 : Int32))])) _
    refine XS.iconst X0.here hx rfl (hb hby d_method_2_code_16) ?_
    show Steps _ _ _ (s₁.setTop (mkF m 17 #[.val (.int (3 : Int32)), .val (.int d0), .val (.int d1), .val (.int d2)] [(.int (1 : Int32)), (.int (3 : Int32))])) _
    refine XS.icmpYes X0.here hx rfl (pc0 := 17) (pc' := 25) rfl (hb hby d_method_2_code_17) rfl (feq (by decide)).2 (by decide) (by decide) ?_
    show Steps _ _ _ (s₁.setTop (mkF m 25 #[.val (.int (3 : Int32)), .val (.int d0), .val (.int d1), .val (.int d2)] [])) _
    refine XS.iloadN X0.here hx rfl (hb hby d_method_2_code_25) rfl ?_
    show Steps _ _ _ (s₁.setTop (mkF m 26 #[.val (.int (3 : Int32)), .val (.int d0), .val (.int d1), .val (.int d2)] [(.int (3 : Int32))])) _
    refine XS.iconst X0.here hx rfl (hb hby d_method_2_code_26) ?_
    show Steps _ _ _ (s₁.setTop (mkF m 27 #[.val (.int (3 : Int32)), .val (.int d0), .val (.int d1), .val (.int d2)] [(.int (2 : Int32)), (.int (3 : Int32))])) _
    refine XS.icmpYes X0.here hx rfl (pc0 := 27) (pc' := 49) rfl (hb hby d_method_2_code_27) rfl (feq (by decide)).2 (by decide) (by decide) ?_
    show Steps _ _ _ (s₁.setTop (mkF m 49 #[.val (.int (3 : Int32)), .val (.int d0), .val (.int d1), .val (.int d2)] [])) _
    exact hq)
  obtain ⟨T2, h2, X2, e2, E2, A2, D2, -, st2⟩ := newO X0 hx hZ hown (hw _ (List.mem_of_getElem? (i := 7) rfl)) (hw _ (List.mem_of_getElem? (i := 8) rfl)) (hw _ (List.mem_of_getElem? (i := 9) rfl)) e0 (g := (mkF m 49 #[.val (.int (3 : Int32)), .val (.int d0), .val (.int d1), .val (.int d2)] [])) rfl (hb hby d_method_2_code_49) (by decide) (by decide)
  obtain ⟨b2, g2⟩ : ∃ z, z = h0.size := ⟨_, rfl⟩
  rw [← g2] at A2 D2 st2
  have k2 : To p.tables e below S0 (T2.setTop (mkF m 52 #[.val (.int (3 : Int32)), .val (.int d0), .val (.int d1), .val (.int d2)] [(.ref b2)])) := fun tt hq => k1 tt (st2 tt hq)
  have z2 : h0.size ≤ h2.size := E2.1
  have y2 : @LT.lt Nat instLTNat b2 h2.size := A2.lt
  have F2_value : Fld Z h2 b2 "java/lang/String" "value" "[B" .null := D2 (Or.inr (hw _ (List.mem_of_getElem? (i := 23) rfl))) (ty := (.array .byte)) (by decide)
  have F2_coder : Fld Z h2 b2 "java/lang/String" "coder" "B" (.int (0 : Int32)) := D2 (Or.inr (hw _ (List.mem_of_getElem? (i := 24) rfl))) (ty := .byte) (by decide)
  have k3 : To p.tables e below S0 (T2.setTop (mkF m 54 #[.val (.int (3 : Int32)), .val (.int d0), .val (.int d1), .val (.int d2)] [(.int (3 : Int32)), (.ref b2), (.ref b2)])) := fun tt hq => k2 tt (by
    show Steps _ _ _ (T2.setTop (mkF m 52 #[.val (.int (3 : Int32)), .val (.int d0), .val (.int d1), .val (.int d2)] [(.ref b2)])) _
    refine XS.dup X2.here hx rfl (hb hby d_method_2_code_52) rfl rfl ?_
    show Steps _ _ _ (T2.setTop (mkF m 53 #[.val (.int (3 : Int32)), .val (.int d0), .val (.int d1), .val (.int d2)] [(.ref b2), (.ref b2)])) _
    refine XS.iconst X2.here hx rfl (hb hby d_method_2_code_53) ?_
    show Steps _ _ _ (T2.setTop (mkF m 54 #[.val (.int (3 : Int32)), .val (.int d0), .val (.int d1), .val (.int d2)] [(.int (3 : Int32)), (.ref b2), (.ref b2)])) _
    exact hq)
  obtain ⟨T4, h4, c4, X4, e4, E4, A4, st4⟩ := newP X2 hx hZ (hw _ (List.mem_of_getElem? (i := 10) rfl)) e2 (g := (mkF m 54 #[.val (.int (3 : Int32)), .val (.int d0), .val (.int d1), .val (.int d2)] [(.int (3 : Int32)), (.ref b2), (.ref b2)])) rfl (hb hby d_method_2_code_54) rfl (by decide) (cap := 3) (by decide) (by decide) (by decide) (by decide)
  obtain ⟨b4, g4⟩ : ∃ z, z = h2.size := ⟨_, rfl⟩
  rw [← g4] at A4 st4
  have k4 : To p.tables e below S0 (T4.setTop (mkF m 56 #[.val (.int (3 : Int32)), .val (.int d0), .val (.int d1), .val (.int d2)] [(.ref b4), (.ref b2), (.ref b2)])) := fun tt hq => k3 tt (st4 tt hq)
  have z4 : h2.size ≤ h4.size := E4.1
  have V4 : Arv Z h4 b4 c4 .char (3 : Int32) [(.int (0 : Int32)), (.int (0 : Int32)), (.int (0 : Int32))] (.int (0 : Int32)) := (Arv.new A4 (by decide)).pad (pad_rep [] (.int (0 : Int32)) 3)
  have y4 : @LT.lt Nat instLTNat b4 h4.size := V4.lt
  have k5 : To p.tables e below S0 (T4.setTop (mkF m 59 #[.val (.int (3 : Int32)), .val (.int d0), .val (.int d1), .val (.int d2)] [(.int d0), (.int (0 : Int32)), (.ref b4), (.ref b4), (.ref b2), (.ref b2)])) := fun tt hq => k4 tt (by
    show Steps _ _ _ (T4.setTop (mkF m 56 #[.val (.int (3 : Int32)), .val (.int d0), .val (.int d1), .val (.int d2)] [(.ref b4), (.ref b2), (.ref b2)])) _
    refine XS.dup X4.here hx rfl (hb hby d_method_2_code_56) rfl rfl ?_
    show Steps _ _ _ (T4.setTop (mkF m 57 #[.val (.int (3 : Int32)), .val (.int d0), .val (.int d1), .val (.int d2)] [(.ref b4), (.ref b4), (.ref b2), (.ref b2)])) _
    refine XS.iconst X4.here hx rfl (hb hby d_method_2_code_57) ?_
    show Steps _ _ _ (T4.setTop (mkF m 58 #[.val (.int (3 : Int32)), .val (.int d0), .val (.int d1), .val (.int d2)] [(.int (0 : Int32)), (.ref b4), (.ref b4), (.ref b2), (.ref b2)])) _
    refine XS.iloadN X4.here hx rfl (hb hby d_method_2_code_58) rfl ?_
    show Steps _ _ _ (T4.setTop (mkF m 59 #[.val (.int (3 : Int32)), .val (.int d0), .val (.int d1), .val (.int d2)] [(.int d0), (.int (0 : Int32)), (.ref b4), (.ref b4), (.ref b2), (.ref b2)])) _
    exact hq)
  obtain ⟨cl6, Ar6, q6, S6, M6, G6, J6⟩ := id V4
  obtain ⟨T6, h6, X6, e6, W6, st6⟩ := stC X4 hx hZ e4 Ar6 (j := (0 : Int32)) (inb_of S6 ⟨by decide, by decide⟩) (g := (mkF m 59 #[.val (.int (3 : Int32)), .val (.int d0), .val (.int d1), .val (.int d2)] [(.int d0), (.int (0 : Int32)), (.ref b4), (.ref b4), (.ref b2), (.ref b2)])) rfl rfl (hb hby d_method_2_code_59)
  have k6 : To p.tables e below S0 (T6.setTop (mkF m 60 #[.val (.int (3 : Int32)), .val (.int d0), .val (.int d1), .val (.int d2)] [(.ref b4), (.ref b2), (.ref b2)])) := fun tt hq => k5 tt (st6 tt hq)
  have z6 : h6.size = h4.size := W6.size
  rw [own_narc hd0] at W6
  have V6 : Arv Z h6 b4 c4 .char (3 : Int32) [(.int d0), (.int (0 : Int32)), (.int (0 : Int32))] (.int (0 : Int32)) := Arv.set Ar6 q6 S6 M6 G6 J6 (own_fitc hd0) W6 0 rfl (Nat.le_of_ble_eq_true rfl)
  have N6 := Fr.snoc X6 N0 (by omega : n0 ≤ b4)
  have k7 : To p.tables e below S0 (T6.setTop (mkF m 63 #[.val (.int (3 : Int32)), .val (.int d0), .val (.int d1), .val (.int d2)] [(.int d1), (.int (1 : Int32)), (.ref b4), (.ref b4), (.ref b2), (.ref b2)])) := fun tt hq => k6 tt (by
    show Steps _ _ _ (T6.setTop (mkF m 60 #[.val (.int (3 : Int32)), .val (.int d0), .val (.int d1), .val (.int d2)] [(.ref b4), (.ref b2), (.ref b2)])) _
    refine XS.dup X6.here hx rfl (hb hby d_method_2_code_60) rfl rfl ?_
    show Steps _ _ _ (T6.setTop (mkF m 61 #[.val (.int (3 : Int32)), .val (.int d0), .val (.int d1), .val (.int d2)] [(.ref b4), (.ref b4), (.ref b2), (.ref b2)])) _
    refine XS.iconst X6.here hx rfl (hb hby d_method_2_code_61) ?_
    show Steps _ _ _ (T6.setTop (mkF m 62 #[.val (.int (3 : Int32)), .val (.int d0), .val (.int d1), .val (.int d2)] [(.int (1 : Int32)), (.ref b4), (.ref b4), (.ref b2), (.ref b2)])) _
    refine XS.iloadN X6.here hx rfl (hb hby d_method_2_code_62) rfl ?_
    show Steps _ _ _ (T6.setTop (mkF m 63 #[.val (.int (3 : Int32)), .val (.int d0), .val (.int d1), .val (.int d2)] [(.int d1), (.int (1 : Int32)), (.ref b4), (.ref b4), (.ref b2), (.ref b2)])) _
    exact hq)
  obtain ⟨cl8, Ar8, q8, S8, M8, G8, J8⟩ := id V6
  obtain ⟨T8, h8, X8, e8, W8, st8⟩ := stC X6 hx hZ e6 Ar8 (j := (1 : Int32)) (inb_of S8 ⟨by decide, by decide⟩) (g := (mkF m 63 #[.val (.int (3 : Int32)), .val (.int d0), .val (.int d1), .val (.int d2)] [(.int d1), (.int (1 : Int32)), (.ref b4), (.ref b4), (.ref b2), (.ref b2)])) rfl rfl (hb hby d_method_2_code_63)
  have k8 : To p.tables e below S0 (T8.setTop (mkF m 64 #[.val (.int (3 : Int32)), .val (.int d0), .val (.int d1), .val (.int d2)] [(.ref b4), (.ref b2), (.ref b2)])) := fun tt hq => k7 tt (st8 tt hq)
  have z8 : h8.size = h6.size := W8.size
  rw [own_narc hd1] at W8
  have V8 : Arv Z h8 b4 c4 .char (3 : Int32) [(.int d0), (.int d1), (.int (0 : Int32))] (.int (0 : Int32)) := Arv.set Ar8 q8 S8 M8 G8 J8 (own_fitc hd1) W8 1 rfl (Nat.le_of_ble_eq_true rfl)
  have N8 := Fr.snoc X8 N6 (by omega : n0 ≤ b4)
  have k9 : To p.tables e below S0 (T8.setTop (mkF m 67 #[.val (.int (3 : Int32)), .val (.int d0), .val (.int d1), .val (.int d2)] [(.int d2), (.int (2 : Int32)), (.ref b4), (.ref b4), (.ref b2), (.ref b2)])) := fun tt hq => k8 tt (by
    show Steps _ _ _ (T8.setTop (mkF m 64 #[.val (.int (3 : Int32)), .val (.int d0), .val (.int d1), .val (.int d2)] [(.ref b4), (.ref b2), (.ref b2)])) _
    refine XS.dup X8.here hx rfl (hb hby d_method_2_code_64) rfl rfl ?_
    show Steps _ _ _ (T8.setTop (mkF m 65 #[.val (.int (3 : Int32)), .val (.int d0), .val (.int d1), .val (.int d2)] [(.ref b4), (.ref b4), (.ref b2), (.ref b2)])) _
    refine XS.iconst X8.here hx rfl (hb hby d_method_2_code_65) ?_
    show Steps _ _ _ (T8.setTop (mkF m 66 #[.val (.int (3 : Int32)), .val (.int d0), .val (.int d1), .val (.int d2)] [(.int (2 : Int32)), (.ref b4), (.ref b4), (.ref b2), (.ref b2)])) _
    refine XS.iloadN X8.here hx rfl (hb hby d_method_2_code_66) rfl ?_
    show Steps _ _ _ (T8.setTop (mkF m 67 #[.val (.int (3 : Int32)), .val (.int d0), .val (.int d1), .val (.int d2)] [(.int d2), (.int (2 : Int32)), (.ref b4), (.ref b4), (.ref b2), (.ref b2)])) _
    exact hq)
  obtain ⟨cl10, Ar10, q10, S10, M10, G10, J10⟩ := id V8
  obtain ⟨T10, h10, X10, e10, W10, st10⟩ := stC X8 hx hZ e8 Ar10 (j := (2 : Int32)) (inb_of S10 ⟨by decide, by decide⟩) (g := (mkF m 67 #[.val (.int (3 : Int32)), .val (.int d0), .val (.int d1), .val (.int d2)] [(.int d2), (.int (2 : Int32)), (.ref b4), (.ref b4), (.ref b2), (.ref b2)])) rfl rfl (hb hby d_method_2_code_67)
  have k10 : To p.tables e below S0 (T10.setTop (mkF m 68 #[.val (.int (3 : Int32)), .val (.int d0), .val (.int d1), .val (.int d2)] [(.ref b4), (.ref b2), (.ref b2)])) := fun tt hq => k9 tt (st10 tt hq)
  have z10 : h10.size = h8.size := W10.size
  rw [own_narc hd2] at W10
  have V10 : Arv Z h10 b4 c4 .char (3 : Int32) [(.int d0), (.int d1), (.int d2)] (.int (0 : Int32)) := Arv.set Ar10 q10 S10 M10 G10 J10 (own_fitc hd2) W10 2 rfl (Nat.le_of_ble_eq_true rfl)
  have N10 := Fr.snoc X10 N8 (by omega : n0 ≤ b4)
  have f11 : Old Z n0 h10 := (((((O0.ext E2).ext E4).wr W6 (by omega)).wr W8 (by omega)).wr W10 (by omega))
  have f12 : Exa Z h10 b2 "java/lang/String" := ((((A2.ext E4).wr W6).wr W8).wr W10)
  have f13 : Fld Z h10 b2 "java/lang/String" "value" "[B" .null := ((((F2_value.ext E4).other W6 (Or.inl (adr_ne (by omega)))).other W8 (Or.inl (adr_ne (by omega)))).other W10 (Or.inl (adr_ne (by omega))))
  have f14 : Fld Z h10 b2 "java/lang/String" "coder" "B" (.int (0 : Int32)) := ((((F2_coder.ext E4).other W6 (Or.inl (adr_ne (by omega)))).other W8 (Or.inl (adr_ne (by omega)))).other W10 (Or.inl (adr_ne (by omega))))
  obtain ⟨_, T15, L15, X15, ⟨rfl, Nq15, Kq15, t15, kt15, gt15, P150, P151, P152, P153⟩, k15a⟩ := callC' X10 hx hZ (y := (⟨"java/lang/String", "<init>", "([C)V"⟩ : MethodName)) rfl hown (hw _ (List.mem_of_getElem? (i := 11) rfl)) (hw _ (List.mem_of_getElem? (i := 12) rfl)) (hw _ (List.mem_of_getElem? (i := 13) rfl)) (by decide) (backC (W := 1) (rm_n1_3 l Z a0 hw zc b2 b4 c4 .null (.int (0 : Int32)) d0 d1 d2 h10 n0 (by omega) S_c hzc f11 f12 f13 f14 V10 (by omega) (by omega) (by omega) (by omega) hd0 hd1 hd2) hZ (hw _ (List.mem_of_getElem? (i := 13) rfl)) (hw _ (List.mem_of_getElem? (i := 9) rfl)) (by decide) (by decide)) e10 (argsL := [(.ref b4)]) (rest := [(.ref b2)]) rfl rfl pd_8 rfl (by rw [hml]; rfl) (hb hby d_method_2_code_68) (Nat.le_of_eq rfl) (by decide) (by decide) k10
  have k15 : To p.tables e below S0 (T15.setTop (mkF m 71 #[.val (.int (3 : Int32)), .val (.int d0), .val (.int d1), .val (.int d2)] [(.ref b2)])) := k15a
  have N15 := N10.app Nq15
  obtain ⟨h15, e15⟩ : ∃ z, T15.heap = z := ⟨_, rfl⟩
  rw [e15] at Kq15 P150 P151 P152 P153
  have z15 : h10.size ≤ h15.size := Kq15.1
  have y15 : @LT.lt Nat instLTNat t15 h15.size := P153.lt
  have hE := e15
  refine retRef X15 hx hret hlk rfl rfl (hb hby d_method_2_code_71) k15 ?_ (by decide) (by decide)
  try rw [hE]
  exact ⟨b2, t15, kt15, rfl, N15, (by omega), P153.lt, (((((((Keep.refl h0 []).ext E2).ext E4).wr W6 (Or.inr (by omega))).wr W8 (Or.inr (by omega))).wr W10 (Or.inr (by omega))).trans Kq15 (allS (Or.inr (by omega)) all0)), P150, P151, P152, P153⟩
theorem d_jdk_40_method_36_code_0 : decode jdk_40_method_36_code 0 = .ok (.getstatic 90, 3) := by decide +kernel
theorem d_jdk_40_method_36_code_3 : decode jdk_40_method_36_code 3 = .ok (.areturn, 1) := by decide +kernel
theorem pn_4 : plainName "java/util/List" = true := by first | (simp [plainName, overriddenIn]; done) | decide +kernel
set_option maxRecDepth 65536 in
set_option maxHeartbeats 40000000 in
theorem rmlist (l : Launch) (Z : State) (a0 : Array Value) (hw : ∀ d ∈ tables_1, d.before a0 Z = true) (zc : Int32) (qN : Addr) (qT : Addr) (qL : Addr) (qM : Addr) (h0 : Heap) (n0 : Nat) (hn0 : n0 ≤ h0.size) (S_c : Sta Z Z.heap "java/lang/String" "COMPACT_STRINGS" "Z" (.int zc)) (hzc : ¬ zc = (0 : Int32)) (S_NUMBER : Sta Z Z.heap "com/example/apportion/apportion/policy/JsonValue$Kind" "NUMBER" "Lcom/example/apportion/apportion/policy/JsonValue$Kind;" (.ref qN)) (S_TEXT : Sta Z Z.heap "com/example/apportion/apportion/policy/JsonValue$Kind" "TEXT" "Lcom/example/apportion/apportion/policy/JsonValue$Kind;" (.ref qT)) (S_EMPTY_LIST : Sta Z Z.heap "java/util/ImmutableCollections" "EMPTY_LIST" "Ljava/util/ImmutableCollections$ListN;" (.ref qL)) (S_EMPTY_MAP : Sta Z Z.heap "java/util/ImmutableCollections" "EMPTY_MAP" "Ljava/util/ImmutableCollections$MapN;" (.ref qM)) (O0 : Old Z n0 h0) :
    Con l Z (⟨"java/util/List", "of", "()Ljava/util/List;"⟩ : MethodName) jdk_40_method_36_code 0 (some (.object "java/util/List")) [] ({ frames := 0, cells := 0, slots := 0, locals := 0 } : Room) #[] h0 (fun v h L => v = some (.ref qL) ∧ Fr n0 L ∧ h = h0) := by
  refine enter (Ls := #[]) (plainFor_of_name pn_4) (fun m => by exact entry_eq rfl) ?_
  intro p e s m below meth cd_ s₁ S0 hx hby hml hret hlk hnm hown hZ X0 e0 k0
  have N0 := Fr.nil n0
  obtain ⟨T1, X1, e1, st1⟩ := getS2 X0 hx hZ hown (host := "") (Or.inl (hw _ (List.mem_of_getElem? (i := 39) rfl))) Via.refl e0 (staOld S_EMPTY_LIST O0) (g := (mkF m 0 #[] [])) rfl (hb hby d_jdk_40_method_36_code_0)
  have k1 : To p.tables e below S0 (T1.setTop (mkF m 3 #[] [(.ref qL)])) := fun tt hq => k0 tt (st1 tt hq)
  have hE := e1
  refine retRef X1 hx hret hlk rfl rfl (hb hby d_jdk_40_method_36_code_3) k1 ?_ (by decide) (by decide)
  try rw [hE]
  exact ⟨rfl, N0, rfl⟩
theorem d_jdk_72_method_26_code_0 : decode jdk_72_method_26_code 0 = .ok (.getstatic 81, 3) := by decide +kernel
theorem d_jdk_72_method_26_code_3 : decode jdk_72_method_26_code 3 = .ok (.areturn, 1) := by decide +kernel
theorem pn_5 : plainName "java/util/Map" = true := by first | (simp [plainName, overriddenIn]; done) | decide +kernel
set_option maxRecDepth 65536 in
set_option maxHeartbeats 40000000 in
theorem rmmap (l : Launch) (Z : State) (a0 : Array Value) (hw : ∀ d ∈ tables_1, d.before a0 Z = true) (zc : Int32) (qN : Addr) (qT : Addr) (qL : Addr) (qM : Addr) (h0 : Heap) (n0 : Nat) (hn0 : n0 ≤ h0.size) (S_c : Sta Z Z.heap "java/lang/String" "COMPACT_STRINGS" "Z" (.int zc)) (hzc : ¬ zc = (0 : Int32)) (S_NUMBER : Sta Z Z.heap "com/example/apportion/apportion/policy/JsonValue$Kind" "NUMBER" "Lcom/example/apportion/apportion/policy/JsonValue$Kind;" (.ref qN)) (S_TEXT : Sta Z Z.heap "com/example/apportion/apportion/policy/JsonValue$Kind" "TEXT" "Lcom/example/apportion/apportion/policy/JsonValue$Kind;" (.ref qT)) (S_EMPTY_LIST : Sta Z Z.heap "java/util/ImmutableCollections" "EMPTY_LIST" "Ljava/util/ImmutableCollections$ListN;" (.ref qL)) (S_EMPTY_MAP : Sta Z Z.heap "java/util/ImmutableCollections" "EMPTY_MAP" "Ljava/util/ImmutableCollections$MapN;" (.ref qM)) (O0 : Old Z n0 h0) :
    Con l Z (⟨"java/util/Map", "of", "()Ljava/util/Map;"⟩ : MethodName) jdk_72_method_26_code 0 (some (.object "java/util/Map")) [] ({ frames := 0, cells := 0, slots := 0, locals := 0 } : Room) #[] h0 (fun v h L => v = some (.ref qM) ∧ Fr n0 L ∧ h = h0) := by
  refine enter (Ls := #[]) (plainFor_of_name pn_5) (fun m => by exact entry_eq rfl) ?_
  intro p e s m below meth cd_ s₁ S0 hx hby hml hret hlk hnm hown hZ X0 e0 k0
  have N0 := Fr.nil n0
  obtain ⟨T1, X1, e1, st1⟩ := getS2 X0 hx hZ hown (host := "") (Or.inl (hw _ (List.mem_of_getElem? (i := 45) rfl))) Via.refl e0 (staOld S_EMPTY_MAP O0) (g := (mkF m 0 #[] [])) rfl (hb hby d_jdk_72_method_26_code_0)
  have k1 : To p.tables e below S0 (T1.setTop (mkF m 3 #[] [(.ref qM)])) := fun tt hq => k0 tt (st1 tt hq)
  have hE := e1
  refine retRef X1 hx hret hlk rfl rfl (hb hby d_jdk_72_method_26_code_3) k1 ?_ (by decide) (by decide)
  try rw [hE]
  exact ⟨rfl, N0, rfl⟩
theorem d_prog_62_method_1_code_0 : decode prog_62_method_1_code 0 = .ok (.aload_n 0, 1) := by decide +kernel
theorem d_prog_62_method_1_code_1 : decode prog_62_method_1_code 1 = .ok (.invokespecial 1, 3) := by decide +kernel
theorem d_prog_62_method_1_code_4 : decode prog_62_method_1_code 4 = .ok (.aload_n 0, 1) := by decide +kernel
theorem d_prog_62_method_1_code_5 : decode prog_62_method_1_code 5 = .ok (.aload_n 1, 1) := by decide +kernel
theorem d_prog_62_method_1_code_6 : decode prog_62_method_1_code 6 = .ok (.putfield 7, 3) := by decide +kernel
theorem d_prog_62_method_1_code_9 : decode prog_62_method_1_code 9 = .ok (.aload_n 0, 1) := by decide +kernel
theorem d_prog_62_method_1_code_10 : decode prog_62_method_1_code 10 = .ok (.aload_n 2, 1) := by decide +kernel
theorem d_prog_62_method_1_code_11 : decode prog_62_method_1_code 11 = .ok (.putfield 13, 3) := by decide +kernel
theorem d_prog_62_method_1_code_14 : decode prog_62_method_1_code 14 = .ok (.aload_n 0, 1) := by decide +kernel
theorem d_prog_62_method_1_code_15 : decode prog_62_method_1_code 15 = .ok (.aload_n 3, 1) := by decide +kernel
theorem d_prog_62_method_1_code_16 : decode prog_62_method_1_code 16 = .ok (.putfield 17, 3) := by decide +kernel
theorem d_prog_62_method_1_code_19 : decode prog_62_method_1_code 19 = .ok (.aload_n 0, 1) := by decide +kernel
theorem d_prog_62_method_1_code_20 : decode prog_62_method_1_code 20 = .ok (.aload 4, 2) := by decide +kernel
theorem d_prog_62_method_1_code_22 : decode prog_62_method_1_code 22 = .ok (.putfield 21, 3) := by decide +kernel
theorem d_prog_62_method_1_code_25 : decode prog_62_method_1_code 25 = .ok (.return_, 1) := by decide +kernel
theorem pn_6 : plainName "com/example/apportion/apportion/policy/JsonValue" = true := by first | (simp [plainName, overriddenIn]; done) | decide +kernel
set_option maxRecDepth 65536 in
set_option maxHeartbeats 40000000 in
theorem rminit (l : Launch) (Z : State) (a0 : Array Value) (hw : ∀ d ∈ tables_1, d.before a0 Z = true) (a : Addr) (k : Addr) (t : Addr) (i : Addr) (q : Addr) (h0 : Heap) (n0 : Nat) (hn0 : n0 ≤ h0.size) (P0 : Exa Z h0 a "com/example/apportion/apportion/policy/JsonValue") (P1 : Fld Z h0 a "com/example/apportion/apportion/policy/JsonValue" "kind" "Lcom/example/apportion/apportion/policy/JsonValue$Kind;" .null) (P2 : Fld Z h0 a "com/example/apportion/apportion/policy/JsonValue" "text" "Ljava/lang/String;" .null) (P3 : Fld Z h0 a "com/example/apportion/apportion/policy/JsonValue" "items" "Ljava/util/List;" .null) (P4 : Fld Z h0 a "com/example/apportion/apportion/policy/JsonValue" "members" "Ljava/util/Map;" .null) (ga : n0 ≤ a) :
    Con l Z (⟨"com/example/apportion/apportion/policy/JsonValue", "<init>", "(Lcom/example/apportion/apportion/policy/JsonValue$Kind;Ljava/lang/String;Ljava/util/List;Ljava/util/Map;)V"⟩ : MethodName) prog_62_method_1_code 5 none [] ({ frames := 1, cells := 0, slots := 0, locals := 12 } : Room) #[(.ref a), (.ref k), (.ref t), (.ref i), (.ref q)] h0 (fun v h L => v = none ∧ Fr n0 L ∧ Keep h0 h [a] ∧ Exa Z h a "com/example/apportion/apportion/policy/JsonValue" ∧ Fld Z h a "com/example/apportion/apportion/policy/JsonValue" "kind" "Lcom/example/apportion/apportion/policy/JsonValue$Kind;" (.ref k) ∧ Fld Z h a "com/example/apportion/apportion/policy/JsonValue" "text" "Ljava/lang/String;" (.ref t) ∧ Fld Z h a "com/example/apportion/apportion/policy/JsonValue" "items" "Ljava/util/List;" (.ref i) ∧ Fld Z h a "com/example/apportion/apportion/policy/JsonValue" "members" "Ljava/util/Map;" (.ref q)) := by
  refine enter (Ls := #[.val (.ref a), .val (.ref k), .val (.ref t), .val (.ref i), .val (.ref q)]) (plainFor_of_name pn_6) (fun m => by exact entry_eq rfl) ?_
  intro p e s m below meth cd_ s₁ S0 hx hby hml hret hlk hnm hown hZ X0 e0 k0
  have N0 := Fr.nil n0
  have k1 : To p.tables e below S0 (s₁.setTop (mkF m 1 #[.val (.ref a), .val (.ref k), .val (.ref t), .val (.ref i), .val (.ref q)] [(.ref a)])) := fun tt hq => k0 tt (by
    show Steps _ _ _ (s₁.setTop (mkF m 0 #[.val (.ref a), .val (.ref k), .val (.ref t), .val (.ref i), .val (.ref q)] [])) _
    refine XS.aloadN X0.here hx rfl (hb hby d_prog_62_method_1_code_0) rfl rfl ?_
    show Steps _ _ _ (s₁.setTop (mkF m 1 #[.val (.ref a), .val (.ref k), .val (.ref t), .val (.ref i), .val (.ref q)] [(.ref a)])) _
    exact hq)
  obtain ⟨T2, X2, e2, st2⟩ := initO X0 hx hZ hown (hw _ (List.mem_of_getElem? (i := 49) rfl)) (hw _ (List.mem_of_getElem? (i := 19) rfl)) (hw _ (List.mem_of_getElem? (i := 20) rfl)) e0 (g := (mkF m 1 #[.val (.ref a), .val (.ref k), .val (.ref t), .val (.ref i), .val (.ref q)] [(.ref a)])) rfl (by rw [hml]; rfl) rfl (hb hby d_prog_62_method_1_code_1) (by decide) (W := 0) (by show 2 * 0 + _ ≤ _; exact Nat.le_of_eq rfl) (by decide)
  have k2 : To p.tables e below S0 (T2.setTop (mkF m 4 #[.val (.ref a), .val (.ref k), .val (.ref t), .val (.ref i), .val (.ref q)] [])) := fun tt hq => k1 tt (st2 tt hq)
  have k3 : To p.tables e below S0 (T2.setTop (mkF m 6 #[.val (.ref a), .val (.ref k), .val (.ref t), .val (.ref i), .val (.ref q)] [(.ref k), (.ref a)])) := fun tt hq => k2 tt (by
    show Steps _ _ _ (T2.setTop (mkF m 4 #[.val (.ref a), .val (.ref k), .val (.ref t), .val (.ref i), .val (.ref q)] [])) _
    refine XS.aloadN X2.here hx rfl (hb hby d_prog_62_method_1_code_4) rfl rfl ?_
    show Steps _ _ _ (T2.setTop (mkF m 5 #[.val (.ref a), .val (.ref k), .val (.ref t), .val (.ref i), .val (.ref q)] [(.ref a)])) _
    refine XS.aloadN X2.here hx rfl (hb hby d_prog_62_method_1_code_5) rfl rfl ?_
    show Steps _ _ _ (T2.setTop (mkF m 6 #[.val (.ref a), .val (.ref k), .val (.ref t), .val (.ref i), .val (.ref q)] [(.ref k), (.ref a)])) _
    exact hq)
  obtain ⟨T4, h4, X4, e4, W4, st4⟩ := putF X2 hx hZ hown (host := "") (Or.inl (hw _ (List.mem_of_getElem? (i := 50) rfl))) Via.refl e2 P1 P0 (Or.inr ⟨(hw _ (List.mem_of_getElem? (i := 51) rfl)), rfl, hnm⟩) (hw _ (List.mem_of_getElem? (i := 34) rfl)) (ty := (.object "com/example/apportion/apportion/policy/JsonValue$Kind")) (by decide) rfl rfl (g := (mkF m 6 #[.val (.ref a), .val (.ref k), .val (.ref t), .val (.ref i), .val (.ref q)] [(.ref k), (.ref a)])) rfl rfl (hb hby d_prog_62_method_1_code_6)
  have k4 : To p.tables e below S0 (T4.setTop (mkF m 9 #[.val (.ref a), .val (.ref k), .val (.ref t), .val (.ref i), .val (.ref q)] [])) := fun tt hq => k3 tt (st4 tt hq)
  have z4 : h4.size = h0.size := W4.size
  have F4 := P1.same W4
  have N4 := Fr.snoc X4 N0 (by omega : n0 ≤ a)
  have f5 : Exa Z h4 a "com/example/apportion/apportion/policy/JsonValue" := (P0.wr W4)
  have f6 : Fld Z h4 a "com/example/apportion/apportion/policy/JsonValue" "text" "Ljava/lang/String;" .null := (P2.other W4 (Or.inr (slot_ne (Or.inr (hw _ (List.mem_of_getElem? (i := 53) rfl))) (Or.inr (hw _ (List.mem_of_getElem? (i := 51) rfl))) (by decide) (t := (.object "java/lang/String")) (t' := (.object "com/example/apportion/apportion/policy/JsonValue$Kind")) (by decide) (by decide))))
  have k7 : To p.tables e below S0 (T4.setTop (mkF m 11 #[.val (.ref a), .val (.ref k), .val (.ref t), .val (.ref i), .val (.ref q)] [(.ref t), (.ref a)])) := fun tt hq => k4 tt (by
    show Steps _ _ _ (T4.setTop (mkF m 9 #[.val (.ref a), .val (.ref k), .val (.ref t), .val (.ref i), .val (.ref q)] [])) _
    refine XS.aloadN X4.here hx rfl (hb hby d_prog_62_method_1_code_9) rfl rfl ?_
    show Steps _ _ _ (T4.setTop (mkF m 10 #[.val (.ref a), .val (.ref k), .val (.ref t), .val (.ref i), .val (.ref q)] [(.ref a)])) _
    refine XS.aloadN X4.here hx rfl (hb hby d_prog_62_method_1_code_10) rfl rfl ?_
    show Steps _ _ _ (T4.setTop (mkF m 11 #[.val (.ref a), .val (.ref k), .val (.ref t), .val (.ref i), .val (.ref q)] [(.ref t), (.ref a)])) _
    exact hq)
  obtain ⟨T8, h8, X8, e8, W8, st8⟩ := putF X4 hx hZ hown (host := "") (Or.inl (hw _ (List.mem_of_getElem? (i := 52) rfl))) Via.refl e4 f6 f5 (Or.inr ⟨(hw _ (List.mem_of_getElem? (i := 53) rfl)), rfl, hnm⟩) (hw _ (List.mem_of_getElem? (i := 34) rfl)) (ty := (.object "java/lang/String")) (by decide) rfl rfl (g := (mkF m 11 #[.val (.ref a), .val (.ref k), .val (.ref t), .val (.ref i), .val (.ref q)] [(.ref t), (.ref a)])) rfl rfl (hb hby d_prog_62_method_1_code_11)
  have k8 : To p.tables e below S0 (T8.setTop (mkF m 14 #[.val (.ref a), .val (.ref k), .val (.ref t), .val (.ref i), .val (.ref q)] [])) := fun tt hq => k7 tt (st8 tt hq)
  have z8 : h8.size = h4.size := W8.size
  have F8 := f6.same W8
  have N8 := Fr.snoc X8 N4 (by omega : n0 ≤ a)
  have f9 : Exa Z h8 a "com/example/apportion/apportion/policy/JsonValue" := (f5.wr W8)
  have f10 : Fld Z h8 a "com/example/apportion/apportion/policy/JsonValue" "items" "Ljava/util/List;" .null := ((P3.other W4 (Or.inr (slot_ne (Or.inr (hw _ (List.mem_of_getElem? (i := 55) rfl))) (Or.inr (hw _ (List.mem_of_getElem? (i := 51) rfl))) (by decide) (t := (.object "java/util/List")) (t' := (.object "com/example/apportion/apportion/policy/JsonValue$Kind")) (by decide) (by decide)))).other W8 (Or.inr (slot_ne (Or.inr (hw _ (List.mem_of_getElem? (i := 55) rfl))) (Or.inr (hw _ (List.mem_of_getElem? (i := 53) rfl))) (by decide) (t := (.object "java/util/List")) (t' := (.object "java/lang/String")) (by decide) (by decide))))
  have k11 : To p.tables e below S0 (T8.setTop (mkF m 16 #[.val (.ref a), .val (.ref k), .val (.ref t), .val (.ref i), .val (.ref q)] [(.ref i), (.ref a)])) := fun tt hq => k8 tt (by
    show Steps _ _ _ (T8.setTop (mkF m 14 #[.val (.ref a), .val (.ref k), .val (.ref t), .val (.ref i), .val (.ref q)] [])) _
    refine XS.aloadN X8.here hx rfl (hb hby d_prog_62_method_1_code_14) rfl rfl ?_
    show Steps _ _ _ (T8.setTop (mkF m 15 #[.val (.ref a), .val (.ref k), .val (.ref t), .val (.ref i), .val (.ref q)] [(.ref a)])) _
    refine XS.aloadN X8.here hx rfl (hb hby d_prog_62_method_1_code_15) rfl rfl ?_
    show Steps _ _ _ (T8.setTop (mkF m 16 #[.val (.ref a), .val (.ref k), .val (.ref t), .val (.ref i), .val (.ref q)] [(.ref i), (.ref a)])) _
    exact hq)
  obtain ⟨T12, h12, X12, e12, W12, st12⟩ := putF X8 hx hZ hown (host := "") (Or.inl (hw _ (List.mem_of_getElem? (i := 54) rfl))) Via.refl e8 f10 f9 (Or.inr ⟨(hw _ (List.mem_of_getElem? (i := 55) rfl)), rfl, hnm⟩) (hw _ (List.mem_of_getElem? (i := 34) rfl)) (ty := (.object "java/util/List")) (by decide) rfl rfl (g := (mkF m 16 #[.val (.ref a), .val (.ref k), .val (.ref t), .val (.ref i), .val (.ref q)] [(.ref i), (.ref a)])) rfl rfl (hb hby d_prog_62_method_1_code_16)
  have k12 : To p.tables e below S0 (T12.setTop (mkF m 19 #[.val (.ref a), .val (.ref k), .val (.ref t), .val (.ref i), .val (.ref q)] [])) := fun tt hq => k11 tt (st12 tt hq)
  have z12 : h12.size = h8.size := W12.size
  have F12 := f10.same W12
  have N12 := Fr.snoc X12 N8 (by omega : n0 ≤ a)
  have f13 : Exa Z h12 a "com/example/apportion/apportion/policy/JsonValue" := (f9.wr W12)
  have f14 : Fld Z h12 a "com/example/apportion/apportion/policy/JsonValue" "members" "Ljava/util/Map;" .null := (((P4.other W4 (Or.inr (slot_ne (Or.inr (hw _ (List.mem_of_getElem? (i := 57) rfl))) (Or.inr (hw _ (List.mem_of_getElem? (i := 51) rfl))) (by decide) (t := (.object "java/util/Map")) (t' := (.object "com/example/apportion/apportion/policy/JsonValue$Kind")) (by decide) (by decide)))).other W8 (Or.inr (slot_ne (Or.inr (hw _ (List.mem_of_getElem? (i := 57) rfl))) (Or.inr (hw _ (List.mem_of_getElem? (i := 53) rfl))) (by decide) (t := (.object "java/util/Map")) (t' := (.object "java/lang/String")) (by decide) (by decide)))).other W12 (Or.inr (slot_ne (Or.inr (hw _ (List.mem_of_getElem? (i := 57) rfl))) (Or.inr (hw _ (List.mem_of_getElem? (i := 55) rfl))) (by decide) (t := (.object "java/util/Map")) (t' := (.object "java/util/List")) (by decide) (by decide))))
  have k15 : To p.tables e below S0 (T12.setTop (mkF m 22 #[.val (.ref a), .val (.ref k), .val (.ref t), .val (.ref i), .val (.ref q)] [(.ref q), (.ref a)])) := fun tt hq => k12 tt (by
    show Steps _ _ _ (T12.setTop (mkF m 19 #[.val (.ref a), .val (.ref k), .val (.ref t), .val (.ref i), .val (.ref q)] [])) _
    refine XS.aloadN X12.here hx rfl (hb hby d_prog_62_method_1_code_19) rfl rfl ?_
    show Steps _ _ _ (T12.setTop (mkF m 20 #[.val (.ref a), .val (.ref k), .val (.ref t), .val (.ref i), .val (.ref q)] [(.ref a)])) _
    refine XS.aload X12.here hx rfl (hb hby d_prog_62_method_1_code_20) rfl rfl ?_
    show Steps _ _ _ (T12.setTop (mkF m 22 #[.val (.ref a), .val (.ref k), .val (.ref t), .val (.ref i), .val (.ref q)] [(.ref q), (.ref a)])) _
    exact hq)
  obtain ⟨T16, h16, X16, e16, W16, st16⟩ := putF X12 hx hZ hown (host := "") (Or.inl (hw _ (List.mem_of_getElem? (i := 56) rfl))) Via.refl e12 f14 f13 (Or.inr ⟨(hw _ (List.mem_of_getElem? (i := 57) rfl)), rfl, hnm⟩) (hw _ (List.mem_of_getElem? (i := 34) rfl)) (ty := (.object "java/util/Map")) (by decide) rfl rfl (g := (mkF m 22 #[.val (.ref a), .val (.ref k), .val (.ref t), .val (.ref i), .val (.ref q)] [(.ref q), (.ref a)])) rfl rfl (hb hby d_prog_62_method_1_code_22)
  have k16 : To p.tables e below S0 (T16.setTop (mkF m 25 #[.val (.ref a), .val (.ref k), .val (.ref t), .val (.ref i), .val (.ref q)] [])) := fun tt hq => k15 tt (st16 tt hq)
  have z16 : h16.size = h12.size := W16.size
  have F16 := f14.same W16
  have N16 := Fr.snoc X16 N12 (by omega : n0 ≤ a)
  have f17 : Exa Z h16 a "com/example/apportion/apportion/policy/JsonValue" := (f13.wr W16)
  have f18 : Fld Z h16 a "com/example/apportion/apportion/policy/JsonValue" "kind" "Lcom/example/apportion/apportion/policy/JsonValue$Kind;" (.ref k) := (((F4.other W8 (Or.inr (slot_ne (Or.inr (hw _ (List.mem_of_getElem? (i := 51) rfl))) (Or.inr (hw _ (List.mem_of_getElem? (i := 53) rfl))) (by decide) (t := (.object "com/example/apportion/apportion/policy/JsonValue$Kind")) (t' := (.object "java/lang/String")) (by decide) (by decide)))).other W12 (Or.inr (slot_ne (Or.inr (hw _ (List.mem_of_getElem? (i := 51) rfl))) (Or.inr (hw _ (List.mem_of_getElem? (i := 55) rfl))) (by decide) (t := (.object "com/example/apportion/apportion/policy/JsonValue$Kind")) (t' := (.object "java/util/List")) (by decide) (by decide)))).other W16 (Or.inr (slot_ne (Or.inr (hw _ (List.mem_of_getElem? (i := 51) rfl))) (Or.inr (hw _ (List.mem_of_getElem? (i := 57) rfl))) (by decide) (t := (.object "com/example/apportion/apportion/policy/JsonValue$Kind")) (t' := (.object "java/util/Map")) (by decide) (by decide))))
  have f19 : Fld Z h16 a "com/example/apportion/apportion/policy/JsonValue" "text" "Ljava/lang/String;" (.ref t) := ((F8.other W12 (Or.inr (slot_ne (Or.inr (hw _ (List.mem_of_getElem? (i := 53) rfl))) (Or.inr (hw _ (List.mem_of_getElem? (i := 55) rfl))) (by decide) (t := (.object "java/lang/String")) (t' := (.object "java/util/List")) (by decide) (by decide)))).other W16 (Or.inr (slot_ne (Or.inr (hw _ (List.mem_of_getElem? (i := 53) rfl))) (Or.inr (hw _ (List.mem_of_getElem? (i := 57) rfl))) (by decide) (t := (.object "java/lang/String")) (t' := (.object "java/util/Map")) (by decide) (by decide))))
  have f20 : Fld Z h16 a "com/example/apportion/apportion/policy/JsonValue" "items" "Ljava/util/List;" (.ref i) := (F12.other W16 (Or.inr (slot_ne (Or.inr (hw _ (List.mem_of_getElem? (i := 55) rfl))) (Or.inr (hw _ (List.mem_of_getElem? (i := 57) rfl))) (by decide) (t := (.object "java/util/List")) (t' := (.object "java/util/Map")) (by decide) (by decide))))
  have hE := e16
  refine retVoid X16 hx hret hlk (hb hby d_prog_62_method_1_code_25) k16 ?_ (by decide) (by decide)
  try rw [hE]
  exact ⟨rfl, N16, (((((Keep.refl h0 [a]).wr W4 (Or.inl (by simp))).wr W8 (Or.inl (by simp))).wr W12 (Or.inl (by simp))).wr W16 (Or.inl (by simp))), f17, f18, f19, f20, F16⟩
theorem d_prog_62_method_4_code_0 : decode prog_62_method_4_code 0 = .ok (.new 8, 3) := by decide +kernel
theorem d_prog_62_method_4_code_3 : decode prog_62_method_4_code 3 = .ok (.dup, 1) := by decide +kernel
theorem d_prog_62_method_4_code_4 : decode prog_62_method_4_code 4 = .ok (.aload_n 0, 1) := by decide +kernel
theorem d_prog_62_method_4_code_5 : decode prog_62_method_4_code 5 = .ok (.aload_n 1, 1) := by decide +kernel
theorem d_prog_62_method_4_code_6 : decode prog_62_method_4_code 6 = .ok (.invokestatic 30, 3) := by decide +kernel
theorem d_prog_62_method_4_code_9 : decode prog_62_method_4_code 9 = .ok (.invokestatic 52, 3) := by decide +kernel
theorem d_prog_62_method_4_code_12 : decode prog_62_method_4_code 12 = .ok (.invokespecial 42, 3) := by decide +kernel
theorem d_prog_62_method_4_code_15 : decode prog_62_method_4_code 15 = .ok (.areturn, 1) := by decide +kernel
theorem pd_10 : parseMethodDescriptor "()Ljava/util/List;" = some ⟨[], some (.object "java/util/List")⟩ := by decide +kernel
theorem pd_11 : parseMethodDescriptor "()Ljava/util/Map;" = some ⟨[], some (.object "java/util/Map")⟩ := by decide +kernel
theorem pd_12 : parseMethodDescriptor "(Lcom/example/apportion/apportion/policy/JsonValue$Kind;Ljava/lang/String;Ljava/util/List;Ljava/util/Map;)V" = some ⟨[(.object "com/example/apportion/apportion/policy/JsonValue$Kind"), (.object "java/lang/String"), (.object "java/util/List"), (.object "java/util/Map")], none⟩ := by decide +kernel
set_option maxRecDepth 65536 in
set_option maxHeartbeats 40000000 in
theorem rmwritten (l : Launch) (Z : State) (a0 : Array Value) (hw : ∀ d ∈ tables_1, d.before a0 Z = true) (zc : Int32) (qN : Addr) (qT : Addr) (qL : Addr) (qM : Addr) (k : Addr) (t : Addr) (h0 : Heap) (n0 : Nat) (hn0 : n0 ≤ h0.size) (S_c : Sta Z Z.heap "java/lang/String" "COMPACT_STRINGS" "Z" (.int zc)) (hzc : ¬ zc = (0 : Int32)) (S_NUMBER : Sta Z Z.heap "com/example/apportion/apportion/policy/JsonValue$Kind" "NUMBER" "Lcom/example/apportion/apportion/policy/JsonValue$Kind;" (.ref qN)) (S_TEXT : Sta Z Z.heap "com/example/apportion/apportion/policy/JsonValue$Kind" "TEXT" "Lcom/example/apportion/apportion/policy/JsonValue$Kind;" (.ref qT)) (S_EMPTY_LIST : Sta Z Z.heap "java/util/ImmutableCollections" "EMPTY_LIST" "Ljava/util/ImmutableCollections$ListN;" (.ref qL)) (S_EMPTY_MAP : Sta Z Z.heap "java/util/ImmutableCollections" "EMPTY_MAP" "Ljava/util/ImmutableCollections$MapN;" (.ref qM)) (O0 : Old Z n0 h0) :
    Con l Z (⟨"com/example/apportion/apportion/policy/JsonValue", "written", "(Lcom/example/apportion/apportion/policy/JsonValue$Kind;Ljava/lang/String;)Lcom/example/apportion/apportion/policy/JsonValue;"⟩ : MethodName) prog_62_method_4_code 2 (some (.object "com/example/apportion/apportion/policy/JsonValue")) [] ({ frames := 2, cells := 1, slots := 4, locals := 29 } : Room) #[(.ref k), (.ref t)] h0 (fun v h L => ∃ b : Addr, v = some (.ref b) ∧ Fr n0 L ∧ h0.size ≤ b ∧ Keep h0 h [] ∧ Exa Z h b "com/example/apportion/apportion/policy/JsonValue" ∧ Fld Z h b "com/example/apportion/apportion/policy/JsonValue" "kind" "Lcom/example/apportion/apportion/policy/JsonValue$Kind;" (.ref k) ∧ Fld Z h b "com/example/apportion/apportion/policy/JsonValue" "text" "Ljava/lang/String;" (.ref t) ∧ Fld Z h b "com/example/apportion/apportion/policy/JsonValue" "items" "Ljava/util/List;" (.ref qL) ∧ Fld Z h b "com/example/apportion/apportion/policy/JsonValue" "members" "Ljava/util/Map;" (.ref qM)) := by
  refine enter (Ls := #[.val (.ref k), .val (.ref t)]) (plainFor_of_name pn_6) (fun m => by exact entry_eq rfl) ?_
  intro p e s m below meth cd_ s₁ S0 hx hby hml hret hlk hnm hown hZ X0 e0 k0
  have N0 := Fr.nil n0
  obtain ⟨T1, h1, X1, e1, E1, A1, D1, -, st1⟩ := newO X0 hx hZ hown (hw _ (List.mem_of_getElem? (i := 33) rfl)) (hw _ (List.mem_of_getElem? (i := 34) rfl)) (hw _ (List.mem_of_getElem? (i := 31) rfl)) e0 (g := (mkF m 0 #[.val (.ref k), .val (.ref t)] [])) rfl (hb hby d_prog_62_method_4_code_0) (by decide) (by decide)
  obtain ⟨b1, g1⟩ : ∃ z, z = h0.size := ⟨_, rfl⟩
  rw [← g1] at A1 D1 st1
  have k1 : To p.tables e below S0 (T1.setTop (mkF m 3 #[.val (.ref k), .val (.ref t)] [(.ref b1)])) := fun tt hq => k0 tt (st1 tt hq)
  have z1 : h0.size ≤ h1.size := E1.1
  have y1 : @LT.lt Nat instLTNat b1 h1.size := A1.lt
  have F1_kind : Fld Z h1 b1 "com/example/apportion/apportion/policy/JsonValue" "kind" "Lcom/example/apportion/apportion/policy/JsonValue$Kind;" .null := D1 (Or.inr (hw _ (List.mem_of_getElem? (i := 51) rfl))) (ty := (.object "com/example/apportion/apportion/policy/JsonValue$Kind")) (by decide)
  have F1_text : Fld Z h1 b1 "com/example/apportion/apportion/policy/JsonValue" "text" "Ljava/lang/String;" .null := D1 (Or.inr (hw _ (List.mem_of_getElem? (i := 53) rfl))) (ty := (.object "java/lang/String")) (by decide)
  have F1_items : Fld Z h1 b1 "com/example/apportion/apportion/policy/JsonValue" "items" "Ljava/util/List;" .null := D1 (Or.inr (hw _ (List.mem_of_getElem? (i := 55) rfl))) (ty := (.object "java/util/List")) (by decide)
  have F1_members : Fld Z h1 b1 "com/example/apportion/apportion/policy/JsonValue" "members" "Ljava/util/Map;" .null := D1 (Or.inr (hw _ (List.mem_of_getElem? (i := 57) rfl))) (ty := (.object "java/util/Map")) (by decide)
  have k2 : To p.tables e below S0 (T1.setTop (mkF m 6 #[.val (.ref k), .val (.ref t)] [(.ref t), (.ref k), (.ref b1), (.ref b1)])) := fun tt hq => k1 tt (by
    show Steps _ _ _ (T1.setTop (mkF m 3 #[.val (.ref k), .val (.ref t)] [(.ref b1)])) _
    refine XS.dup X1.here hx rfl (hb hby d_prog_62_method_4_code_3) rfl rfl ?_
    show Steps _ _ _ (T1.setTop (mkF m 4 #[.val (.ref k), .val (.ref t)] [(.ref b1), (.ref b1)])) _
    refine XS.aloadN X1.here hx rfl (hb hby d_prog_62_method_4_code_4) rfl rfl ?_
    show Steps _ _ _ (T1.setTop (mkF m 5 #[.val (.ref k), .val (.ref t)] [(.ref k), (.ref b1), (.ref b1)])) _
    refine XS.aloadN X1.here hx rfl (hb hby d_prog_62_method_4_code_5) rfl rfl ?_
    show Steps _ _ _ (T1.setTop (mkF m 6 #[.val (.ref k), .val (.ref t)] [(.ref t), (.ref k), (.ref b1), (.ref b1)])) _
    exact hq)
  have f3 : Old Z n0 h1 := (O0.ext E1)
  obtain ⟨_, T4, L4, X4, ⟨rfl, Nq4, eq4⟩, k4a⟩ := callS' X1 hx hZ (y := (⟨"java/util/List", "of", "()Ljava/util/List;"⟩ : MethodName)) hown (hw _ (List.mem_of_getElem? (i := 35) rfl)) (hw _ (List.mem_of_getElem? (i := 36) rfl)) (hw _ (List.mem_of_getElem? (i := 37) rfl)) (hw _ (List.mem_of_getElem? (i := 38) rfl)) (by decide) (backC (W := 4) (rmlist l Z a0 hw zc qN qT qL qM h1 n0 (by omega) S_c hzc S_NUMBER S_TEXT S_EMPTY_LIST S_EMPTY_MAP f3) hZ (hw _ (List.mem_of_getElem? (i := 38) rfl)) (hw _ (List.mem_of_getElem? (i := 37) rfl)) (by decide) (by decide)) e1 (argsL := []) (rest := [(.ref t), (.ref k), (.ref b1), (.ref b1)]) rfl rfl pd_10 rfl (by rw [hml]; rfl) (hb hby d_prog_62_method_4_code_6) (Nat.le_of_eq rfl) (by decide) (by decide) k2
  have k4 : To p.tables e below S0 (T4.setTop (mkF m 9 #[.val (.ref k), .val (.ref t)] [(.ref qL), (.ref t), (.ref k), (.ref b1), (.ref b1)])) := k4a
  have N4 := N0.app Nq4
  have e4 : T4.heap = h1 := eq4
  obtain ⟨_, T5, L5, X5, ⟨rfl, Nq5, eq5⟩, k5a⟩ := callS' X4 hx hZ (y := (⟨"java/util/Map", "of", "()Ljava/util/Map;"⟩ : MethodName)) hown (hw _ (List.mem_of_getElem? (i := 41) rfl)) (hw _ (List.mem_of_getElem? (i := 42) rfl)) (hw _ (List.mem_of_getElem? (i := 43) rfl)) (hw _ (List.mem_of_getElem? (i := 44) rfl)) (by decide) (backC (W := 5) (rmmap l Z a0 hw zc qN qT qL qM h1 n0 (by omega) S_c hzc S_NUMBER S_TEXT S_EMPTY_LIST S_EMPTY_MAP f3) hZ (hw _ (List.mem_of_getElem? (i := 44) rfl)) (hw _ (List.mem_of_getElem? (i := 43) rfl)) (by decide) (by decide)) e4 (argsL := []) (rest := [(.ref qL), (.ref t), (.ref k), (.ref b1), (.ref b1)]) rfl rfl pd_11 rfl (by rw [hml]; rfl) (hb hby d_prog_62_method_4_code_9) (Nat.le_of_eq rfl) (by decide) (by decide) k4
  have k5 : To p.tables e below S0 (T5.setTop (mkF m 12 #[.val (.ref k), .val (.ref t)] [(.ref qM), (.ref qL), (.ref t), (.ref k), (.ref b1), (.ref b1)])) := k5a
  have N5 := N4.app Nq5
  have e5 : T5.heap = h1 := eq5
  obtain ⟨_, T6, L6, X6, ⟨rfl, Nq6, Kq6, P6_0, P6_1, P6_2, P6_3, P6_4⟩, k6a⟩ := callC' X5 hx hZ (y := (⟨"com/example/apportion/apportion/policy/JsonValue", "<init>", "(Lcom/example/apportion/apportion/policy/JsonValue$Kind;Ljava/lang/String;Ljava/util/List;Ljava/util/Map;)V"⟩ : MethodName)) rfl hown (hw _ (List.mem_of_getElem? (i := 46) rfl)) (hw _ (List.mem_of_getElem? (i := 47) rfl)) (hw _ (List.mem_of_getElem? (i := 48) rfl)) (by decide) (backC (W := 1) (rminit l Z a0 hw b1 k t qL qM h1 n0 (by omega) A1 F1_kind F1_text F1_items F1_members (by omega)) hZ (hw _ (List.mem_of_getElem? (i := 48) rfl)) (hw _ (List.mem_of_getElem? (i := 31) rfl)) (by decide) (by decide)) e5 (argsL := [(.ref k), (.ref t), (.ref qL), (.ref qM)]) (rest := [(.ref b1)]) rfl rfl pd_12 rfl (by rw [hml]; rfl) (hb hby d_prog_62_method_4_code_12) (Nat.le_of_eq rfl) (by decide) (by decide) k5
  have k6 : To p.tables e below S0 (T6.setTop (mkF m 15 #[.val (.ref k), .val (.ref t)] [(.ref b1)])) := k6a
  have N6 := N5.app Nq6
  obtain ⟨h6, e6⟩ : ∃ z, T6.heap = z := ⟨_, rfl⟩
  rw [e6] at Kq6 P6_0 P6_1 P6_2 P6_3 P6_4
  have z6 : h1.size ≤ h6.size := Kq6.1
  have hE := e6
  refine retRef X6 hx hret hlk rfl rfl (hb hby d_prog_62_method_4_code_15) k6 ?_ (by decide) (by decide)
  try rw [hE]
  exact ⟨_, rfl, N6, (by omega), (((Keep.refl h0 []).ext E1).trans Kq6 (allS (Or.inr (by omega)) all0)), P6_0, P6_1, P6_2, P6_3, P6_4⟩
theorem d_prog_62_method_6_code_0 : decode prog_62_method_6_code 0 = .ok (.aload_n 0, 1) := by decide +kernel
theorem d_prog_62_method_6_code_1 : decode prog_62_method_6_code 1 = .ok (.getfield 7, 3) := by decide +kernel
theorem d_prog_62_method_6_code_4 : decode prog_62_method_6_code 4 = .ok (.areturn, 1) := by decide +kernel
set_option maxRecDepth 65536 in
set_option maxHeartbeats 40000000 in
theorem rmgetkind (l : Launch) (Z : State) (a0 : Array Value) (hw : ∀ d ∈ tables_1, d.before a0 Z = true) (a : Addr) (u : Value) (h0 : Heap) (n0 : Nat) (hn0 : n0 ≤ h0.size) (F0 : Fld Z h0 a "com/example/apportion/apportion/policy/JsonValue" "kind" "Lcom/example/apportion/apportion/policy/JsonValue$Kind;" u) (hu : u.isRef = true) :
    Con l Z (⟨"com/example/apportion/apportion/policy/JsonValue", "getKind", "()Lcom/example/apportion/apportion/policy/JsonValue$Kind;"⟩ : MethodName) prog_62_method_6_code 1 (some (.object "com/example/apportion/apportion/policy/JsonValue$Kind")) [] ({ frames := 0, cells := 0, slots := 0, locals := 0 } : Room) #[(.ref a)] h0 (fun v h L => v = some u ∧ Fr n0 L ∧ h = h0) := by
  refine enter (Ls := #[.val (.ref a)]) (plainFor_of_name pn_6) (fun m => by exact entry_eq rfl) ?_
  intro p e s m below meth cd_ s₁ S0 hx hby hml hret hlk hnm hown hZ X0 e0 k0
  have N0 := Fr.nil n0
  have k1 : To p.tables e below S0 (s₁.setTop (mkF m 1 #[.val (.ref a)] [(.ref a)])) := fun tt hq => k0 tt (by
    show Steps _ _ _ (s₁.setTop (mkF m 0 #[.val (.ref a)] [])) _
    refine XS.aloadN X0.here hx rfl (hb hby d_prog_62_method_6_code_0) rfl rfl ?_
    show Steps _ _ _ (s₁.setTop (mkF m 1 #[.val (.ref a)] [(.ref a)])) _
    exact hq)
  obtain ⟨T2, X2, e2, st2⟩ := getF X0 hx hZ hown (host := "") (Or.inl (hw _ (List.mem_of_getElem? (i := 50) rfl))) Via.refl e0 F0 (g := (mkF m 1 #[.val (.ref a)] [(.ref a)])) rfl rfl (hb hby d_prog_62_method_6_code_1)
  have k2 : To p.tables e below S0 (T2.setTop (mkF m 4 #[.val (.ref a)] [u])) := fun tt hq => k1 tt (st2 tt hq)
  have hE := e2
  refine retRef X2 hx hret hlk rfl hu (hb hby d_prog_62_method_6_code_4) k2 ?_ (by decide) (by decide)
  try rw [hE]
  exact ⟨rfl, N0, rfl⟩
theorem d_prog_62_method_7_code_0 : decode prog_62_method_7_code 0 = .ok (.aload_n 0, 1) := by decide +kernel
theorem d_prog_62_method_7_code_1 : decode prog_62_method_7_code 1 = .ok (.getfield 13, 3) := by decide +kernel
theorem d_prog_62_method_7_code_4 : decode prog_62_method_7_code 4 = .ok (.areturn, 1) := by decide +kernel
set_option maxRecDepth 65536 in
set_option maxHeartbeats 40000000 in
theorem rmgettext (l : Launch) (Z : State) (a0 : Array Value) (hw : ∀ d ∈ tables_1, d.before a0 Z = true) (a : Addr) (u : Value) (h0 : Heap) (n0 : Nat) (hn0 : n0 ≤ h0.size) (F0 : Fld Z h0 a "com/example/apportion/apportion/policy/JsonValue" "text" "Ljava/lang/String;" u) (hu : u.isRef = true) :
    Con l Z (⟨"com/example/apportion/apportion/policy/JsonValue", "getText", "()Ljava/lang/String;"⟩ : MethodName) prog_62_method_7_code 1 (some (.object "java/lang/String")) [] ({ frames := 0, cells := 0, slots := 0, locals := 0 } : Room) #[(.ref a)] h0 (fun v h L => v = some u ∧ Fr n0 L ∧ h = h0) := by
  refine enter (Ls := #[.val (.ref a)]) (plainFor_of_name pn_6) (fun m => by exact entry_eq rfl) ?_
  intro p e s m below meth cd_ s₁ S0 hx hby hml hret hlk hnm hown hZ X0 e0 k0
  have N0 := Fr.nil n0
  have k1 : To p.tables e below S0 (s₁.setTop (mkF m 1 #[.val (.ref a)] [(.ref a)])) := fun tt hq => k0 tt (by
    show Steps _ _ _ (s₁.setTop (mkF m 0 #[.val (.ref a)] [])) _
    refine XS.aloadN X0.here hx rfl (hb hby d_prog_62_method_7_code_0) rfl rfl ?_
    show Steps _ _ _ (s₁.setTop (mkF m 1 #[.val (.ref a)] [(.ref a)])) _
    exact hq)
  obtain ⟨T2, X2, e2, st2⟩ := getF X0 hx hZ hown (host := "") (Or.inl (hw _ (List.mem_of_getElem? (i := 52) rfl))) Via.refl e0 F0 (g := (mkF m 1 #[.val (.ref a)] [(.ref a)])) rfl rfl (hb hby d_prog_62_method_7_code_1)
  have k2 : To p.tables e below S0 (T2.setTop (mkF m 4 #[.val (.ref a)] [u])) := fun tt hq => k1 tt (st2 tt hq)
  have hE := e2
  refine retRef X2 hx hret hlk rfl hu (hb hby d_prog_62_method_7_code_4) k2 ?_ (by decide) (by decide)
  try rw [hE]
  exact ⟨rfl, N0, rfl⟩
theorem d_prog_62_method_8_code_0 : decode prog_62_method_8_code 0 = .ok (.aload_n 0, 1) := by decide +kernel
theorem d_prog_62_method_8_code_1 : decode prog_62_method_8_code 1 = .ok (.getfield 17, 3) := by decide +kernel
theorem d_prog_62_method_8_code_4 : decode prog_62_method_8_code 4 = .ok (.areturn, 1) := by decide +kernel
set_option maxRecDepth 65536 in
set_option maxHeartbeats 40000000 in
theorem rmgetitems (l : Launch) (Z : State) (a0 : Array Value) (hw : ∀ d ∈ tables_1, d.before a0 Z = true) (a : Addr) (u : Value) (h0 : Heap) (n0 : Nat) (hn0 : n0 ≤ h0.size) (F0 : Fld Z h0 a "com/example/apportion/apportion/policy/JsonValue" "items" "Ljava/util/List;" u) (hu : u.isRef = true) :
    Con l Z (⟨"com/example/apportion/apportion/policy/JsonValue", "getItems", "()Ljava/util/List;"⟩ : MethodName) prog_62_method_8_code 1 (some (.object "java/util/List")) [] ({ frames := 0, cells := 0, slots := 0, locals := 0 } : Room) #[(.ref a)] h0 (fun v h L => v = some u ∧ Fr n0 L ∧ h = h0) := by
  refine enter (Ls := #[.val (.ref a)]) (plainFor_of_name pn_6) (fun m => by exact entry_eq rfl) ?_
  intro p e s m below meth cd_ s₁ S0 hx hby hml hret hlk hnm hown hZ X0 e0 k0
  have N0 := Fr.nil n0
  have k1 : To p.tables e below S0 (s₁.setTop (mkF m 1 #[.val (.ref a)] [(.ref a)])) := fun tt hq => k0 tt (by
    show Steps _ _ _ (s₁.setTop (mkF m 0 #[.val (.ref a)] [])) _
    refine XS.aloadN X0.here hx rfl (hb hby d_prog_62_method_8_code_0) rfl rfl ?_
    show Steps _ _ _ (s₁.setTop (mkF m 1 #[.val (.ref a)] [(.ref a)])) _
    exact hq)
  obtain ⟨T2, X2, e2, st2⟩ := getF X0 hx hZ hown (host := "") (Or.inl (hw _ (List.mem_of_getElem? (i := 54) rfl))) Via.refl e0 F0 (g := (mkF m 1 #[.val (.ref a)] [(.ref a)])) rfl rfl (hb hby d_prog_62_method_8_code_1)
  have k2 : To p.tables e below S0 (T2.setTop (mkF m 4 #[.val (.ref a)] [u])) := fun tt hq => k1 tt (st2 tt hq)
  have hE := e2
  refine retRef X2 hx hret hlk rfl hu (hb hby d_prog_62_method_8_code_4) k2 ?_ (by decide) (by decide)
  try rw [hE]
  exact ⟨rfl, N0, rfl⟩
theorem d_prog_62_method_9_code_0 : decode prog_62_method_9_code 0 = .ok (.aload_n 0, 1) := by decide +kernel
theorem d_prog_62_method_9_code_1 : decode prog_62_method_9_code 1 = .ok (.getfield 21, 3) := by decide +kernel
theorem d_prog_62_method_9_code_4 : decode prog_62_method_9_code 4 = .ok (.areturn, 1) := by decide +kernel
set_option maxRecDepth 65536 in
set_option maxHeartbeats 40000000 in
theorem rmgetmembers (l : Launch) (Z : State) (a0 : Array Value) (hw : ∀ d ∈ tables_1, d.before a0 Z = true) (a : Addr) (u : Value) (h0 : Heap) (n0 : Nat) (hn0 : n0 ≤ h0.size) (F0 : Fld Z h0 a "com/example/apportion/apportion/policy/JsonValue" "members" "Ljava/util/Map;" u) (hu : u.isRef = true) :
    Con l Z (⟨"com/example/apportion/apportion/policy/JsonValue", "getMembers", "()Ljava/util/Map;"⟩ : MethodName) prog_62_method_9_code 1 (some (.object "java/util/Map")) [] ({ frames := 0, cells := 0, slots := 0, locals := 0 } : Room) #[(.ref a)] h0 (fun v h L => v = some u ∧ Fr n0 L ∧ h = h0) := by
  refine enter (Ls := #[.val (.ref a)]) (plainFor_of_name pn_6) (fun m => by exact entry_eq rfl) ?_
  intro p e s m below meth cd_ s₁ S0 hx hby hml hret hlk hnm hown hZ X0 e0 k0
  have N0 := Fr.nil n0
  have k1 : To p.tables e below S0 (s₁.setTop (mkF m 1 #[.val (.ref a)] [(.ref a)])) := fun tt hq => k0 tt (by
    show Steps _ _ _ (s₁.setTop (mkF m 0 #[.val (.ref a)] [])) _
    refine XS.aloadN X0.here hx rfl (hb hby d_prog_62_method_9_code_0) rfl rfl ?_
    show Steps _ _ _ (s₁.setTop (mkF m 1 #[.val (.ref a)] [(.ref a)])) _
    exact hq)
  obtain ⟨T2, X2, e2, st2⟩ := getF X0 hx hZ hown (host := "") (Or.inl (hw _ (List.mem_of_getElem? (i := 56) rfl))) Via.refl e0 F0 (g := (mkF m 1 #[.val (.ref a)] [(.ref a)])) rfl rfl (hb hby d_prog_62_method_9_code_1)
  have k2 : To p.tables e below S0 (T2.setTop (mkF m 4 #[.val (.ref a)] [u])) := fun tt hq => k1 tt (st2 tt hq)
  have hE := e2
  refine retRef X2 hx hret hlk rfl hu (hb hby d_prog_62_method_9_code_4) k2 ?_ (by decide) (by decide)
  try rw [hE]
  exact ⟨rfl, N0, rfl⟩
theorem d_jdk_45_method_3_code_0 : decode jdk_45_method_3_code 0 = .ok (.aload_n 0, 1) := by decide +kernel
theorem d_jdk_45_method_3_code_1 : decode jdk_45_method_3_code 1 = .ok (.getfield 7, 3) := by decide +kernel
theorem d_jdk_45_method_3_code_4 : decode jdk_45_method_3_code 4 = .ok (.arraylength, 1) := by decide +kernel
theorem d_jdk_45_method_3_code_5 : decode jdk_45_method_3_code 5 = .ok (.ireturn, 1) := by decide +kernel
theorem pn_7 : plainName "java/util/ImmutableCollections$ListN" = true := by first | (simp [plainName, overriddenIn]; done) | decide +kernel
set_option maxRecDepth 65536 in
set_option maxHeartbeats 40000000 in
theorem rmls (l : Launch) (Z : State) (a0 : Array Value) (hw : ∀ d ∈ tables_1, d.before a0 Z = true) (a : Addr) (b : Addr) (kc : ClassId) (h0 : Heap) (n0 : Nat) (hn0 : n0 ≤ h0.size) (F0 : Fld Z h0 a "java/util/ImmutableCollections$ListN" "elements" "[Ljava/lang/Object;" (.ref b)) (V0 : Arv Z h0 b kc (.object "java/lang/Object") (0 : Int32) [] .null) :
    Con l Z (⟨"java/util/ImmutableCollections$ListN", "size", "()I"⟩ : MethodName) jdk_45_method_3_code 1 (some .int) [] ({ frames := 0, cells := 0, slots := 0, locals := 0 } : Room) #[(.ref a)] h0 (fun v h L => v = some (.int (0 : Int32)) ∧ Fr n0 L ∧ h = h0) := by
  refine enter (Ls := #[.val (.ref a)]) (plainFor_of_name pn_7) (fun m => by exact entry_eq rfl) ?_
  intro p e s m below meth cd_ s₁ S0 hx hby hml hret hlk hnm hown hZ X0 e0 k0
  have N0 := Fr.nil n0
  have k1 : To p.tables e below S0 (s₁.setTop (mkF m 1 #[.val (.ref a)] [(.ref a)])) := fun tt hq => k0 tt (by
    show Steps _ _ _ (s₁.setTop (mkF m 0 #[.val (.ref a)] [])) _
    refine XS.aloadN X0.here hx rfl (hb hby d_jdk_45_method_3_code_0) rfl rfl ?_
    show Steps _ _ _ (s₁.setTop (mkF m 1 #[.val (.ref a)] [(.ref a)])) _
    exact hq)
  obtain ⟨T2, X2, e2, st2⟩ := getF X0 hx hZ hown (host := "") (Or.inl (hw _ (List.mem_of_getElem? (i := 99) rfl))) Via.refl e0 F0 (g := (mkF m 1 #[.val (.ref a)] [(.ref a)])) rfl rfl (hb hby d_jdk_45_method_3_code_1)
  have k2 : To p.tables e below S0 (T2.setTop (mkF m 4 #[.val (.ref a)] [(.ref b)])) := fun tt hq => k1 tt (st2 tt hq)
  obtain ⟨cl3, Ar3, -, S3, M3, -, -⟩ := id V0
  have st3 := fun tt => X2.arraylength hx (by rw [e2]; exact Ar3.1) (State.isArrayOf_alike hZ.alike Ar3.2.1) (g := (mkF m 4 #[.val (.ref a)] [(.ref b)])) rfl rfl (hb hby d_jdk_45_method_3_code_4) tt
  rw [len_of S3 M3] at st3
  have k3 : To p.tables e below S0 (T2.setTop (mkF m 5 #[.val (.ref a)] [(.int (0 : Int32))])) := fun tt hq => k2 tt (st3 tt hq)
  have hE := e2
  refine retInt X2 hx hret hlk (by simp) rfl (hb hby d_jdk_45_method_3_code_5) k3 ?_ (by decide) (by decide)
  try rw [hE]
  exact ⟨rfl, N0, rfl⟩
theorem d_jdk_2605_method_6_code_0 : decode jdk_2605_method_6_code 0 = .ok (.aload_n 0, 1) := by decide +kernel
theorem d_jdk_2605_method_6_code_1 : decode jdk_2605_method_6_code 1 = .ok (.getfield 16, 3) := by decide +kernel
theorem d_jdk_2605_method_6_code_4 : decode jdk_2605_method_6_code 4 = .ok (.ireturn, 1) := by decide +kernel
theorem pn_8 : plainName "java/util/ImmutableCollections$MapN" = true := by first | (simp [plainName, overriddenIn]; done) | decide +kernel
set_option maxRecDepth 65536 in
set_option maxHeartbeats 40000000 in
theorem rmms (l : Launch) (Z : State) (a0 : Array Value) (hw : ∀ d ∈ tables_1, d.before a0 Z = true) (a : Addr) (h0 : Heap) (n0 : Nat) (hn0 : n0 ≤ h0.size) (F0 : Fld Z h0 a "java/util/ImmutableCollections$MapN" "size" "I" (.int (0 : Int32))) :
    Con l Z (⟨"java/util/ImmutableCollections$MapN", "size", "()I"⟩ : MethodName) jdk_2605_method_6_code 1 (some .int) [] ({ frames := 0, cells := 0, slots := 0, locals := 0 } : Room) #[(.ref a)] h0 (fun v h L => v = some (.int (0 : Int32)) ∧ Fr n0 L ∧ h = h0) := by
  refine enter (Ls := #[.val (.ref a)]) (plainFor_of_name pn_8) (fun m => by exact entry_eq rfl) ?_
  intro p e s m below meth cd_ s₁ S0 hx hby hml hret hlk hnm hown hZ X0 e0 k0
  have N0 := Fr.nil n0
  have k1 : To p.tables e below S0 (s₁.setTop (mkF m 1 #[.val (.ref a)] [(.ref a)])) := fun tt hq => k0 tt (by
    show Steps _ _ _ (s₁.setTop (mkF m 0 #[.val (.ref a)] [])) _
    refine XS.aloadN X0.here hx rfl (hb hby d_jdk_2605_method_6_code_0) rfl rfl ?_
    show Steps _ _ _ (s₁.setTop (mkF m 1 #[.val (.ref a)] [(.ref a)])) _
    exact hq)
  obtain ⟨T2, X2, e2, st2⟩ := getF X0 hx hZ hown (host := "") (Or.inl (hw _ (List.mem_of_getElem? (i := 116) rfl))) Via.refl e0 F0 (g := (mkF m 1 #[.val (.ref a)] [(.ref a)])) rfl rfl (hb hby d_jdk_2605_method_6_code_1)
  have k2 : To p.tables e below S0 (T2.setTop (mkF m 4 #[.val (.ref a)] [(.int (0 : Int32))])) := fun tt hq => k1 tt (st2 tt hq)
  have hE := e2
  refine retInt X2 hx hret hlk (by simp) rfl (hb hby d_jdk_2605_method_6_code_4) k2 ?_ (by decide) (by decide)
  try rw [hE]
  exact ⟨rfl, N0, rfl⟩
theorem d_jdk_42_method_66_code_0 : decode jdk_42_method_66_code 0 = .ok (.aload_n 0, 1) := by decide +kernel
theorem d_jdk_42_method_66_code_1 : decode jdk_42_method_66_code 1 = .ok (.aload_n 1, 1) := by decide +kernel
theorem d_jdk_42_method_66_code_2 : decode jdk_42_method_66_code 2 = .ok (.if_acmp .ne 5, 3) := by decide +kernel
theorem d_jdk_42_method_66_code_5 : decode jdk_42_method_66_code 5 = .ok (.iconst 1, 1) := by decide +kernel
theorem d_jdk_42_method_66_code_6 : decode jdk_42_method_66_code 6 = .ok (.ireturn, 1) := by decide +kernel
theorem d_jdk_42_method_66_code_7 : decode jdk_42_method_66_code 7 = .ok (.aload_n 1, 1) := by decide +kernel
theorem d_jdk_42_method_66_code_8 : decode jdk_42_method_66_code 8 = .ok (.instanceof 10, 3) := by decide +kernel
theorem d_jdk_42_method_66_code_11 : decode jdk_42_method_66_code 11 = .ok (.ifCond .eq 43, 3) := by decide +kernel
theorem d_jdk_42_method_66_code_14 : decode jdk_42_method_66_code 14 = .ok (.aload_n 1, 1) := by decide +kernel
theorem d_jdk_42_method_66_code_15 : decode jdk_42_method_66_code 15 = .ok (.checkcast 10, 3) := by decide +kernel
theorem d_jdk_42_method_66_code_18 : decode jdk_42_method_66_code 18 = .ok (.astore_n 2, 1) := by decide +kernel
theorem d_jdk_42_method_66_code_19 : decode jdk_42_method_66_code 19 = .ok (.getstatic 38, 3) := by decide +kernel
theorem d_jdk_42_method_66_code_22 : decode jdk_42_method_66_code 22 = .ok (.ifCond .eq 14, 3) := by decide +kernel
theorem d_jdk_42_method_66_code_25 : decode jdk_42_method_66_code 25 = .ok (.aload_n 0, 1) := by decide +kernel
theorem d_jdk_42_method_66_code_26 : decode jdk_42_method_66_code 26 = .ok (.getfield 15, 3) := by decide +kernel
theorem d_jdk_42_method_66_code_29 : decode jdk_42_method_66_code 29 = .ok (.aload_n 2, 1) := by decide +kernel
theorem d_jdk_42_method_66_code_30 : decode jdk_42_method_66_code 30 = .ok (.getfield 15, 3) := by decide +kernel
theorem d_jdk_42_method_66_code_33 : decode jdk_42_method_66_code 33 = .ok (.if_icmp .ne 21, 3) := by decide +kernel
theorem d_jdk_42_method_66_code_36 : decode jdk_42_method_66_code 36 = .ok (.aload_n 0, 1) := by decide +kernel
theorem d_jdk_42_method_66_code_37 : decode jdk_42_method_66_code 37 = .ok (.getfield 9, 3) := by decide +kernel
theorem d_jdk_42_method_66_code_40 : decode jdk_42_method_66_code 40 = .ok (.aload_n 2, 1) := by decide +kernel
theorem d_jdk_42_method_66_code_41 : decode jdk_42_method_66_code 41 = .ok (.getfield 9, 3) := by decide +kernel
theorem d_jdk_42_method_66_code_44 : decode jdk_42_method_66_code 44 = .ok (.invokestatic 541, 3) := by decide +kernel
theorem d_jdk_42_method_66_code_47 : decode jdk_42_method_66_code 47 = .ok (.ifCond .eq 7, 3) := by decide +kernel
theorem d_jdk_42_method_66_code_50 : decode jdk_42_method_66_code 50 = .ok (.iconst 1, 1) := by decide +kernel
theorem d_jdk_42_method_66_code_51 : decode jdk_42_method_66_code 51 = .ok (.goto 4, 3) := by decide +kernel
theorem d_jdk_42_method_66_code_54 : decode jdk_42_method_66_code 54 = .ok (.iconst 0, 1) := by decide +kernel
theorem d_jdk_42_method_66_code_55 : decode jdk_42_method_66_code 55 = .ok (.ireturn, 1) := by decide +kernel
set_option maxRecDepth 65536 in
set_option maxHeartbeats 40000000 in
theorem rm_eq (l : Launch) (Z : State) (a0 : Array Value) (hw : ∀ d ∈ tables_1, d.before a0 Z = true) (a : Addr) (h0 : Heap) (n0 : Nat) (hn0 : n0 ≤ h0.size)  :
    Con l Z (⟨"java/lang/String", "equals", "(Ljava/lang/Object;)Z"⟩ : MethodName) jdk_42_method_66_code 3 (some .boolean) [] ({ frames := 0, cells := 0, slots := 0, locals := 0 } : Room) #[(.ref a), (.ref a)] h0 (fun v h L => v = some (.int (1 : Int32)) ∧ Fr n0 L ∧ h = h0) := by
  refine enter (Ls := #[.val (.ref a), .val (.ref a), .unset]) (plainFor_of_name pn_1) (fun m => by exact entry_eq rfl) ?_
  intro p e s m below meth cd_ s₁ S0 hx hby hml hret hlk hnm hown hZ X0 e0 k0
  have N0 := Fr.nil n0
  have k1 : To p.tables e below S0 (s₁.setTop (mkF m 6 #[.val (.ref a), .val (.ref a), .unset] [(.int (1 : Int32))])) := fun tt hq => k0 tt (by
    show Steps _ _ _ (s₁.setTop (mkF m 0 #[.val (.ref a), .val (.ref a), .unset] [])) _
    refine XS.aloadN X0.here hx rfl (hb hby d_jdk_42_method_66_code_0) rfl rfl ?_
    show Steps _ _ _ (s₁.setTop (mkF m 1 #[.val (.ref a), .val (.ref a), .unset] [(.ref a)])) _
    refine XS.aloadN X0.here hx rfl (hb hby d_jdk_42_method_66_code_1) rfl rfl ?_
    show Steps _ _ _ (s₁.setTop (mkF m 2 #[.val (.ref a), .val (.ref a), .unset] [(.ref a), (.ref a)])) _
    refine Jvm.RoadKit.acmp (g := (mkF m 2 #[.val (.ref a), .val (.ref a), .unset] [(.ref a), (.ref a)])) X0 hx rfl rfl rfl (pc0 := 2) (pc' := 5) (same := true) rfl (hb hby d_jdk_42_method_66_code_2) rfl (decide_eq_true rfl) (by decide) (by decide) ?_
    show Steps _ _ _ (s₁.setTop (mkF m 5 #[.val (.ref a), .val (.ref a), .unset] [])) _
    refine XS.iconst X0.here hx rfl (hb hby d_jdk_42_method_66_code_5) ?_
    show Steps _ _ _ (s₁.setTop (mkF m 6 #[.val (.ref a), .val (.ref a), .unset] [(.int (1 : Int32))])) _
    exact hq)
  have hE := e0
  refine retInt X0 hx hret hlk (by simp) rfl (hb hby d_jdk_42_method_66_code_6) k1 ?_ (by decide) (by decide)
  try rw [hE]
  exact ⟨rfl, N0, rfl⟩
theorem own_and3 (k : Int32) : (k &&& (3 : Int32)) = (0 : Int32) ∨ (k &&& (3 : Int32)) = (1 : Int32) ∨ (k &&& (3 : Int32)) = (2 : Int32) ∨ (k &&& (3 : Int32)) = (3 : Int32) := by
  have h : (k &&& 3).toBitVec.toNat ≤ 3 := by
    rw [Int32.toBitVec_and, BitVec.toNat_and]; exact Nat.and_le_right
  simp only [← Int32.toBitVec_inj, ← BitVec.toNat_inj, show (0 : Int32).toBitVec.toNat = 0 from rfl, show (1 : Int32).toBitVec.toNat = 1 from rfl, show (2 : Int32).toBitVec.toNat = 2 from rfl, show (3 : Int32).toBitVec.toNat = 3 from rfl]
  omega
theorem pd_13 : parseMethodDescriptor "(ICCC)Ljava/lang/String;" = some ⟨[.int, .char, .char, .char], some (.object "java/lang/String")⟩ := by decide +kernel
theorem pd_14 : parseMethodDescriptor "(Lcom/example/apportion/apportion/policy/JsonValue$Kind;Ljava/lang/String;)Lcom/example/apportion/apportion/policy/JsonValue;" = some ⟨[(.object "com/example/apportion/apportion/policy/JsonValue$Kind"), (.object "java/lang/String")], some (.object "com/example/apportion/apportion/policy/JsonValue")⟩ := by decide +kernel
theorem pd_15 : parseMethodDescriptor "()Lcom/example/apportion/apportion/policy/JsonValue$Kind;" = some ⟨[], some (.object "com/example/apportion/apportion/policy/JsonValue$Kind")⟩ := by decide +kernel
theorem pd_16 : parseMethodDescriptor "()Ljava/lang/String;" = some ⟨[], some (.object "java/lang/String")⟩ := by decide +kernel
theorem pd_17 : parseMethodDescriptor "()I" = some ⟨[], some .int⟩ := by decide +kernel
theorem pd_18 : parseMethodDescriptor "(Ljava/lang/Object;)Z" = some ⟨[(.object "java/lang/Object")], some .boolean⟩ := by decide +kernel
set_option maxRecDepth 65536 in
set_option maxHeartbeats 40000000 in
theorem rm0 (l : Launch) (Z : State) (a0 : Array Value) (hw : ∀ d ∈ tables_1, d.before a0 Z = true) (zc : Int32) (qN : Addr) (qT : Addr) (qL : Addr) (qM : Addr) (bL : Addr) (kL : ClassId) (p0 : Int32) (p1 : Int32) (p2 : Int32) (p3 : Int32) (p4 : Int32) (h0 : Heap) (n0 : Nat) (hn0 : n0 ≤ h0.size) (S_c : Sta Z Z.heap "java/lang/String" "COMPACT_STRINGS" "Z" (.int zc)) (hzc : ¬ zc = (0 : Int32)) (S_NUMBER : Sta Z Z.heap "com/example/apportion/apportion/policy/JsonValue$Kind" "NUMBER" "Lcom/example/apportion/apportion/policy/JsonValue$Kind;" (.ref qN)) (S_TEXT : Sta Z Z.heap "com/example/apportion/apportion/policy/JsonValue$Kind" "TEXT" "Lcom/example/apportion/apportion/policy/JsonValue$Kind;" (.ref qT)) (S_EMPTY_LIST : Sta Z Z.heap "java/util/ImmutableCollections" "EMPTY_LIST" "Ljava/util/ImmutableCollections$ListN;" (.ref qL)) (S_EMPTY_MAP : Sta Z Z.heap "java/util/ImmutableCollections" "EMPTY_MAP" "Ljava/util/ImmutableCollections$MapN;" (.ref qM)) (AL : Exa Z Z.heap qL "java/util/ImmutableCollections$ListN") (AM : Exa Z Z.heap qM "java/util/ImmutableCollections$MapN") (FL : Fld Z Z.heap qL "java/util/ImmutableCollections$ListN" "elements" "[Ljava/lang/Object;" (.ref bL)) (FV : Arv Z Z.heap bL kL (.object "java/lang/Object") (0 : Int32) [] .null) (FM : Fld Z Z.heap qM "java/util/ImmutableCollections$MapN" "size" "I" (.int (0 : Int32))) (O0 : Old Z n0 h0) :
    ConW l Z own_EL x code maxLocals ret tables_1 room_1 #[(.int p0), (.int p1), (.int p2), (.int p3), (.int p4)] h0 [] (fun v h L => v = some (.int 1) ∧ Fr n0 L) := by
  refine enterW (Ls := #[.val (.int p0), .val (.int p1), .val (.int p2), .val (.int p3), .val (.int p4), .unset, .unset, .unset, .unset, .unset, .unset, .unset, .unset]) (plainFor_of_name pn_3) (fun m => by exact entry_eq rfl) ?_
  intro p e s m below meth cd_ s₁ S0 vm0 hx hby hml hret hlk hnm hown hZ X0 e0 k0 C0 hsf hS0
  have N0 := Fr.nil n0
  let l1 : Array Slot := #[.val (.int p0), .val (.int p1), .val (.int p2), .val (.int p3), .val (.int p4), .unset, .unset, .unset, .unset, .unset, .unset, .unset, .unset]
  have k2 : To p.tables e below S0 (s₁.setTop (mkF m 3 l1 [(.int (p0 &&& (1 : Int32)))])) := fun tt hq => k0 tt (by
    show Steps _ _ _ (s₁.setTop (mkF m 0 l1 [])) _
    refine XS.iloadN X0.here hx rfl (hb hby at_0) rfl ?_
    show Steps _ _ _ (s₁.setTop (mkF m 1 l1 [(.int p0)])) _
    refine XS.iconst X0.here hx rfl (hb hby at_1) ?_
    show Steps _ _ _ (s₁.setTop (mkF m 2 l1 [(.int (1 : Int32)), (.int p0)])) _
    refine XS.iand X0.here hx rfl (hb hby at_2) rfl ?_
    show Steps _ _ _ (s₁.setTop (mkF m 3 l1 [(.int (p0 &&& (1 : Int32)))])) _
    exact hq)
  refine joinT (S0 := S0) X0 e0 (mkF m 15 l1 [(.ref (if (p0 &&& (1 : Int32)) = (0 : Int32) then qT else qN))]) (fun kont => ?_) (fun T3 X3 e3 k3 => ?_)
  · -- the roads to pc 15
    by_cases hc3_4 : (p0 &&& (1 : Int32)) = (0 : Int32)
    · -- pc 3, holds
      have k5 : To p.tables e below S0 (s₁.setTop (mkF m 12 l1 [])) := fun tt hq => k2 tt (by
        show Steps _ _ _ (s₁.setTop (mkF m 3 l1 [(.int (p0 &&& (1 : Int32)))])) _
        refine XS.ifYes X0.here hx rfl (pc0 := 3) (pc' := 12) rfl (hb hby at_3) rfl ((if0 _ _).trans (teq hc3_4).1) (by decide) (by decide) ?_
        show Steps _ _ _ (s₁.setTop (mkF m 12 l1 [])) _
        exact hq)
      obtain ⟨T6, X6, e6, st6⟩ := getS2 X0 hx hZ hown (host := "") (Or.inl (hw _ (List.mem_of_getElem? (i := 0) rfl))) Via.refl e0 (staOld S_TEXT O0) (g := (mkF m 12 l1 [])) rfl (hb hby at_12)
      have k6 : To p.tables e below S0 (T6.setTop (mkF m 15 l1 [(.ref qT)])) := fun tt hq => k5 tt (st6 tt hq)
      exact kont T6 X6 e6 (fun tt hq => k6 tt (by simpa only [if_pos hc3_4, l1] using hq))
    · -- pc 3, holds not
      have k7 : To p.tables e below S0 (s₁.setTop (mkF m 6 l1 [])) := fun tt hq => k2 tt (by
        show Steps _ _ _ (s₁.setTop (mkF m 3 l1 [(.int (p0 &&& (1 : Int32)))])) _
        refine XS.ifNo X0.here hx rfl (hb hby at_3) rfl ((if0 _ _).trans (feq hc3_4).1) ?_
        show Steps _ _ _ (s₁.setTop (mkF m 6 l1 [])) _
        exact hq)
      obtain ⟨T8, X8, e8, st8⟩ := getS2 X0 hx hZ hown (host := "") (Or.inl (hw _ (List.mem_of_getElem? (i := 118) rfl))) Via.refl e0 (staOld S_NUMBER O0) (g := (mkF m 6 l1 [])) rfl (hb hby at_6)
      have k8 : To p.tables e below S0 (T8.setTop (mkF m 9 l1 [(.ref qN)])) := fun tt hq => k7 tt (st8 tt hq)
      have k9 : To p.tables e below S0 (T8.setTop (mkF m 15 l1 [(.ref qN)])) := fun tt hq => k8 tt (by
        show Steps _ _ _ (T8.setTop (mkF m 9 l1 [(.ref qN)])) _
        refine XS.goto X8.here hx rfl (pc0 := 9) (pc' := 15) rfl (hb hby at_9) (by decide) (by decide) ?_
        show Steps _ _ _ (T8.setTop (mkF m 15 l1 [(.ref qN)])) _
        exact hq)
      exact kont T8 X8 e8 (fun tt hq => k9 tt (by simpa only [if_neg hc3_4, l1] using hq))
  let l10 : Array Slot := #[.val (.int p0), .val (.int p1), .val (.int p2), .val (.int p3), .val (.int p4), .val (.ref (if (p0 &&& (1 : Int32)) = (0 : Int32) then qT else qN)), .unset, .unset, .unset, .unset, .unset, .unset, .unset]
  have k11 : To p.tables e below S0 (T3.setTop (mkF m 23 l10 [(.int ((p1 &&& (255 : Int32)).toUInt32.toUInt16.toUInt32.toInt32))])) := fun tt hq => k3 tt (by
    show Steps _ _ _ (T3.setTop (mkF m 15 l1 [(.ref (if (p0 &&& (1 : Int32)) = (0 : Int32) then qT else qN))])) _
    refine XS.astore X3.here hx rfl (hb hby at_15) rfl rfl (l' := l10) rfl ?_
    show Steps _ _ _ (T3.setTop (mkF m 17 l10 [])) _
    refine XS.iloadN X3.here hx rfl (hb hby at_17) rfl ?_
    show Steps _ _ _ (T3.setTop (mkF m 18 l10 [(.int p1)])) _
    refine XS.sipush X3.here hx rfl (hb hby at_18) ?_
    show Steps _ _ _ (T3.setTop (mkF m 21 l10 [(.int (255 : Int32)), (.int p1)])) _
    refine XS.iand X3.here hx rfl (hb hby at_21) rfl ?_
    show Steps _ _ _ (T3.setTop (mkF m 22 l10 [(.int (p1 &&& (255 : Int32)))])) _
    refine XS.i2c X3.here hx rfl (hb hby at_22) rfl ?_
    show Steps _ _ _ (T3.setTop (mkF m 23 l10 [(.int ((p1 &&& (255 : Int32)).toUInt32.toUInt16.toUInt32.toInt32))])) _
    exact hq)
  have k12 : To p.tables e below S0 (T3.setTop (mkF m 23 l10 [(.int (p1 &&& (255 : Int32)))])) := by have hq := k11; rw [i2c_mask] at hq; exact hq
  let l13 : Array Slot := #[.val (.int p0), .val (.int p1), .val (.int p2), .val (.int p3), .val (.int p4), .val (.ref (if (p0 &&& (1 : Int32)) = (0 : Int32) then qT else qN)), .val (.int (p1 &&& (255 : Int32))), .unset, .unset, .unset, .unset, .unset, .unset]
  have k14 : To p.tables e below S0 (T3.setTop (mkF m 31 l13 [(.int ((p2 &&& (255 : Int32)).toUInt32.toUInt16.toUInt32.toInt32))])) := fun tt hq => k12 tt (by
    show Steps _ _ _ (T3.setTop (mkF m 23 l10 [(.int (p1 &&& (255 : Int32)))])) _
    refine XS.istore X3.here hx rfl (hb hby at_23) rfl (l' := l13) rfl ?_
    show Steps _ _ _ (T3.setTop (mkF m 25 l13 [])) _
    refine XS.iloadN X3.here hx rfl (hb hby at_25) rfl ?_
    show Steps _ _ _ (T3.setTop (mkF m 26 l13 [(.int p2)])) _
    refine XS.sipush X3.here hx rfl (hb hby at_26) ?_
    show Steps _ _ _ (T3.setTop (mkF m 29 l13 [(.int (255 : Int32)), (.int p2)])) _
    refine XS.iand X3.here hx rfl (hb hby at_29) rfl ?_
    show Steps _ _ _ (T3.setTop (mkF m 30 l13 [(.int (p2 &&& (255 : Int32)))])) _
    refine XS.i2c X3.here hx rfl (hb hby at_30) rfl ?_
    show Steps _ _ _ (T3.setTop (mkF m 31 l13 [(.int ((p2 &&& (255 : Int32)).toUInt32.toUInt16.toUInt32.toInt32))])) _
    exact hq)
  have k15 : To p.tables e below S0 (T3.setTop (mkF m 31 l13 [(.int (p2 &&& (255 : Int32)))])) := by have hq := k14; rw [i2c_mask] at hq; exact hq
  let l16 : Array Slot := #[.val (.int p0), .val (.int p1), .val (.int p2), .val (.int p3), .val (.int p4), .val (.ref (if (p0 &&& (1 : Int32)) = (0 : Int32) then qT else qN)), .val (.int (p1 &&& (255 : Int32))), .val (.int (p2 &&& (255 : Int32))), .unset, .unset, .unset, .unset, .unset]
  have k17 : To p.tables e below S0 (T3.setTop (mkF m 39 l16 [(.int ((p3 &&& (255 : Int32)).toUInt32.toUInt16.toUInt32.toInt32))])) := fun tt hq => k15 tt (by
    show Steps _ _ _ (T3.setTop (mkF m 31 l13 [(.int (p2 &&& (255 : Int32)))])) _
    refine XS.istore X3.here hx rfl (hb hby at_31) rfl (l' := l16) rfl ?_
    show Steps _ _ _ (T3.setTop (mkF m 33 l16 [])) _
    refine XS.iloadN X3.here hx rfl (hb hby at_33) rfl ?_
    show Steps _ _ _ (T3.setTop (mkF m 34 l16 [(.int p3)])) _
    refine XS.sipush X3.here hx rfl (hb hby at_34) ?_
    show Steps _ _ _ (T3.setTop (mkF m 37 l16 [(.int (255 : Int32)), (.int p3)])) _
    refine XS.iand X3.here hx rfl (hb hby at_37) rfl ?_
    show Steps _ _ _ (T3.setTop (mkF m 38 l16 [(.int (p3 &&& (255 : Int32)))])) _
    refine XS.i2c X3.here hx rfl (hb hby at_38) rfl ?_
    show Steps _ _ _ (T3.setTop (mkF m 39 l16 [(.int ((p3 &&& (255 : Int32)).toUInt32.toUInt16.toUInt32.toInt32))])) _
    exact hq)
  have k18 : To p.tables e below S0 (T3.setTop (mkF m 39 l16 [(.int (p3 &&& (255 : Int32)))])) := by have hq := k17; rw [i2c_mask] at hq; exact hq
  let l19 : Array Slot := #[.val (.int p0), .val (.int p1), .val (.int p2), .val (.int p3), .val (.int p4), .val (.ref (if (p0 &&& (1 : Int32)) = (0 : Int32) then qT else qN)), .val (.int (p1 &&& (255 : Int32))), .val (.int (p2 &&& (255 : Int32))), .val (.int (p3 &&& (255 : Int32))), .unset, .unset, .unset, .unset]
  have k20 : To p.tables e below S0 (T3.setTop (mkF m 45 l19 [(.int (p4 &&& (3 : Int32)))])) := fun tt hq => k18 tt (by
    show Steps _ _ _ (T3.setTop (mkF m 39 l16 [(.int (p3 &&& (255 : Int32)))])) _
    refine XS.istore X3.here hx rfl (hb hby at_39) rfl (l' := l19) rfl ?_
    show Steps _ _ _ (T3.setTop (mkF m 41 l19 [])) _
    refine XS.iload X3.here hx rfl (hb hby at_41) rfl ?_
    show Steps _ _ _ (T3.setTop (mkF m 43 l19 [(.int p4)])) _
    refine XS.iconst X3.here hx rfl (hb hby at_43) ?_
    show Steps _ _ _ (T3.setTop (mkF m 44 l19 [(.int (3 : Int32)), (.int p4)])) _
    refine XS.iand X3.here hx rfl (hb hby at_44) rfl ?_
    show Steps _ _ _ (T3.setTop (mkF m 45 l19 [(.int (p4 &&& (3 : Int32)))])) _
    exact hq)
  rcases own_and3 p4 with ht21 | ht21 | ht21 | ht21
  · -- pc 45: (0 : Int32)
    have k22 : To p.tables e below S0 (T3.setTop (mkF m 45 l19 [(.int (0 : Int32))])) := by have hq := k20; rw [ht21] at hq; exact hq
    let l23 : Array Slot := #[.val (.int p0), .val (.int p1), .val (.int p2), .val (.int p3), .val (.int p4), .val (.ref (if (p0 &&& (1 : Int32)) = (0 : Int32) then qT else qN)), .val (.int (p1 &&& (255 : Int32))), .val (.int (p2 &&& (255 : Int32))), .val (.int (p3 &&& (255 : Int32))), .val (.int (0 : Int32)), .unset, .unset, .unset]
    have k24 : To p.tables e below S0 (T3.setTop (mkF m 55 l23 [(.int (p3 &&& (255 : Int32))), (.int (p2 &&& (255 : Int32))), (.int (p1 &&& (255 : Int32))), (.int (0 : Int32))])) := fun tt hq => k22 tt (by
      show Steps _ _ _ (T3.setTop (mkF m 45 l19 [(.int (0 : Int32))])) _
      refine XS.istore X3.here hx rfl (hb hby at_45) rfl (l' := l23) rfl ?_
      show Steps _ _ _ (T3.setTop (mkF m 47 l23 [])) _
      refine XS.iload X3.here hx rfl (hb hby at_47) rfl ?_
      show Steps _ _ _ (T3.setTop (mkF m 49 l23 [(.int (0 : Int32))])) _
      refine XS.iload X3.here hx rfl (hb hby at_49) rfl ?_
      show Steps _ _ _ (T3.setTop (mkF m 51 l23 [(.int (p1 &&& (255 : Int32))), (.int (0 : Int32))])) _
      refine XS.iload X3.here hx rfl (hb hby at_51) rfl ?_
      show Steps _ _ _ (T3.setTop (mkF m 53 l23 [(.int (p2 &&& (255 : Int32))), (.int (p1 &&& (255 : Int32))), (.int (0 : Int32))])) _
      refine XS.iload X3.here hx rfl (hb hby at_53) rfl ?_
      show Steps _ _ _ (T3.setTop (mkF m 55 l23 [(.int (p3 &&& (255 : Int32))), (.int (p2 &&& (255 : Int32))), (.int (p1 &&& (255 : Int32))), (.int (0 : Int32))])) _
      exact hq)
    obtain ⟨_, T25, L25, X25, ⟨a25, t25, k25x, rfl, Nq25, ga25, yt25, Kq25, P250, P251, P252, P253⟩, k25a, Cq25, hS25, hZ25, hown25⟩ := callSW X3 hx hZ (y := (⟨"com/example/apportion/apportion/policy/JsonValueWrittenPinLaw", "drawn", "(ICCC)Ljava/lang/String;"⟩ : MethodName)) hown hS0 (by omega) (hw _ (List.mem_of_getElem? (i := 3) rfl)) (hw _ (List.mem_of_getElem? (i := 4) rfl)) (hw _ (List.mem_of_getElem? (i := 5) rfl)) (hw _ (List.mem_of_getElem? (i := 6) rfl)) (by decide) (backOfW (W := 0) (rm_dr0 l Z a0 hw zc (p1 &&& (255 : Int32)) (p2 &&& (255 : Int32)) (p3 &&& (255 : Int32)) h0 n0 (by omega) S_c hzc O0 (own_m255 _) (own_m255 _) (own_m255 _)) hZ (hw _ (List.mem_of_getElem? (i := 6) rfl)) (hw _ (List.mem_of_getElem? (i := 5) rfl)) (by decide) (by decide) (own_EW hw) C0.1 all0) e3 (argsL := [(.int (0 : Int32)), (.int (p1 &&& (255 : Int32))), (.int (p2 &&& (255 : Int32))), (.int (p3 &&& (255 : Int32)))]) (rest := []) rfl rfl pd_13 rfl (by rw [hml]; rfl) (hb hby at_55) (Nat.le_of_eq rfl) (by decide) (by decide) k24
    have k25 : To p.tables e below S0 (T25.setTop (mkF m 58 l23 [(.ref a25)])) := k25a
    have N25 := N0.app Nq25
    obtain ⟨h25, e25⟩ : ∃ z, T25.heap = z := ⟨_, rfl⟩
    rw [e25] at Kq25 yt25 P250 P251 P252 P253 Cq25 hS25
    have z25 : h0.size ≤ h25.size := Kq25.1
    have C25 := C0.trans Cq25
    have ya25 : @LT.lt Nat instLTNat a25 h25.size := P250.lt
    let l26 : Array Slot := #[.val (.int p0), .val (.int p1), .val (.int p2), .val (.int p3), .val (.int p4), .val (.ref (if (p0 &&& (1 : Int32)) = (0 : Int32) then qT else qN)), .val (.int (p1 &&& (255 : Int32))), .val (.int (p2 &&& (255 : Int32))), .val (.int (p3 &&& (255 : Int32))), .val (.int (0 : Int32)), .val (.ref a25), .unset, .unset]
    have k27 : To p.tables e below S0 (T25.setTop (mkF m 64 l26 [(.ref a25), (.ref (if (p0 &&& (1 : Int32)) = (0 : Int32) then qT else qN))])) := fun tt hq => k25 tt (by
      show Steps _ _ _ (T25.setTop (mkF m 58 l23 [(.ref a25)])) _
      refine XS.astore X25.here hx rfl (hb hby at_58) rfl rfl (l' := l26) rfl ?_
      show Steps _ _ _ (T25.setTop (mkF m 60 l26 [])) _
      refine XS.aload X25.here hx rfl (hb hby at_60) rfl rfl ?_
      show Steps _ _ _ (T25.setTop (mkF m 62 l26 [(.ref (if (p0 &&& (1 : Int32)) = (0 : Int32) then qT else qN))])) _
      refine XS.aload X25.here hx rfl (hb hby at_62) rfl rfl ?_
      show Steps _ _ _ (T25.setTop (mkF m 64 l26 [(.ref a25), (.ref (if (p0 &&& (1 : Int32)) = (0 : Int32) then qT else qN))])) _
      exact hq)
    have f28 : Old Z n0 h25 := (O0.keep Kq25 all0)
    obtain ⟨_, T29, L29, X29, ⟨b29, rfl, Nq29, gb29, Kq29, P29_0, P29_1, P29_2, P29_3, P29_4⟩, k29a⟩ := callS' X25 hx hZ25 (y := (⟨"com/example/apportion/apportion/policy/JsonValue", "written", "(Lcom/example/apportion/apportion/policy/JsonValue$Kind;Ljava/lang/String;)Lcom/example/apportion/apportion/policy/JsonValue;"⟩ : MethodName)) hown25 (hw _ (List.mem_of_getElem? (i := 29) rfl)) (hw _ (List.mem_of_getElem? (i := 30) rfl)) (hw _ (List.mem_of_getElem? (i := 31) rfl)) (hw _ (List.mem_of_getElem? (i := 32) rfl)) (by decide) (backC (W := 0) (rmwritten l Z a0 hw zc qN qT qL qM (if (p0 &&& (1 : Int32)) = (0 : Int32) then qT else qN) a25 h25 n0 (by omega) S_c hzc S_NUMBER S_TEXT S_EMPTY_LIST S_EMPTY_MAP f28) hZ25 (hw _ (List.mem_of_getElem? (i := 32) rfl)) (hw _ (List.mem_of_getElem? (i := 31) rfl)) (by decide) (by decide)) e25 (argsL := [(.ref (if (p0 &&& (1 : Int32)) = (0 : Int32) then qT else qN)), (.ref a25)]) (rest := []) rfl rfl pd_14 rfl (by rw [hml]; rfl) (hb hby at_64) (Nat.le_of_eq rfl) (by decide) (by decide) k27
    have k29 : To p.tables e below S0 (T29.setTop (mkF m 67 l26 [(.ref b29)])) := k29a
    have N29 := N25.app Nq29
    obtain ⟨h29, e29⟩ : ∃ z, T29.heap = z := ⟨_, rfl⟩
    rw [e29] at Kq29 P29_0 P29_1 P29_2 P29_3 P29_4
    have z29 : h25.size ≤ h29.size := Kq29.1
    have C29 := C25.trans (CHr.keep Kq29 sf0 C25.1)
    let l30 : Array Slot := #[.val (.int p0), .val (.int p1), .val (.int p2), .val (.int p3), .val (.int p4), .val (.ref (if (p0 &&& (1 : Int32)) = (0 : Int32) then qT else qN)), .val (.int (p1 &&& (255 : Int32))), .val (.int (p2 &&& (255 : Int32))), .val (.int (p3 &&& (255 : Int32))), .val (.int (0 : Int32)), .val (.ref a25), .val (.ref b29), .unset]
    have k31 : To p.tables e below S0 (T29.setTop (mkF m 71 l30 [(.ref b29)])) := fun tt hq => k29 tt (by
      show Steps _ _ _ (T29.setTop (mkF m 67 l26 [(.ref b29)])) _
      refine XS.astore X29.here hx rfl (hb hby at_67) rfl rfl (l' := l30) rfl ?_
      show Steps _ _ _ (T29.setTop (mkF m 69 l30 [])) _
      refine XS.aload X29.here hx rfl (hb hby at_69) rfl rfl ?_
      show Steps _ _ _ (T29.setTop (mkF m 71 l30 [(.ref b29)])) _
      exact hq)
    obtain ⟨_, T32, L32, X32, ⟨rfl, Nq32, eq32⟩, k32a⟩ := callV' X29 hx hZ25 (y := (⟨"com/example/apportion/apportion/policy/JsonValue", "getKind", "()Lcom/example/apportion/apportion/policy/JsonValue$Kind;"⟩ : MethodName)) (z := (⟨"com/example/apportion/apportion/policy/JsonValue", "getKind", "()Lcom/example/apportion/apportion/policy/JsonValue$Kind;"⟩ : MethodName)) hown25 (hw _ (List.mem_of_getElem? (i := 58) rfl)) (hw _ (List.mem_of_getElem? (i := 59) rfl)) (notFace_of_selects (args := #[]) (mvT hZ25 (hw _ (List.mem_of_getElem? (i := 61) rfl)))) (hw _ (List.mem_of_getElem? (i := 61) rfl)) (hw _ (List.mem_of_getElem? (i := 60) rfl)) (by decide) P29_0 (backC (W := 0) (rmgetkind l Z a0 hw b29 (.ref (if (p0 &&& (1 : Int32)) = (0 : Int32) then qT else qN)) h29 n0 (by omega) P29_1 rfl) hZ25 (hw _ (List.mem_of_getElem? (i := 62) rfl)) (hw _ (List.mem_of_getElem? (i := 31) rfl)) (by decide) (by decide)) e29 (argsL := []) (rest := []) rfl rfl pd_15 rfl (by rw [hml]; rfl) (hb hby at_71) (Nat.le_of_eq rfl) (by decide) (by decide) k31
    have k32 : To p.tables e below S0 (T32.setTop (mkF m 74 l30 [(.ref (if (p0 &&& (1 : Int32)) = (0 : Int32) then qT else qN))])) := k32a
    have N32 := N29.app Nq32
    have e32 : T32.heap = h29 := eq32
    have k33 : To p.tables e below S0 (T32.setTop (mkF m 83 l30 [(.ref b29)])) := fun tt hq => k32 tt (by
      show Steps _ _ _ (T32.setTop (mkF m 74 l30 [(.ref (if (p0 &&& (1 : Int32)) = (0 : Int32) then qT else qN))])) _
      refine XS.aload X32.here hx rfl (hb hby at_74) rfl rfl ?_
      show Steps _ _ _ (T32.setTop (mkF m 76 l30 [(.ref (if (p0 &&& (1 : Int32)) = (0 : Int32) then qT else qN)), (.ref (if (p0 &&& (1 : Int32)) = (0 : Int32) then qT else qN))])) _
      refine Jvm.RoadKit.acmp (g := (mkF m 76 l30 [(.ref (if (p0 &&& (1 : Int32)) = (0 : Int32) then qT else qN)), (.ref (if (p0 &&& (1 : Int32)) = (0 : Int32) then qT else qN))])) X32 hx rfl rfl rfl (pc0 := 76) (pc' := 81) (same := true) rfl (hb hby at_76) rfl (decide_eq_true rfl) (by decide) (by decide) ?_
      show Steps _ _ _ (T32.setTop (mkF m 81 l30 [])) _
      refine XS.aload X32.here hx rfl (hb hby at_81) rfl rfl ?_
      show Steps _ _ _ (T32.setTop (mkF m 83 l30 [(.ref b29)])) _
      exact hq)
    obtain ⟨_, T34, L34, X34, ⟨rfl, Nq34, eq34⟩, k34a⟩ := callV' X32 hx hZ25 (y := (⟨"com/example/apportion/apportion/policy/JsonValue", "getText", "()Ljava/lang/String;"⟩ : MethodName)) (z := (⟨"com/example/apportion/apportion/policy/JsonValue", "getText", "()Ljava/lang/String;"⟩ : MethodName)) hown25 (hw _ (List.mem_of_getElem? (i := 63) rfl)) (hw _ (List.mem_of_getElem? (i := 64) rfl)) (notFace_of_selects (args := #[]) (mvT hZ25 (hw _ (List.mem_of_getElem? (i := 66) rfl)))) (hw _ (List.mem_of_getElem? (i := 66) rfl)) (hw _ (List.mem_of_getElem? (i := 65) rfl)) (by decide) P29_0 (backC (W := 0) (rmgettext l Z a0 hw b29 (.ref a25) h29 n0 (by omega) P29_2 rfl) hZ25 (hw _ (List.mem_of_getElem? (i := 67) rfl)) (hw _ (List.mem_of_getElem? (i := 31) rfl)) (by decide) (by decide)) e32 (argsL := []) (rest := []) rfl rfl pd_16 rfl (by rw [hml]; rfl) (hb hby at_83) (Nat.le_of_eq rfl) (by decide) (by decide) k33
    have k34 : To p.tables e below S0 (T34.setTop (mkF m 86 l30 [(.ref a25)])) := k34a
    have N34 := N32.app Nq34
    have e34 : T34.heap = h29 := eq34
    let l35 : Array Slot := #[.val (.int p0), .val (.int p1), .val (.int p2), .val (.int p3), .val (.int p4), .val (.ref (if (p0 &&& (1 : Int32)) = (0 : Int32) then qT else qN)), .val (.int (p1 &&& (255 : Int32))), .val (.int (p2 &&& (255 : Int32))), .val (.int (p3 &&& (255 : Int32))), .val (.int (0 : Int32)), .val (.ref a25), .val (.ref b29), .val (.ref a25)]
    have k36 : To p.tables e below S0 (T34.setTop (mkF m 97 l35 [(.ref a25)])) := fun tt hq => k34 tt (by
      show Steps _ _ _ (T34.setTop (mkF m 86 l30 [(.ref a25)])) _
      refine XS.astore X34.here hx rfl (hb hby at_86) rfl rfl (l' := l35) rfl ?_
      show Steps _ _ _ (T34.setTop (mkF m 88 l35 [])) _
      refine XS.aload X34.here hx rfl (hb hby at_88) rfl rfl ?_
      show Steps _ _ _ (T34.setTop (mkF m 90 l35 [(.ref a25)])) _
      refine XS.ifnonnullYes X34.here hx rfl (pc0 := 90) (pc' := 95) rfl (hb hby at_90) rfl (by decide) (by decide) ?_
      show Steps _ _ _ (T34.setTop (mkF m 95 l35 [])) _
      refine XS.aload X34.here hx rfl (hb hby at_95) rfl rfl ?_
      show Steps _ _ _ (T34.setTop (mkF m 97 l35 [(.ref a25)])) _
      exact hq)
    have f37 : Old Z n0 h29 := (f28.keep Kq29 all0)
    have f38 : Exa Z h29 a25 "java/lang/String" := (P250.keep Kq29)
    have f39 : Fld Z h29 a25 "java/lang/String" "value" "[B" (.ref t25) := (P251.keep Kq29 nin0)
    have f40 : Fld Z h29 a25 "java/lang/String" "coder" "B" (.int (0 : Int32)) := (P252.keep Kq29 nin0)
    have f41 : Arv Z h29 t25 k25x .byte (0 : Int32) [] (.int 0) := (P253.keep Kq29 nin0)
    obtain ⟨_, T42, L42, X42, ⟨rfl, Nq42, eq42⟩, k42a⟩ := callV' X34 hx hZ25 (y := (⟨"java/lang/String", "length", "()I"⟩ : MethodName)) (z := (⟨"java/lang/String", "length", "()I"⟩ : MethodName)) hown25 (hw _ (List.mem_of_getElem? (i := 68) rfl)) (hw _ (List.mem_of_getElem? (i := 69) rfl)) (notFace_of_selects (args := #[]) (mvT hZ25 (hw _ (List.mem_of_getElem? (i := 71) rfl)))) (hw _ (List.mem_of_getElem? (i := 71) rfl)) (hw _ (List.mem_of_getElem? (i := 70) rfl)) (by decide) f38 (backC (W := 0) (rm_len0 l Z a0 hw zc a25 t25 k25x  h29 n0 (by omega) S_c hzc f37 f38 f39 f40 f41) hZ25 (hw _ (List.mem_of_getElem? (i := 72) rfl)) (hw _ (List.mem_of_getElem? (i := 9) rfl)) (by decide) (by decide)) e34 (argsL := []) (rest := []) rfl rfl pd_17 rfl (by rw [hml]; rfl) (hb hby at_97) (Nat.le_of_eq rfl) (by decide) (by decide) k36
    have k42 : To p.tables e below S0 (T42.setTop (mkF m 100 l35 [(.int (0 : Int32))])) := k42a
    have N42 := N34.app Nq42
    have e42 : T42.heap = h29 := eq42
    have k43 : To p.tables e below S0 (T42.setTop (mkF m 111 l35 [(.ref a25), (.ref a25)])) := fun tt hq => k42 tt (by
      show Steps _ _ _ (T42.setTop (mkF m 100 l35 [(.int (0 : Int32))])) _
      refine XS.iload X42.here hx rfl (hb hby at_100) rfl ?_
      show Steps _ _ _ (T42.setTop (mkF m 102 l35 [(.int (0 : Int32)), (.int (0 : Int32))])) _
      refine XS.icmpYes X42.here hx rfl (pc0 := 102) (pc' := 107) rfl (hb hby at_102) rfl (teq (by decide)).1 (by decide) (by decide) ?_
      show Steps _ _ _ (T42.setTop (mkF m 107 l35 [])) _
      refine XS.aload X42.here hx rfl (hb hby at_107) rfl rfl ?_
      show Steps _ _ _ (T42.setTop (mkF m 109 l35 [(.ref a25)])) _
      refine XS.aload X42.here hx rfl (hb hby at_109) rfl rfl ?_
      show Steps _ _ _ (T42.setTop (mkF m 111 l35 [(.ref a25), (.ref a25)])) _
      exact hq)
    obtain ⟨_, T44, L44, X44, ⟨rfl, Nq44, eq44⟩, k44a⟩ := callV' X42 hx hZ25 (y := (⟨"java/lang/String", "equals", "(Ljava/lang/Object;)Z"⟩ : MethodName)) (z := (⟨"java/lang/String", "equals", "(Ljava/lang/Object;)Z"⟩ : MethodName)) hown25 (hw _ (List.mem_of_getElem? (i := 79) rfl)) (hw _ (List.mem_of_getElem? (i := 80) rfl)) (notFace_of_selects (args := #[]) (mvT hZ25 (hw _ (List.mem_of_getElem? (i := 82) rfl)))) (hw _ (List.mem_of_getElem? (i := 82) rfl)) (hw _ (List.mem_of_getElem? (i := 81) rfl)) (by decide) f38 (backC (W := 0) (rm_eq l Z a0 hw a25 h29 n0 (by omega)) hZ25 (hw _ (List.mem_of_getElem? (i := 83) rfl)) (hw _ (List.mem_of_getElem? (i := 9) rfl)) (by decide) (by decide)) e42 (argsL := [(.ref a25)]) (rest := []) rfl rfl pd_18 rfl (by rw [hml]; rfl) (hb hby at_111) (Nat.le_of_eq rfl) (by decide) (by decide) k43
    have k44 : To p.tables e below S0 (T44.setTop (mkF m 114 l35 [(.int (1 : Int32))])) := k44a
    have N44 := N42.app Nq44
    have e44 : T44.heap = h29 := eq44
    have k45 : To p.tables e below S0 (T44.setTop (mkF m 121 l35 [(.ref b29)])) := fun tt hq => k44 tt (by
      show Steps _ _ _ (T44.setTop (mkF m 114 l35 [(.int (1 : Int32))])) _
      refine XS.ifYes X44.here hx rfl (pc0 := 114) (pc' := 119) rfl (hb hby at_114) rfl ((if0 _ _).trans (feq (by decide)).2) (by decide) (by decide) ?_
      show Steps _ _ _ (T44.setTop (mkF m 119 l35 [])) _
      refine XS.aload X44.here hx rfl (hb hby at_119) rfl rfl ?_
      show Steps _ _ _ (T44.setTop (mkF m 121 l35 [(.ref b29)])) _
      exact hq)
    obtain ⟨_, T46, L46, X46, ⟨rfl, Nq46, eq46⟩, k46a⟩ := callV' X44 hx hZ25 (y := (⟨"com/example/apportion/apportion/policy/JsonValue", "getItems", "()Ljava/util/List;"⟩ : MethodName)) (z := (⟨"com/example/apportion/apportion/policy/JsonValue", "getItems", "()Ljava/util/List;"⟩ : MethodName)) hown25 (hw _ (List.mem_of_getElem? (i := 84) rfl)) (hw _ (List.mem_of_getElem? (i := 85) rfl)) (notFace_of_selects (args := #[]) (mvT hZ25 (hw _ (List.mem_of_getElem? (i := 87) rfl)))) (hw _ (List.mem_of_getElem? (i := 87) rfl)) (hw _ (List.mem_of_getElem? (i := 86) rfl)) (by decide) P29_0 (backC (W := 0) (rmgetitems l Z a0 hw b29 (.ref qL) h29 n0 (by omega) P29_3 rfl) hZ25 (hw _ (List.mem_of_getElem? (i := 88) rfl)) (hw _ (List.mem_of_getElem? (i := 31) rfl)) (by decide) (by decide)) e44 (argsL := []) (rest := []) rfl rfl pd_10 rfl (by rw [hml]; rfl) (hb hby at_121) (Nat.le_of_eq rfl) (by decide) (by decide) k45
    have k46 : To p.tables e below S0 (T46.setTop (mkF m 124 l35 [(.ref qL)])) := k46a
    have N46 := N44.app Nq46
    have e46 : T46.heap = h29 := eq46
    have f48 : Exa Z h29 qL "java/util/ImmutableCollections$ListN" := (((exaOld AL O0).keep Kq25).keep Kq29)
    obtain ⟨_, T47, L47, X47, ⟨rfl, Nq47, eq47⟩, k47a⟩ := callI' X46 hx hZ25 (y := (⟨"java/util/List", "size", "()I"⟩ : MethodName)) (z := (⟨"java/util/ImmutableCollections$ListN", "size", "()I"⟩ : MethodName)) hown25 (hw _ (List.mem_of_getElem? (i := 89) rfl)) (hw _ (List.mem_of_getElem? (i := 90) rfl)) (hw _ (List.mem_of_getElem? (i := 91) rfl)) (by first | rfl | simp [Cond.onTables, Cond.keepsFace, Cond.keeps, Cond.steady]) (hw _ (List.mem_of_getElem? (i := 92) rfl)) (hw _ (List.mem_of_getElem? (i := 93) rfl)) (hw _ (List.mem_of_getElem? (i := 94) rfl)) (hw _ (List.mem_of_getElem? (i := 95) rfl)) (hw _ (List.mem_of_getElem? (i := 96) rfl)) (by decide) f48 (backC (W := 0) (rmls l Z a0 hw qL bL kL h29 n0 (by omega) (fldOld FL f37) (FV.ext f37.2)) hZ25 (hw _ (List.mem_of_getElem? (i := 98) rfl)) (hw _ (List.mem_of_getElem? (i := 97) rfl)) (by decide) (by decide)) e46 (argsL := []) (rest := []) rfl rfl pd_17 rfl (by rw [hml]; rfl) (hb hby at_124) (Nat.le_of_eq rfl) (by decide) (by decide) k46
    have k47 : To p.tables e below S0 (T47.setTop (mkF m 129 l35 [(.int (0 : Int32))])) := k47a
    have N47 := N46.app Nq47
    have e47 : T47.heap = h29 := eq47
    have k49 : To p.tables e below S0 (T47.setTop (mkF m 136 l35 [(.ref b29)])) := fun tt hq => k47 tt (by
      show Steps _ _ _ (T47.setTop (mkF m 129 l35 [(.int (0 : Int32))])) _
      refine XS.ifYes X47.here hx rfl (pc0 := 129) (pc' := 134) rfl (hb hby at_129) rfl ((if0 _ _).trans (teq (by decide)).1) (by decide) (by decide) ?_
      show Steps _ _ _ (T47.setTop (mkF m 134 l35 [])) _
      refine XS.aload X47.here hx rfl (hb hby at_134) rfl rfl ?_
      show Steps _ _ _ (T47.setTop (mkF m 136 l35 [(.ref b29)])) _
      exact hq)
    obtain ⟨_, T50, L50, X50, ⟨rfl, Nq50, eq50⟩, k50a⟩ := callV' X47 hx hZ25 (y := (⟨"com/example/apportion/apportion/policy/JsonValue", "getMembers", "()Ljava/util/Map;"⟩ : MethodName)) (z := (⟨"com/example/apportion/apportion/policy/JsonValue", "getMembers", "()Ljava/util/Map;"⟩ : MethodName)) hown25 (hw _ (List.mem_of_getElem? (i := 101) rfl)) (hw _ (List.mem_of_getElem? (i := 102) rfl)) (notFace_of_selects (args := #[]) (mvT hZ25 (hw _ (List.mem_of_getElem? (i := 104) rfl)))) (hw _ (List.mem_of_getElem? (i := 104) rfl)) (hw _ (List.mem_of_getElem? (i := 103) rfl)) (by decide) P29_0 (backC (W := 0) (rmgetmembers l Z a0 hw b29 (.ref qM) h29 n0 (by omega) P29_4 rfl) hZ25 (hw _ (List.mem_of_getElem? (i := 105) rfl)) (hw _ (List.mem_of_getElem? (i := 31) rfl)) (by decide) (by decide)) e47 (argsL := []) (rest := []) rfl rfl pd_11 rfl (by rw [hml]; rfl) (hb hby at_136) (Nat.le_of_eq rfl) (by decide) (by decide) k49
    have k50 : To p.tables e below S0 (T50.setTop (mkF m 139 l35 [(.ref qM)])) := k50a
    have N50 := N47.app Nq50
    have e50 : T50.heap = h29 := eq50
    have f52 : Exa Z h29 qM "java/util/ImmutableCollections$MapN" := (((exaOld AM O0).keep Kq25).keep Kq29)
    obtain ⟨_, T51, L51, X51, ⟨rfl, Nq51, eq51⟩, k51a⟩ := callI' X50 hx hZ25 (y := (⟨"java/util/Map", "size", "()I"⟩ : MethodName)) (z := (⟨"java/util/ImmutableCollections$MapN", "size", "()I"⟩ : MethodName)) hown25 (hw _ (List.mem_of_getElem? (i := 106) rfl)) (hw _ (List.mem_of_getElem? (i := 107) rfl)) (hw _ (List.mem_of_getElem? (i := 108) rfl)) (by first | rfl | simp [Cond.onTables, Cond.keepsFace, Cond.keeps, Cond.steady]) (hw _ (List.mem_of_getElem? (i := 109) rfl)) (hw _ (List.mem_of_getElem? (i := 110) rfl)) (hw _ (List.mem_of_getElem? (i := 111) rfl)) (hw _ (List.mem_of_getElem? (i := 112) rfl)) (hw _ (List.mem_of_getElem? (i := 113) rfl)) (by decide) f52 (backC (W := 0) (rmms l Z a0 hw qM h29 n0 (by omega) (fldOld FM f37)) hZ25 (hw _ (List.mem_of_getElem? (i := 115) rfl)) (hw _ (List.mem_of_getElem? (i := 114) rfl)) (by decide) (by decide)) e50 (argsL := []) (rest := []) rfl rfl pd_17 rfl (by rw [hml]; rfl) (hb hby at_139) (Nat.le_of_eq rfl) (by decide) (by decide) k50
    have k51 : To p.tables e below S0 (T51.setTop (mkF m 144 l35 [(.int (0 : Int32))])) := k51a
    have N51 := N50.app Nq51
    have e51 : T51.heap = h29 := eq51
    have k53 : To p.tables e below S0 (T51.setTop (mkF m 150 l35 [(.int (1 : Int32))])) := fun tt hq => k51 tt (by
      show Steps _ _ _ (T51.setTop (mkF m 144 l35 [(.int (0 : Int32))])) _
      refine XS.ifYes X51.here hx rfl (pc0 := 144) (pc' := 149) rfl (hb hby at_144) rfl ((if0 _ _).trans (teq (by decide)).1) (by decide) (by decide) ?_
      show Steps _ _ _ (T51.setTop (mkF m 149 l35 [])) _
      refine XS.iconst X51.here hx rfl (hb hby at_149) ?_
      show Steps _ _ _ (T51.setTop (mkF m 150 l35 [(.int (1 : Int32))])) _
      exact hq)
    refine retIntW X51 hx hZ25 (own_EW hw) hS25 (by omega) C29 e51 hret hlk (by simp) rfl (hb hby at_150) k53 ?_ (by decide) (by decide)
    exact ⟨rfl, N51⟩
  · -- pc 45: (1 : Int32)
    have k54 : To p.tables e below S0 (T3.setTop (mkF m 45 l19 [(.int (1 : Int32))])) := by have hq := k20; rw [ht21] at hq; exact hq
    let l55 : Array Slot := #[.val (.int p0), .val (.int p1), .val (.int p2), .val (.int p3), .val (.int p4), .val (.ref (if (p0 &&& (1 : Int32)) = (0 : Int32) then qT else qN)), .val (.int (p1 &&& (255 : Int32))), .val (.int (p2 &&& (255 : Int32))), .val (.int (p3 &&& (255 : Int32))), .val (.int (1 : Int32)), .unset, .unset, .unset]
    have k56 : To p.tables e below S0 (T3.setTop (mkF m 55 l55 [(.int (p3 &&& (255 : Int32))), (.int (p2 &&& (255 : Int32))), (.int (p1 &&& (255 : Int32))), (.int (1 : Int32))])) := fun tt hq => k54 tt (by
      show Steps _ _ _ (T3.setTop (mkF m 45 l19 [(.int (1 : Int32))])) _
      refine XS.istore X3.here hx rfl (hb hby at_45) rfl (l' := l55) rfl ?_
      show Steps _ _ _ (T3.setTop (mkF m 47 l55 [])) _
      refine XS.iload X3.here hx rfl (hb hby at_47) rfl ?_
      show Steps _ _ _ (T3.setTop (mkF m 49 l55 [(.int (1 : Int32))])) _
      refine XS.iload X3.here hx rfl (hb hby at_49) rfl ?_
      show Steps _ _ _ (T3.setTop (mkF m 51 l55 [(.int (p1 &&& (255 : Int32))), (.int (1 : Int32))])) _
      refine XS.iload X3.here hx rfl (hb hby at_51) rfl ?_
      show Steps _ _ _ (T3.setTop (mkF m 53 l55 [(.int (p2 &&& (255 : Int32))), (.int (p1 &&& (255 : Int32))), (.int (1 : Int32))])) _
      refine XS.iload X3.here hx rfl (hb hby at_53) rfl ?_
      show Steps _ _ _ (T3.setTop (mkF m 55 l55 [(.int (p3 &&& (255 : Int32))), (.int (p2 &&& (255 : Int32))), (.int (p1 &&& (255 : Int32))), (.int (1 : Int32))])) _
      exact hq)
    obtain ⟨_, T57, L57, X57, ⟨a57, t57, k57x, rfl, Nq57, ga57, yt57, Kq57, P570, P571, P572, P573⟩, k57a⟩ := callS' X3 hx hZ (y := (⟨"com/example/apportion/apportion/policy/JsonValueWrittenPinLaw", "drawn", "(ICCC)Ljava/lang/String;"⟩ : MethodName)) hown (hw _ (List.mem_of_getElem? (i := 3) rfl)) (hw _ (List.mem_of_getElem? (i := 4) rfl)) (hw _ (List.mem_of_getElem? (i := 5) rfl)) (hw _ (List.mem_of_getElem? (i := 6) rfl)) (by decide) (backC (W := 0) (rm_dr1 l Z a0 hw zc (p1 &&& (255 : Int32)) (p2 &&& (255 : Int32)) (p3 &&& (255 : Int32)) h0 n0 (by omega) S_c hzc O0 (own_m255 _) (own_m255 _) (own_m255 _)) hZ (hw _ (List.mem_of_getElem? (i := 6) rfl)) (hw _ (List.mem_of_getElem? (i := 5) rfl)) (by decide) (by decide)) e3 (argsL := [(.int (1 : Int32)), (.int (p1 &&& (255 : Int32))), (.int (p2 &&& (255 : Int32))), (.int (p3 &&& (255 : Int32)))]) (rest := []) rfl rfl pd_13 rfl (by rw [hml]; rfl) (hb hby at_55) (Nat.le_of_eq rfl) (by decide) (by decide) k56
    have k57 : To p.tables e below S0 (T57.setTop (mkF m 58 l55 [(.ref a57)])) := k57a
    have N57 := N0.app Nq57
    obtain ⟨h57, e57⟩ : ∃ z, T57.heap = z := ⟨_, rfl⟩
    rw [e57] at Kq57 yt57 P570 P571 P572 P573
    have z57 : h0.size ≤ h57.size := Kq57.1
    have C57 := C0.trans (CHr.keep Kq57 sf0 C0.1)
    have ya57 : @LT.lt Nat instLTNat a57 h57.size := P570.lt
    let l58 : Array Slot := #[.val (.int p0), .val (.int p1), .val (.int p2), .val (.int p3), .val (.int p4), .val (.ref (if (p0 &&& (1 : Int32)) = (0 : Int32) then qT else qN)), .val (.int (p1 &&& (255 : Int32))), .val (.int (p2 &&& (255 : Int32))), .val (.int (p3 &&& (255 : Int32))), .val (.int (1 : Int32)), .val (.ref a57), .unset, .unset]
    have k59 : To p.tables e below S0 (T57.setTop (mkF m 64 l58 [(.ref a57), (.ref (if (p0 &&& (1 : Int32)) = (0 : Int32) then qT else qN))])) := fun tt hq => k57 tt (by
      show Steps _ _ _ (T57.setTop (mkF m 58 l55 [(.ref a57)])) _
      refine XS.astore X57.here hx rfl (hb hby at_58) rfl rfl (l' := l58) rfl ?_
      show Steps _ _ _ (T57.setTop (mkF m 60 l58 [])) _
      refine XS.aload X57.here hx rfl (hb hby at_60) rfl rfl ?_
      show Steps _ _ _ (T57.setTop (mkF m 62 l58 [(.ref (if (p0 &&& (1 : Int32)) = (0 : Int32) then qT else qN))])) _
      refine XS.aload X57.here hx rfl (hb hby at_62) rfl rfl ?_
      show Steps _ _ _ (T57.setTop (mkF m 64 l58 [(.ref a57), (.ref (if (p0 &&& (1 : Int32)) = (0 : Int32) then qT else qN))])) _
      exact hq)
    have f60 : Old Z n0 h57 := (O0.keep Kq57 all0)
    obtain ⟨_, T61, L61, X61, ⟨b61, rfl, Nq61, gb61, Kq61, P61_0, P61_1, P61_2, P61_3, P61_4⟩, k61a⟩ := callS' X57 hx hZ (y := (⟨"com/example/apportion/apportion/policy/JsonValue", "written", "(Lcom/example/apportion/apportion/policy/JsonValue$Kind;Ljava/lang/String;)Lcom/example/apportion/apportion/policy/JsonValue;"⟩ : MethodName)) hown (hw _ (List.mem_of_getElem? (i := 29) rfl)) (hw _ (List.mem_of_getElem? (i := 30) rfl)) (hw _ (List.mem_of_getElem? (i := 31) rfl)) (hw _ (List.mem_of_getElem? (i := 32) rfl)) (by decide) (backC (W := 0) (rmwritten l Z a0 hw zc qN qT qL qM (if (p0 &&& (1 : Int32)) = (0 : Int32) then qT else qN) a57 h57 n0 (by omega) S_c hzc S_NUMBER S_TEXT S_EMPTY_LIST S_EMPTY_MAP f60) hZ (hw _ (List.mem_of_getElem? (i := 32) rfl)) (hw _ (List.mem_of_getElem? (i := 31) rfl)) (by decide) (by decide)) e57 (argsL := [(.ref (if (p0 &&& (1 : Int32)) = (0 : Int32) then qT else qN)), (.ref a57)]) (rest := []) rfl rfl pd_14 rfl (by rw [hml]; rfl) (hb hby at_64) (Nat.le_of_eq rfl) (by decide) (by decide) k59
    have k61 : To p.tables e below S0 (T61.setTop (mkF m 67 l58 [(.ref b61)])) := k61a
    have N61 := N57.app Nq61
    obtain ⟨h61, e61⟩ : ∃ z, T61.heap = z := ⟨_, rfl⟩
    rw [e61] at Kq61 P61_0 P61_1 P61_2 P61_3 P61_4
    have z61 : h57.size ≤ h61.size := Kq61.1
    have C61 := C57.trans (CHr.keep Kq61 sf0 C57.1)
    let l62 : Array Slot := #[.val (.int p0), .val (.int p1), .val (.int p2), .val (.int p3), .val (.int p4), .val (.ref (if (p0 &&& (1 : Int32)) = (0 : Int32) then qT else qN)), .val (.int (p1 &&& (255 : Int32))), .val (.int (p2 &&& (255 : Int32))), .val (.int (p3 &&& (255 : Int32))), .val (.int (1 : Int32)), .val (.ref a57), .val (.ref b61), .unset]
    have k63 : To p.tables e below S0 (T61.setTop (mkF m 71 l62 [(.ref b61)])) := fun tt hq => k61 tt (by
      show Steps _ _ _ (T61.setTop (mkF m 67 l58 [(.ref b61)])) _
      refine XS.astore X61.here hx rfl (hb hby at_67) rfl rfl (l' := l62) rfl ?_
      show Steps _ _ _ (T61.setTop (mkF m 69 l62 [])) _
      refine XS.aload X61.here hx rfl (hb hby at_69) rfl rfl ?_
      show Steps _ _ _ (T61.setTop (mkF m 71 l62 [(.ref b61)])) _
      exact hq)
    obtain ⟨_, T64, L64, X64, ⟨rfl, Nq64, eq64⟩, k64a⟩ := callV' X61 hx hZ (y := (⟨"com/example/apportion/apportion/policy/JsonValue", "getKind", "()Lcom/example/apportion/apportion/policy/JsonValue$Kind;"⟩ : MethodName)) (z := (⟨"com/example/apportion/apportion/policy/JsonValue", "getKind", "()Lcom/example/apportion/apportion/policy/JsonValue$Kind;"⟩ : MethodName)) hown (hw _ (List.mem_of_getElem? (i := 58) rfl)) (hw _ (List.mem_of_getElem? (i := 59) rfl)) (notFace_of_selects (args := #[]) (mvT hZ (hw _ (List.mem_of_getElem? (i := 61) rfl)))) (hw _ (List.mem_of_getElem? (i := 61) rfl)) (hw _ (List.mem_of_getElem? (i := 60) rfl)) (by decide) P61_0 (backC (W := 0) (rmgetkind l Z a0 hw b61 (.ref (if (p0 &&& (1 : Int32)) = (0 : Int32) then qT else qN)) h61 n0 (by omega) P61_1 rfl) hZ (hw _ (List.mem_of_getElem? (i := 62) rfl)) (hw _ (List.mem_of_getElem? (i := 31) rfl)) (by decide) (by decide)) e61 (argsL := []) (rest := []) rfl rfl pd_15 rfl (by rw [hml]; rfl) (hb hby at_71) (Nat.le_of_eq rfl) (by decide) (by decide) k63
    have k64 : To p.tables e below S0 (T64.setTop (mkF m 74 l62 [(.ref (if (p0 &&& (1 : Int32)) = (0 : Int32) then qT else qN))])) := k64a
    have N64 := N61.app Nq64
    have e64 : T64.heap = h61 := eq64
    have k65 : To p.tables e below S0 (T64.setTop (mkF m 83 l62 [(.ref b61)])) := fun tt hq => k64 tt (by
      show Steps _ _ _ (T64.setTop (mkF m 74 l62 [(.ref (if (p0 &&& (1 : Int32)) = (0 : Int32) then qT else qN))])) _
      refine XS.aload X64.here hx rfl (hb hby at_74) rfl rfl ?_
      show Steps _ _ _ (T64.setTop (mkF m 76 l62 [(.ref (if (p0 &&& (1 : Int32)) = (0 : Int32) then qT else qN)), (.ref (if (p0 &&& (1 : Int32)) = (0 : Int32) then qT else qN))])) _
      refine Jvm.RoadKit.acmp (g := (mkF m 76 l62 [(.ref (if (p0 &&& (1 : Int32)) = (0 : Int32) then qT else qN)), (.ref (if (p0 &&& (1 : Int32)) = (0 : Int32) then qT else qN))])) X64 hx rfl rfl rfl (pc0 := 76) (pc' := 81) (same := true) rfl (hb hby at_76) rfl (decide_eq_true rfl) (by decide) (by decide) ?_
      show Steps _ _ _ (T64.setTop (mkF m 81 l62 [])) _
      refine XS.aload X64.here hx rfl (hb hby at_81) rfl rfl ?_
      show Steps _ _ _ (T64.setTop (mkF m 83 l62 [(.ref b61)])) _
      exact hq)
    obtain ⟨_, T66, L66, X66, ⟨rfl, Nq66, eq66⟩, k66a⟩ := callV' X64 hx hZ (y := (⟨"com/example/apportion/apportion/policy/JsonValue", "getText", "()Ljava/lang/String;"⟩ : MethodName)) (z := (⟨"com/example/apportion/apportion/policy/JsonValue", "getText", "()Ljava/lang/String;"⟩ : MethodName)) hown (hw _ (List.mem_of_getElem? (i := 63) rfl)) (hw _ (List.mem_of_getElem? (i := 64) rfl)) (notFace_of_selects (args := #[]) (mvT hZ (hw _ (List.mem_of_getElem? (i := 66) rfl)))) (hw _ (List.mem_of_getElem? (i := 66) rfl)) (hw _ (List.mem_of_getElem? (i := 65) rfl)) (by decide) P61_0 (backC (W := 0) (rmgettext l Z a0 hw b61 (.ref a57) h61 n0 (by omega) P61_2 rfl) hZ (hw _ (List.mem_of_getElem? (i := 67) rfl)) (hw _ (List.mem_of_getElem? (i := 31) rfl)) (by decide) (by decide)) e64 (argsL := []) (rest := []) rfl rfl pd_16 rfl (by rw [hml]; rfl) (hb hby at_83) (Nat.le_of_eq rfl) (by decide) (by decide) k65
    have k66 : To p.tables e below S0 (T66.setTop (mkF m 86 l62 [(.ref a57)])) := k66a
    have N66 := N64.app Nq66
    have e66 : T66.heap = h61 := eq66
    let l67 : Array Slot := #[.val (.int p0), .val (.int p1), .val (.int p2), .val (.int p3), .val (.int p4), .val (.ref (if (p0 &&& (1 : Int32)) = (0 : Int32) then qT else qN)), .val (.int (p1 &&& (255 : Int32))), .val (.int (p2 &&& (255 : Int32))), .val (.int (p3 &&& (255 : Int32))), .val (.int (1 : Int32)), .val (.ref a57), .val (.ref b61), .val (.ref a57)]
    have k68 : To p.tables e below S0 (T66.setTop (mkF m 97 l67 [(.ref a57)])) := fun tt hq => k66 tt (by
      show Steps _ _ _ (T66.setTop (mkF m 86 l62 [(.ref a57)])) _
      refine XS.astore X66.here hx rfl (hb hby at_86) rfl rfl (l' := l67) rfl ?_
      show Steps _ _ _ (T66.setTop (mkF m 88 l67 [])) _
      refine XS.aload X66.here hx rfl (hb hby at_88) rfl rfl ?_
      show Steps _ _ _ (T66.setTop (mkF m 90 l67 [(.ref a57)])) _
      refine XS.ifnonnullYes X66.here hx rfl (pc0 := 90) (pc' := 95) rfl (hb hby at_90) rfl (by decide) (by decide) ?_
      show Steps _ _ _ (T66.setTop (mkF m 95 l67 [])) _
      refine XS.aload X66.here hx rfl (hb hby at_95) rfl rfl ?_
      show Steps _ _ _ (T66.setTop (mkF m 97 l67 [(.ref a57)])) _
      exact hq)
    have f69 : Old Z n0 h61 := (f60.keep Kq61 all0)
    have f70 : Exa Z h61 a57 "java/lang/String" := (P570.keep Kq61)
    have f71 : Fld Z h61 a57 "java/lang/String" "value" "[B" (.ref t57) := (P571.keep Kq61 nin0)
    have f72 : Fld Z h61 a57 "java/lang/String" "coder" "B" (.int (0 : Int32)) := (P572.keep Kq61 nin0)
    have f73 : Arv Z h61 t57 k57x .byte (1 : Int32) [(.int (nar .byte ((p1 &&& (255 : Int32)).toInt8.toInt32)))] (.int 0) := (P573.keep Kq61 nin0)
    obtain ⟨_, T74, L74, X74, ⟨rfl, Nq74, eq74⟩, k74a⟩ := callV' X66 hx hZ (y := (⟨"java/lang/String", "length", "()I"⟩ : MethodName)) (z := (⟨"java/lang/String", "length", "()I"⟩ : MethodName)) hown (hw _ (List.mem_of_getElem? (i := 68) rfl)) (hw _ (List.mem_of_getElem? (i := 69) rfl)) (notFace_of_selects (args := #[]) (mvT hZ (hw _ (List.mem_of_getElem? (i := 71) rfl)))) (hw _ (List.mem_of_getElem? (i := 71) rfl)) (hw _ (List.mem_of_getElem? (i := 70) rfl)) (by decide) f70 (backC (W := 0) (rm_len1 l Z a0 hw zc a57 t57 k57x (nar .byte ((p1 &&& (255 : Int32)).toInt8.toInt32)) h61 n0 (by omega) S_c hzc f69 f70 f71 f72 f73) hZ (hw _ (List.mem_of_getElem? (i := 72) rfl)) (hw _ (List.mem_of_getElem? (i := 9) rfl)) (by decide) (by decide)) e66 (argsL := []) (rest := []) rfl rfl pd_17 rfl (by rw [hml]; rfl) (hb hby at_97) (Nat.le_of_eq rfl) (by decide) (by decide) k68
    have k74 : To p.tables e below S0 (T74.setTop (mkF m 100 l67 [(.int (1 : Int32))])) := k74a
    have N74 := N66.app Nq74
    have e74 : T74.heap = h61 := eq74
    have k75 : To p.tables e below S0 (T74.setTop (mkF m 111 l67 [(.ref a57), (.ref a57)])) := fun tt hq => k74 tt (by
      show Steps _ _ _ (T74.setTop (mkF m 100 l67 [(.int (1 : Int32))])) _
      refine XS.iload X74.here hx rfl (hb hby at_100) rfl ?_
      show Steps _ _ _ (T74.setTop (mkF m 102 l67 [(.int (1 : Int32)), (.int (1 : Int32))])) _
      refine XS.icmpYes X74.here hx rfl (pc0 := 102) (pc' := 107) rfl (hb hby at_102) rfl (teq (by decide)).1 (by decide) (by decide) ?_
      show Steps _ _ _ (T74.setTop (mkF m 107 l67 [])) _
      refine XS.aload X74.here hx rfl (hb hby at_107) rfl rfl ?_
      show Steps _ _ _ (T74.setTop (mkF m 109 l67 [(.ref a57)])) _
      refine XS.aload X74.here hx rfl (hb hby at_109) rfl rfl ?_
      show Steps _ _ _ (T74.setTop (mkF m 111 l67 [(.ref a57), (.ref a57)])) _
      exact hq)
    obtain ⟨_, T76, L76, X76, ⟨rfl, Nq76, eq76⟩, k76a⟩ := callV' X74 hx hZ (y := (⟨"java/lang/String", "equals", "(Ljava/lang/Object;)Z"⟩ : MethodName)) (z := (⟨"java/lang/String", "equals", "(Ljava/lang/Object;)Z"⟩ : MethodName)) hown (hw _ (List.mem_of_getElem? (i := 79) rfl)) (hw _ (List.mem_of_getElem? (i := 80) rfl)) (notFace_of_selects (args := #[]) (mvT hZ (hw _ (List.mem_of_getElem? (i := 82) rfl)))) (hw _ (List.mem_of_getElem? (i := 82) rfl)) (hw _ (List.mem_of_getElem? (i := 81) rfl)) (by decide) f70 (backC (W := 0) (rm_eq l Z a0 hw a57 h61 n0 (by omega)) hZ (hw _ (List.mem_of_getElem? (i := 83) rfl)) (hw _ (List.mem_of_getElem? (i := 9) rfl)) (by decide) (by decide)) e74 (argsL := [(.ref a57)]) (rest := []) rfl rfl pd_18 rfl (by rw [hml]; rfl) (hb hby at_111) (Nat.le_of_eq rfl) (by decide) (by decide) k75
    have k76 : To p.tables e below S0 (T76.setTop (mkF m 114 l67 [(.int (1 : Int32))])) := k76a
    have N76 := N74.app Nq76
    have e76 : T76.heap = h61 := eq76
    have k77 : To p.tables e below S0 (T76.setTop (mkF m 121 l67 [(.ref b61)])) := fun tt hq => k76 tt (by
      show Steps _ _ _ (T76.setTop (mkF m 114 l67 [(.int (1 : Int32))])) _
      refine XS.ifYes X76.here hx rfl (pc0 := 114) (pc' := 119) rfl (hb hby at_114) rfl ((if0 _ _).trans (feq (by decide)).2) (by decide) (by decide) ?_
      show Steps _ _ _ (T76.setTop (mkF m 119 l67 [])) _
      refine XS.aload X76.here hx rfl (hb hby at_119) rfl rfl ?_
      show Steps _ _ _ (T76.setTop (mkF m 121 l67 [(.ref b61)])) _
      exact hq)
    obtain ⟨_, T78, L78, X78, ⟨rfl, Nq78, eq78⟩, k78a⟩ := callV' X76 hx hZ (y := (⟨"com/example/apportion/apportion/policy/JsonValue", "getItems", "()Ljava/util/List;"⟩ : MethodName)) (z := (⟨"com/example/apportion/apportion/policy/JsonValue", "getItems", "()Ljava/util/List;"⟩ : MethodName)) hown (hw _ (List.mem_of_getElem? (i := 84) rfl)) (hw _ (List.mem_of_getElem? (i := 85) rfl)) (notFace_of_selects (args := #[]) (mvT hZ (hw _ (List.mem_of_getElem? (i := 87) rfl)))) (hw _ (List.mem_of_getElem? (i := 87) rfl)) (hw _ (List.mem_of_getElem? (i := 86) rfl)) (by decide) P61_0 (backC (W := 0) (rmgetitems l Z a0 hw b61 (.ref qL) h61 n0 (by omega) P61_3 rfl) hZ (hw _ (List.mem_of_getElem? (i := 88) rfl)) (hw _ (List.mem_of_getElem? (i := 31) rfl)) (by decide) (by decide)) e76 (argsL := []) (rest := []) rfl rfl pd_10 rfl (by rw [hml]; rfl) (hb hby at_121) (Nat.le_of_eq rfl) (by decide) (by decide) k77
    have k78 : To p.tables e below S0 (T78.setTop (mkF m 124 l67 [(.ref qL)])) := k78a
    have N78 := N76.app Nq78
    have e78 : T78.heap = h61 := eq78
    have f80 : Exa Z h61 qL "java/util/ImmutableCollections$ListN" := (((exaOld AL O0).keep Kq57).keep Kq61)
    obtain ⟨_, T79, L79, X79, ⟨rfl, Nq79, eq79⟩, k79a⟩ := callI' X78 hx hZ (y := (⟨"java/util/List", "size", "()I"⟩ : MethodName)) (z := (⟨"java/util/ImmutableCollections$ListN", "size", "()I"⟩ : MethodName)) hown (hw _ (List.mem_of_getElem? (i := 89) rfl)) (hw _ (List.mem_of_getElem? (i := 90) rfl)) (hw _ (List.mem_of_getElem? (i := 91) rfl)) (by first | rfl | simp [Cond.onTables, Cond.keepsFace, Cond.keeps, Cond.steady]) (hw _ (List.mem_of_getElem? (i := 92) rfl)) (hw _ (List.mem_of_getElem? (i := 93) rfl)) (hw _ (List.mem_of_getElem? (i := 94) rfl)) (hw _ (List.mem_of_getElem? (i := 95) rfl)) (hw _ (List.mem_of_getElem? (i := 96) rfl)) (by decide) f80 (backC (W := 0) (rmls l Z a0 hw qL bL kL h61 n0 (by omega) (fldOld FL f69) (FV.ext f69.2)) hZ (hw _ (List.mem_of_getElem? (i := 98) rfl)) (hw _ (List.mem_of_getElem? (i := 97) rfl)) (by decide) (by decide)) e78 (argsL := []) (rest := []) rfl rfl pd_17 rfl (by rw [hml]; rfl) (hb hby at_124) (Nat.le_of_eq rfl) (by decide) (by decide) k78
    have k79 : To p.tables e below S0 (T79.setTop (mkF m 129 l67 [(.int (0 : Int32))])) := k79a
    have N79 := N78.app Nq79
    have e79 : T79.heap = h61 := eq79
    have k81 : To p.tables e below S0 (T79.setTop (mkF m 136 l67 [(.ref b61)])) := fun tt hq => k79 tt (by
      show Steps _ _ _ (T79.setTop (mkF m 129 l67 [(.int (0 : Int32))])) _
      refine XS.ifYes X79.here hx rfl (pc0 := 129) (pc' := 134) rfl (hb hby at_129) rfl ((if0 _ _).trans (teq (by decide)).1) (by decide) (by decide) ?_
      show Steps _ _ _ (T79.setTop (mkF m 134 l67 [])) _
      refine XS.aload X79.here hx rfl (hb hby at_134) rfl rfl ?_
      show Steps _ _ _ (T79.setTop (mkF m 136 l67 [(.ref b61)])) _
      exact hq)
    obtain ⟨_, T82, L82, X82, ⟨rfl, Nq82, eq82⟩, k82a⟩ := callV' X79 hx hZ (y := (⟨"com/example/apportion/apportion/policy/JsonValue", "getMembers", "()Ljava/util/Map;"⟩ : MethodName)) (z := (⟨"com/example/apportion/apportion/policy/JsonValue", "getMembers", "()Ljava/util/Map;"⟩ : MethodName)) hown (hw _ (List.mem_of_getElem? (i := 101) rfl)) (hw _ (List.mem_of_getElem? (i := 102) rfl)) (notFace_of_selects (args := #[]) (mvT hZ (hw _ (List.mem_of_getElem? (i := 104) rfl)))) (hw _ (List.mem_of_getElem? (i := 104) rfl)) (hw _ (List.mem_of_getElem? (i := 103) rfl)) (by decide) P61_0 (backC (W := 0) (rmgetmembers l Z a0 hw b61 (.ref qM) h61 n0 (by omega) P61_4 rfl) hZ (hw _ (List.mem_of_getElem? (i := 105) rfl)) (hw _ (List.mem_of_getElem? (i := 31) rfl)) (by decide) (by decide)) e79 (argsL := []) (rest := []) rfl rfl pd_11 rfl (by rw [hml]; rfl) (hb hby at_136) (Nat.le_of_eq rfl) (by decide) (by decide) k81
    have k82 : To p.tables e below S0 (T82.setTop (mkF m 139 l67 [(.ref qM)])) := k82a
    have N82 := N79.app Nq82
    have e82 : T82.heap = h61 := eq82
    have f84 : Exa Z h61 qM "java/util/ImmutableCollections$MapN" := (((exaOld AM O0).keep Kq57).keep Kq61)
    obtain ⟨_, T83, L83, X83, ⟨rfl, Nq83, eq83⟩, k83a⟩ := callI' X82 hx hZ (y := (⟨"java/util/Map", "size", "()I"⟩ : MethodName)) (z := (⟨"java/util/ImmutableCollections$MapN", "size", "()I"⟩ : MethodName)) hown (hw _ (List.mem_of_getElem? (i := 106) rfl)) (hw _ (List.mem_of_getElem? (i := 107) rfl)) (hw _ (List.mem_of_getElem? (i := 108) rfl)) (by first | rfl | simp [Cond.onTables, Cond.keepsFace, Cond.keeps, Cond.steady]) (hw _ (List.mem_of_getElem? (i := 109) rfl)) (hw _ (List.mem_of_getElem? (i := 110) rfl)) (hw _ (List.mem_of_getElem? (i := 111) rfl)) (hw _ (List.mem_of_getElem? (i := 112) rfl)) (hw _ (List.mem_of_getElem? (i := 113) rfl)) (by decide) f84 (backC (W := 0) (rmms l Z a0 hw qM h61 n0 (by omega) (fldOld FM f69)) hZ (hw _ (List.mem_of_getElem? (i := 115) rfl)) (hw _ (List.mem_of_getElem? (i := 114) rfl)) (by decide) (by decide)) e82 (argsL := []) (rest := []) rfl rfl pd_17 rfl (by rw [hml]; rfl) (hb hby at_139) (Nat.le_of_eq rfl) (by decide) (by decide) k82
    have k83 : To p.tables e below S0 (T83.setTop (mkF m 144 l67 [(.int (0 : Int32))])) := k83a
    have N83 := N82.app Nq83
    have e83 : T83.heap = h61 := eq83
    have k85 : To p.tables e below S0 (T83.setTop (mkF m 150 l67 [(.int (1 : Int32))])) := fun tt hq => k83 tt (by
      show Steps _ _ _ (T83.setTop (mkF m 144 l67 [(.int (0 : Int32))])) _
      refine XS.ifYes X83.here hx rfl (pc0 := 144) (pc' := 149) rfl (hb hby at_144) rfl ((if0 _ _).trans (teq (by decide)).1) (by decide) (by decide) ?_
      show Steps _ _ _ (T83.setTop (mkF m 149 l67 [])) _
      refine XS.iconst X83.here hx rfl (hb hby at_149) ?_
      show Steps _ _ _ (T83.setTop (mkF m 150 l67 [(.int (1 : Int32))])) _
      exact hq)
    refine retIntW X83 hx hZ (own_EW hw) hS0 (by omega) C61 e83 hret hlk (by simp) rfl (hb hby at_150) k85 ?_ (by decide) (by decide)
    exact ⟨rfl, N83⟩
  · -- pc 45: (2 : Int32)
    have k86 : To p.tables e below S0 (T3.setTop (mkF m 45 l19 [(.int (2 : Int32))])) := by have hq := k20; rw [ht21] at hq; exact hq
    let l87 : Array Slot := #[.val (.int p0), .val (.int p1), .val (.int p2), .val (.int p3), .val (.int p4), .val (.ref (if (p0 &&& (1 : Int32)) = (0 : Int32) then qT else qN)), .val (.int (p1 &&& (255 : Int32))), .val (.int (p2 &&& (255 : Int32))), .val (.int (p3 &&& (255 : Int32))), .val (.int (2 : Int32)), .unset, .unset, .unset]
    have k88 : To p.tables e below S0 (T3.setTop (mkF m 55 l87 [(.int (p3 &&& (255 : Int32))), (.int (p2 &&& (255 : Int32))), (.int (p1 &&& (255 : Int32))), (.int (2 : Int32))])) := fun tt hq => k86 tt (by
      show Steps _ _ _ (T3.setTop (mkF m 45 l19 [(.int (2 : Int32))])) _
      refine XS.istore X3.here hx rfl (hb hby at_45) rfl (l' := l87) rfl ?_
      show Steps _ _ _ (T3.setTop (mkF m 47 l87 [])) _
      refine XS.iload X3.here hx rfl (hb hby at_47) rfl ?_
      show Steps _ _ _ (T3.setTop (mkF m 49 l87 [(.int (2 : Int32))])) _
      refine XS.iload X3.here hx rfl (hb hby at_49) rfl ?_
      show Steps _ _ _ (T3.setTop (mkF m 51 l87 [(.int (p1 &&& (255 : Int32))), (.int (2 : Int32))])) _
      refine XS.iload X3.here hx rfl (hb hby at_51) rfl ?_
      show Steps _ _ _ (T3.setTop (mkF m 53 l87 [(.int (p2 &&& (255 : Int32))), (.int (p1 &&& (255 : Int32))), (.int (2 : Int32))])) _
      refine XS.iload X3.here hx rfl (hb hby at_53) rfl ?_
      show Steps _ _ _ (T3.setTop (mkF m 55 l87 [(.int (p3 &&& (255 : Int32))), (.int (p2 &&& (255 : Int32))), (.int (p1 &&& (255 : Int32))), (.int (2 : Int32))])) _
      exact hq)
    obtain ⟨_, T89, L89, X89, ⟨a89, t89, k89x, rfl, Nq89, ga89, yt89, Kq89, P890, P891, P892, P893⟩, k89a⟩ := callS' X3 hx hZ (y := (⟨"com/example/apportion/apportion/policy/JsonValueWrittenPinLaw", "drawn", "(ICCC)Ljava/lang/String;"⟩ : MethodName)) hown (hw _ (List.mem_of_getElem? (i := 3) rfl)) (hw _ (List.mem_of_getElem? (i := 4) rfl)) (hw _ (List.mem_of_getElem? (i := 5) rfl)) (hw _ (List.mem_of_getElem? (i := 6) rfl)) (by decide) (backC (W := 0) (rm_dr2 l Z a0 hw zc (p1 &&& (255 : Int32)) (p2 &&& (255 : Int32)) (p3 &&& (255 : Int32)) h0 n0 (by omega) S_c hzc O0 (own_m255 _) (own_m255 _) (own_m255 _)) hZ (hw _ (List.mem_of_getElem? (i := 6) rfl)) (hw _ (List.mem_of_getElem? (i := 5) rfl)) (by decide) (by decide)) e3 (argsL := [(.int (2 : Int32)), (.int (p1 &&& (255 : Int32))), (.int (p2 &&& (255 : Int32))), (.int (p3 &&& (255 : Int32)))]) (rest := []) rfl rfl pd_13 rfl (by rw [hml]; rfl) (hb hby at_55) (Nat.le_of_eq rfl) (by decide) (by decide) k88
    have k89 : To p.tables e below S0 (T89.setTop (mkF m 58 l87 [(.ref a89)])) := k89a
    have N89 := N0.app Nq89
    obtain ⟨h89, e89⟩ : ∃ z, T89.heap = z := ⟨_, rfl⟩
    rw [e89] at Kq89 yt89 P890 P891 P892 P893
    have z89 : h0.size ≤ h89.size := Kq89.1
    have C89 := C0.trans (CHr.keep Kq89 sf0 C0.1)
    have ya89 : @LT.lt Nat instLTNat a89 h89.size := P890.lt
    let l90 : Array Slot := #[.val (.int p0), .val (.int p1), .val (.int p2), .val (.int p3), .val (.int p4), .val (.ref (if (p0 &&& (1 : Int32)) = (0 : Int32) then qT else qN)), .val (.int (p1 &&& (255 : Int32))), .val (.int (p2 &&& (255 : Int32))), .val (.int (p3 &&& (255 : Int32))), .val (.int (2 : Int32)), .val (.ref a89), .unset, .unset]
    have k91 : To p.tables e below S0 (T89.setTop (mkF m 64 l90 [(.ref a89), (.ref (if (p0 &&& (1 : Int32)) = (0 : Int32) then qT else qN))])) := fun tt hq => k89 tt (by
      show Steps _ _ _ (T89.setTop (mkF m 58 l87 [(.ref a89)])) _
      refine XS.astore X89.here hx rfl (hb hby at_58) rfl rfl (l' := l90) rfl ?_
      show Steps _ _ _ (T89.setTop (mkF m 60 l90 [])) _
      refine XS.aload X89.here hx rfl (hb hby at_60) rfl rfl ?_
      show Steps _ _ _ (T89.setTop (mkF m 62 l90 [(.ref (if (p0 &&& (1 : Int32)) = (0 : Int32) then qT else qN))])) _
      refine XS.aload X89.here hx rfl (hb hby at_62) rfl rfl ?_
      show Steps _ _ _ (T89.setTop (mkF m 64 l90 [(.ref a89), (.ref (if (p0 &&& (1 : Int32)) = (0 : Int32) then qT else qN))])) _
      exact hq)
    have f92 : Old Z n0 h89 := (O0.keep Kq89 all0)
    obtain ⟨_, T93, L93, X93, ⟨b93, rfl, Nq93, gb93, Kq93, P93_0, P93_1, P93_2, P93_3, P93_4⟩, k93a⟩ := callS' X89 hx hZ (y := (⟨"com/example/apportion/apportion/policy/JsonValue", "written", "(Lcom/example/apportion/apportion/policy/JsonValue$Kind;Ljava/lang/String;)Lcom/example/apportion/apportion/policy/JsonValue;"⟩ : MethodName)) hown (hw _ (List.mem_of_getElem? (i := 29) rfl)) (hw _ (List.mem_of_getElem? (i := 30) rfl)) (hw _ (List.mem_of_getElem? (i := 31) rfl)) (hw _ (List.mem_of_getElem? (i := 32) rfl)) (by decide) (backC (W := 0) (rmwritten l Z a0 hw zc qN qT qL qM (if (p0 &&& (1 : Int32)) = (0 : Int32) then qT else qN) a89 h89 n0 (by omega) S_c hzc S_NUMBER S_TEXT S_EMPTY_LIST S_EMPTY_MAP f92) hZ (hw _ (List.mem_of_getElem? (i := 32) rfl)) (hw _ (List.mem_of_getElem? (i := 31) rfl)) (by decide) (by decide)) e89 (argsL := [(.ref (if (p0 &&& (1 : Int32)) = (0 : Int32) then qT else qN)), (.ref a89)]) (rest := []) rfl rfl pd_14 rfl (by rw [hml]; rfl) (hb hby at_64) (Nat.le_of_eq rfl) (by decide) (by decide) k91
    have k93 : To p.tables e below S0 (T93.setTop (mkF m 67 l90 [(.ref b93)])) := k93a
    have N93 := N89.app Nq93
    obtain ⟨h93, e93⟩ : ∃ z, T93.heap = z := ⟨_, rfl⟩
    rw [e93] at Kq93 P93_0 P93_1 P93_2 P93_3 P93_4
    have z93 : h89.size ≤ h93.size := Kq93.1
    have C93 := C89.trans (CHr.keep Kq93 sf0 C89.1)
    let l94 : Array Slot := #[.val (.int p0), .val (.int p1), .val (.int p2), .val (.int p3), .val (.int p4), .val (.ref (if (p0 &&& (1 : Int32)) = (0 : Int32) then qT else qN)), .val (.int (p1 &&& (255 : Int32))), .val (.int (p2 &&& (255 : Int32))), .val (.int (p3 &&& (255 : Int32))), .val (.int (2 : Int32)), .val (.ref a89), .val (.ref b93), .unset]
    have k95 : To p.tables e below S0 (T93.setTop (mkF m 71 l94 [(.ref b93)])) := fun tt hq => k93 tt (by
      show Steps _ _ _ (T93.setTop (mkF m 67 l90 [(.ref b93)])) _
      refine XS.astore X93.here hx rfl (hb hby at_67) rfl rfl (l' := l94) rfl ?_
      show Steps _ _ _ (T93.setTop (mkF m 69 l94 [])) _
      refine XS.aload X93.here hx rfl (hb hby at_69) rfl rfl ?_
      show Steps _ _ _ (T93.setTop (mkF m 71 l94 [(.ref b93)])) _
      exact hq)
    obtain ⟨_, T96, L96, X96, ⟨rfl, Nq96, eq96⟩, k96a⟩ := callV' X93 hx hZ (y := (⟨"com/example/apportion/apportion/policy/JsonValue", "getKind", "()Lcom/example/apportion/apportion/policy/JsonValue$Kind;"⟩ : MethodName)) (z := (⟨"com/example/apportion/apportion/policy/JsonValue", "getKind", "()Lcom/example/apportion/apportion/policy/JsonValue$Kind;"⟩ : MethodName)) hown (hw _ (List.mem_of_getElem? (i := 58) rfl)) (hw _ (List.mem_of_getElem? (i := 59) rfl)) (notFace_of_selects (args := #[]) (mvT hZ (hw _ (List.mem_of_getElem? (i := 61) rfl)))) (hw _ (List.mem_of_getElem? (i := 61) rfl)) (hw _ (List.mem_of_getElem? (i := 60) rfl)) (by decide) P93_0 (backC (W := 0) (rmgetkind l Z a0 hw b93 (.ref (if (p0 &&& (1 : Int32)) = (0 : Int32) then qT else qN)) h93 n0 (by omega) P93_1 rfl) hZ (hw _ (List.mem_of_getElem? (i := 62) rfl)) (hw _ (List.mem_of_getElem? (i := 31) rfl)) (by decide) (by decide)) e93 (argsL := []) (rest := []) rfl rfl pd_15 rfl (by rw [hml]; rfl) (hb hby at_71) (Nat.le_of_eq rfl) (by decide) (by decide) k95
    have k96 : To p.tables e below S0 (T96.setTop (mkF m 74 l94 [(.ref (if (p0 &&& (1 : Int32)) = (0 : Int32) then qT else qN))])) := k96a
    have N96 := N93.app Nq96
    have e96 : T96.heap = h93 := eq96
    have k97 : To p.tables e below S0 (T96.setTop (mkF m 83 l94 [(.ref b93)])) := fun tt hq => k96 tt (by
      show Steps _ _ _ (T96.setTop (mkF m 74 l94 [(.ref (if (p0 &&& (1 : Int32)) = (0 : Int32) then qT else qN))])) _
      refine XS.aload X96.here hx rfl (hb hby at_74) rfl rfl ?_
      show Steps _ _ _ (T96.setTop (mkF m 76 l94 [(.ref (if (p0 &&& (1 : Int32)) = (0 : Int32) then qT else qN)), (.ref (if (p0 &&& (1 : Int32)) = (0 : Int32) then qT else qN))])) _
      refine Jvm.RoadKit.acmp (g := (mkF m 76 l94 [(.ref (if (p0 &&& (1 : Int32)) = (0 : Int32) then qT else qN)), (.ref (if (p0 &&& (1 : Int32)) = (0 : Int32) then qT else qN))])) X96 hx rfl rfl rfl (pc0 := 76) (pc' := 81) (same := true) rfl (hb hby at_76) rfl (decide_eq_true rfl) (by decide) (by decide) ?_
      show Steps _ _ _ (T96.setTop (mkF m 81 l94 [])) _
      refine XS.aload X96.here hx rfl (hb hby at_81) rfl rfl ?_
      show Steps _ _ _ (T96.setTop (mkF m 83 l94 [(.ref b93)])) _
      exact hq)
    obtain ⟨_, T98, L98, X98, ⟨rfl, Nq98, eq98⟩, k98a⟩ := callV' X96 hx hZ (y := (⟨"com/example/apportion/apportion/policy/JsonValue", "getText", "()Ljava/lang/String;"⟩ : MethodName)) (z := (⟨"com/example/apportion/apportion/policy/JsonValue", "getText", "()Ljava/lang/String;"⟩ : MethodName)) hown (hw _ (List.mem_of_getElem? (i := 63) rfl)) (hw _ (List.mem_of_getElem? (i := 64) rfl)) (notFace_of_selects (args := #[]) (mvT hZ (hw _ (List.mem_of_getElem? (i := 66) rfl)))) (hw _ (List.mem_of_getElem? (i := 66) rfl)) (hw _ (List.mem_of_getElem? (i := 65) rfl)) (by decide) P93_0 (backC (W := 0) (rmgettext l Z a0 hw b93 (.ref a89) h93 n0 (by omega) P93_2 rfl) hZ (hw _ (List.mem_of_getElem? (i := 67) rfl)) (hw _ (List.mem_of_getElem? (i := 31) rfl)) (by decide) (by decide)) e96 (argsL := []) (rest := []) rfl rfl pd_16 rfl (by rw [hml]; rfl) (hb hby at_83) (Nat.le_of_eq rfl) (by decide) (by decide) k97
    have k98 : To p.tables e below S0 (T98.setTop (mkF m 86 l94 [(.ref a89)])) := k98a
    have N98 := N96.app Nq98
    have e98 : T98.heap = h93 := eq98
    let l99 : Array Slot := #[.val (.int p0), .val (.int p1), .val (.int p2), .val (.int p3), .val (.int p4), .val (.ref (if (p0 &&& (1 : Int32)) = (0 : Int32) then qT else qN)), .val (.int (p1 &&& (255 : Int32))), .val (.int (p2 &&& (255 : Int32))), .val (.int (p3 &&& (255 : Int32))), .val (.int (2 : Int32)), .val (.ref a89), .val (.ref b93), .val (.ref a89)]
    have k100 : To p.tables e below S0 (T98.setTop (mkF m 97 l99 [(.ref a89)])) := fun tt hq => k98 tt (by
      show Steps _ _ _ (T98.setTop (mkF m 86 l94 [(.ref a89)])) _
      refine XS.astore X98.here hx rfl (hb hby at_86) rfl rfl (l' := l99) rfl ?_
      show Steps _ _ _ (T98.setTop (mkF m 88 l99 [])) _
      refine XS.aload X98.here hx rfl (hb hby at_88) rfl rfl ?_
      show Steps _ _ _ (T98.setTop (mkF m 90 l99 [(.ref a89)])) _
      refine XS.ifnonnullYes X98.here hx rfl (pc0 := 90) (pc' := 95) rfl (hb hby at_90) rfl (by decide) (by decide) ?_
      show Steps _ _ _ (T98.setTop (mkF m 95 l99 [])) _
      refine XS.aload X98.here hx rfl (hb hby at_95) rfl rfl ?_
      show Steps _ _ _ (T98.setTop (mkF m 97 l99 [(.ref a89)])) _
      exact hq)
    have f101 : Old Z n0 h93 := (f92.keep Kq93 all0)
    have f102 : Exa Z h93 a89 "java/lang/String" := (P890.keep Kq93)
    have f103 : Fld Z h93 a89 "java/lang/String" "value" "[B" (.ref t89) := (P891.keep Kq93 nin0)
    have f104 : Fld Z h93 a89 "java/lang/String" "coder" "B" (.int (0 : Int32)) := (P892.keep Kq93 nin0)
    have f105 : Arv Z h93 t89 k89x .byte (2 : Int32) [(.int (nar .byte ((p1 &&& (255 : Int32)).toInt8.toInt32))), (.int (nar .byte ((p2 &&& (255 : Int32)).toInt8.toInt32)))] (.int 0) := (P893.keep Kq93 nin0)
    obtain ⟨_, T106, L106, X106, ⟨rfl, Nq106, eq106⟩, k106a⟩ := callV' X98 hx hZ (y := (⟨"java/lang/String", "length", "()I"⟩ : MethodName)) (z := (⟨"java/lang/String", "length", "()I"⟩ : MethodName)) hown (hw _ (List.mem_of_getElem? (i := 68) rfl)) (hw _ (List.mem_of_getElem? (i := 69) rfl)) (notFace_of_selects (args := #[]) (mvT hZ (hw _ (List.mem_of_getElem? (i := 71) rfl)))) (hw _ (List.mem_of_getElem? (i := 71) rfl)) (hw _ (List.mem_of_getElem? (i := 70) rfl)) (by decide) f102 (backC (W := 0) (rm_len2 l Z a0 hw zc a89 t89 k89x (nar .byte ((p1 &&& (255 : Int32)).toInt8.toInt32)) (nar .byte ((p2 &&& (255 : Int32)).toInt8.toInt32)) h93 n0 (by omega) S_c hzc f101 f102 f103 f104 f105) hZ (hw _ (List.mem_of_getElem? (i := 72) rfl)) (hw _ (List.mem_of_getElem? (i := 9) rfl)) (by decide) (by decide)) e98 (argsL := []) (rest := []) rfl rfl pd_17 rfl (by rw [hml]; rfl) (hb hby at_97) (Nat.le_of_eq rfl) (by decide) (by decide) k100
    have k106 : To p.tables e below S0 (T106.setTop (mkF m 100 l99 [(.int (2 : Int32))])) := k106a
    have N106 := N98.app Nq106
    have e106 : T106.heap = h93 := eq106
    have k107 : To p.tables e below S0 (T106.setTop (mkF m 111 l99 [(.ref a89), (.ref a89)])) := fun tt hq => k106 tt (by
      show Steps _ _ _ (T106.setTop (mkF m 100 l99 [(.int (2 : Int32))])) _
      refine XS.iload X106.here hx rfl (hb hby at_100) rfl ?_
      show Steps _ _ _ (T106.setTop (mkF m 102 l99 [(.int (2 : Int32)), (.int (2 : Int32))])) _
      refine XS.icmpYes X106.here hx rfl (pc0 := 102) (pc' := 107) rfl (hb hby at_102) rfl (teq (by decide)).1 (by decide) (by decide) ?_
      show Steps _ _ _ (T106.setTop (mkF m 107 l99 [])) _
      refine XS.aload X106.here hx rfl (hb hby at_107) rfl rfl ?_
      show Steps _ _ _ (T106.setTop (mkF m 109 l99 [(.ref a89)])) _
      refine XS.aload X106.here hx rfl (hb hby at_109) rfl rfl ?_
      show Steps _ _ _ (T106.setTop (mkF m 111 l99 [(.ref a89), (.ref a89)])) _
      exact hq)
    obtain ⟨_, T108, L108, X108, ⟨rfl, Nq108, eq108⟩, k108a⟩ := callV' X106 hx hZ (y := (⟨"java/lang/String", "equals", "(Ljava/lang/Object;)Z"⟩ : MethodName)) (z := (⟨"java/lang/String", "equals", "(Ljava/lang/Object;)Z"⟩ : MethodName)) hown (hw _ (List.mem_of_getElem? (i := 79) rfl)) (hw _ (List.mem_of_getElem? (i := 80) rfl)) (notFace_of_selects (args := #[]) (mvT hZ (hw _ (List.mem_of_getElem? (i := 82) rfl)))) (hw _ (List.mem_of_getElem? (i := 82) rfl)) (hw _ (List.mem_of_getElem? (i := 81) rfl)) (by decide) f102 (backC (W := 0) (rm_eq l Z a0 hw a89 h93 n0 (by omega)) hZ (hw _ (List.mem_of_getElem? (i := 83) rfl)) (hw _ (List.mem_of_getElem? (i := 9) rfl)) (by decide) (by decide)) e106 (argsL := [(.ref a89)]) (rest := []) rfl rfl pd_18 rfl (by rw [hml]; rfl) (hb hby at_111) (Nat.le_of_eq rfl) (by decide) (by decide) k107
    have k108 : To p.tables e below S0 (T108.setTop (mkF m 114 l99 [(.int (1 : Int32))])) := k108a
    have N108 := N106.app Nq108
    have e108 : T108.heap = h93 := eq108
    have k109 : To p.tables e below S0 (T108.setTop (mkF m 121 l99 [(.ref b93)])) := fun tt hq => k108 tt (by
      show Steps _ _ _ (T108.setTop (mkF m 114 l99 [(.int (1 : Int32))])) _
      refine XS.ifYes X108.here hx rfl (pc0 := 114) (pc' := 119) rfl (hb hby at_114) rfl ((if0 _ _).trans (feq (by decide)).2) (by decide) (by decide) ?_
      show Steps _ _ _ (T108.setTop (mkF m 119 l99 [])) _
      refine XS.aload X108.here hx rfl (hb hby at_119) rfl rfl ?_
      show Steps _ _ _ (T108.setTop (mkF m 121 l99 [(.ref b93)])) _
      exact hq)
    obtain ⟨_, T110, L110, X110, ⟨rfl, Nq110, eq110⟩, k110a⟩ := callV' X108 hx hZ (y := (⟨"com/example/apportion/apportion/policy/JsonValue", "getItems", "()Ljava/util/List;"⟩ : MethodName)) (z := (⟨"com/example/apportion/apportion/policy/JsonValue", "getItems", "()Ljava/util/List;"⟩ : MethodName)) hown (hw _ (List.mem_of_getElem? (i := 84) rfl)) (hw _ (List.mem_of_getElem? (i := 85) rfl)) (notFace_of_selects (args := #[]) (mvT hZ (hw _ (List.mem_of_getElem? (i := 87) rfl)))) (hw _ (List.mem_of_getElem? (i := 87) rfl)) (hw _ (List.mem_of_getElem? (i := 86) rfl)) (by decide) P93_0 (backC (W := 0) (rmgetitems l Z a0 hw b93 (.ref qL) h93 n0 (by omega) P93_3 rfl) hZ (hw _ (List.mem_of_getElem? (i := 88) rfl)) (hw _ (List.mem_of_getElem? (i := 31) rfl)) (by decide) (by decide)) e108 (argsL := []) (rest := []) rfl rfl pd_10 rfl (by rw [hml]; rfl) (hb hby at_121) (Nat.le_of_eq rfl) (by decide) (by decide) k109
    have k110 : To p.tables e below S0 (T110.setTop (mkF m 124 l99 [(.ref qL)])) := k110a
    have N110 := N108.app Nq110
    have e110 : T110.heap = h93 := eq110
    have f112 : Exa Z h93 qL "java/util/ImmutableCollections$ListN" := (((exaOld AL O0).keep Kq89).keep Kq93)
    obtain ⟨_, T111, L111, X111, ⟨rfl, Nq111, eq111⟩, k111a⟩ := callI' X110 hx hZ (y := (⟨"java/util/List", "size", "()I"⟩ : MethodName)) (z := (⟨"java/util/ImmutableCollections$ListN", "size", "()I"⟩ : MethodName)) hown (hw _ (List.mem_of_getElem? (i := 89) rfl)) (hw _ (List.mem_of_getElem? (i := 90) rfl)) (hw _ (List.mem_of_getElem? (i := 91) rfl)) (by first | rfl | simp [Cond.onTables, Cond.keepsFace, Cond.keeps, Cond.steady]) (hw _ (List.mem_of_getElem? (i := 92) rfl)) (hw _ (List.mem_of_getElem? (i := 93) rfl)) (hw _ (List.mem_of_getElem? (i := 94) rfl)) (hw _ (List.mem_of_getElem? (i := 95) rfl)) (hw _ (List.mem_of_getElem? (i := 96) rfl)) (by decide) f112 (backC (W := 0) (rmls l Z a0 hw qL bL kL h93 n0 (by omega) (fldOld FL f101) (FV.ext f101.2)) hZ (hw _ (List.mem_of_getElem? (i := 98) rfl)) (hw _ (List.mem_of_getElem? (i := 97) rfl)) (by decide) (by decide)) e110 (argsL := []) (rest := []) rfl rfl pd_17 rfl (by rw [hml]; rfl) (hb hby at_124) (Nat.le_of_eq rfl) (by decide) (by decide) k110
    have k111 : To p.tables e below S0 (T111.setTop (mkF m 129 l99 [(.int (0 : Int32))])) := k111a
    have N111 := N110.app Nq111
    have e111 : T111.heap = h93 := eq111
    have k113 : To p.tables e below S0 (T111.setTop (mkF m 136 l99 [(.ref b93)])) := fun tt hq => k111 tt (by
      show Steps _ _ _ (T111.setTop (mkF m 129 l99 [(.int (0 : Int32))])) _
      refine XS.ifYes X111.here hx rfl (pc0 := 129) (pc' := 134) rfl (hb hby at_129) rfl ((if0 _ _).trans (teq (by decide)).1) (by decide) (by decide) ?_
      show Steps _ _ _ (T111.setTop (mkF m 134 l99 [])) _
      refine XS.aload X111.here hx rfl (hb hby at_134) rfl rfl ?_
      show Steps _ _ _ (T111.setTop (mkF m 136 l99 [(.ref b93)])) _
      exact hq)
    obtain ⟨_, T114, L114, X114, ⟨rfl, Nq114, eq114⟩, k114a⟩ := callV' X111 hx hZ (y := (⟨"com/example/apportion/apportion/policy/JsonValue", "getMembers", "()Ljava/util/Map;"⟩ : MethodName)) (z := (⟨"com/example/apportion/apportion/policy/JsonValue", "getMembers", "()Ljava/util/Map;"⟩ : MethodName)) hown (hw _ (List.mem_of_getElem? (i := 101) rfl)) (hw _ (List.mem_of_getElem? (i := 102) rfl)) (notFace_of_selects (args := #[]) (mvT hZ (hw _ (List.mem_of_getElem? (i := 104) rfl)))) (hw _ (List.mem_of_getElem? (i := 104) rfl)) (hw _ (List.mem_of_getElem? (i := 103) rfl)) (by decide) P93_0 (backC (W := 0) (rmgetmembers l Z a0 hw b93 (.ref qM) h93 n0 (by omega) P93_4 rfl) hZ (hw _ (List.mem_of_getElem? (i := 105) rfl)) (hw _ (List.mem_of_getElem? (i := 31) rfl)) (by decide) (by decide)) e111 (argsL := []) (rest := []) rfl rfl pd_11 rfl (by rw [hml]; rfl) (hb hby at_136) (Nat.le_of_eq rfl) (by decide) (by decide) k113
    have k114 : To p.tables e below S0 (T114.setTop (mkF m 139 l99 [(.ref qM)])) := k114a
    have N114 := N111.app Nq114
    have e114 : T114.heap = h93 := eq114
    have f116 : Exa Z h93 qM "java/util/ImmutableCollections$MapN" := (((exaOld AM O0).keep Kq89).keep Kq93)
    obtain ⟨_, T115, L115, X115, ⟨rfl, Nq115, eq115⟩, k115a⟩ := callI' X114 hx hZ (y := (⟨"java/util/Map", "size", "()I"⟩ : MethodName)) (z := (⟨"java/util/ImmutableCollections$MapN", "size", "()I"⟩ : MethodName)) hown (hw _ (List.mem_of_getElem? (i := 106) rfl)) (hw _ (List.mem_of_getElem? (i := 107) rfl)) (hw _ (List.mem_of_getElem? (i := 108) rfl)) (by first | rfl | simp [Cond.onTables, Cond.keepsFace, Cond.keeps, Cond.steady]) (hw _ (List.mem_of_getElem? (i := 109) rfl)) (hw _ (List.mem_of_getElem? (i := 110) rfl)) (hw _ (List.mem_of_getElem? (i := 111) rfl)) (hw _ (List.mem_of_getElem? (i := 112) rfl)) (hw _ (List.mem_of_getElem? (i := 113) rfl)) (by decide) f116 (backC (W := 0) (rmms l Z a0 hw qM h93 n0 (by omega) (fldOld FM f101)) hZ (hw _ (List.mem_of_getElem? (i := 115) rfl)) (hw _ (List.mem_of_getElem? (i := 114) rfl)) (by decide) (by decide)) e114 (argsL := []) (rest := []) rfl rfl pd_17 rfl (by rw [hml]; rfl) (hb hby at_139) (Nat.le_of_eq rfl) (by decide) (by decide) k114
    have k115 : To p.tables e below S0 (T115.setTop (mkF m 144 l99 [(.int (0 : Int32))])) := k115a
    have N115 := N114.app Nq115
    have e115 : T115.heap = h93 := eq115
    have k117 : To p.tables e below S0 (T115.setTop (mkF m 150 l99 [(.int (1 : Int32))])) := fun tt hq => k115 tt (by
      show Steps _ _ _ (T115.setTop (mkF m 144 l99 [(.int (0 : Int32))])) _
      refine XS.ifYes X115.here hx rfl (pc0 := 144) (pc' := 149) rfl (hb hby at_144) rfl ((if0 _ _).trans (teq (by decide)).1) (by decide) (by decide) ?_
      show Steps _ _ _ (T115.setTop (mkF m 149 l99 [])) _
      refine XS.iconst X115.here hx rfl (hb hby at_149) ?_
      show Steps _ _ _ (T115.setTop (mkF m 150 l99 [(.int (1 : Int32))])) _
      exact hq)
    refine retIntW X115 hx hZ (own_EW hw) hS0 (by omega) C93 e115 hret hlk (by simp) rfl (hb hby at_150) k117 ?_ (by decide) (by decide)
    exact ⟨rfl, N115⟩
  · -- pc 45: (3 : Int32)
    have k118 : To p.tables e below S0 (T3.setTop (mkF m 45 l19 [(.int (3 : Int32))])) := by have hq := k20; rw [ht21] at hq; exact hq
    let l119 : Array Slot := #[.val (.int p0), .val (.int p1), .val (.int p2), .val (.int p3), .val (.int p4), .val (.ref (if (p0 &&& (1 : Int32)) = (0 : Int32) then qT else qN)), .val (.int (p1 &&& (255 : Int32))), .val (.int (p2 &&& (255 : Int32))), .val (.int (p3 &&& (255 : Int32))), .val (.int (3 : Int32)), .unset, .unset, .unset]
    have k120 : To p.tables e below S0 (T3.setTop (mkF m 55 l119 [(.int (p3 &&& (255 : Int32))), (.int (p2 &&& (255 : Int32))), (.int (p1 &&& (255 : Int32))), (.int (3 : Int32))])) := fun tt hq => k118 tt (by
      show Steps _ _ _ (T3.setTop (mkF m 45 l19 [(.int (3 : Int32))])) _
      refine XS.istore X3.here hx rfl (hb hby at_45) rfl (l' := l119) rfl ?_
      show Steps _ _ _ (T3.setTop (mkF m 47 l119 [])) _
      refine XS.iload X3.here hx rfl (hb hby at_47) rfl ?_
      show Steps _ _ _ (T3.setTop (mkF m 49 l119 [(.int (3 : Int32))])) _
      refine XS.iload X3.here hx rfl (hb hby at_49) rfl ?_
      show Steps _ _ _ (T3.setTop (mkF m 51 l119 [(.int (p1 &&& (255 : Int32))), (.int (3 : Int32))])) _
      refine XS.iload X3.here hx rfl (hb hby at_51) rfl ?_
      show Steps _ _ _ (T3.setTop (mkF m 53 l119 [(.int (p2 &&& (255 : Int32))), (.int (p1 &&& (255 : Int32))), (.int (3 : Int32))])) _
      refine XS.iload X3.here hx rfl (hb hby at_53) rfl ?_
      show Steps _ _ _ (T3.setTop (mkF m 55 l119 [(.int (p3 &&& (255 : Int32))), (.int (p2 &&& (255 : Int32))), (.int (p1 &&& (255 : Int32))), (.int (3 : Int32))])) _
      exact hq)
    obtain ⟨_, T121, L121, X121, ⟨a121, t121, k121x, rfl, Nq121, ga121, yt121, Kq121, P1210, P1211, P1212, P1213⟩, k121a⟩ := callS' X3 hx hZ (y := (⟨"com/example/apportion/apportion/policy/JsonValueWrittenPinLaw", "drawn", "(ICCC)Ljava/lang/String;"⟩ : MethodName)) hown (hw _ (List.mem_of_getElem? (i := 3) rfl)) (hw _ (List.mem_of_getElem? (i := 4) rfl)) (hw _ (List.mem_of_getElem? (i := 5) rfl)) (hw _ (List.mem_of_getElem? (i := 6) rfl)) (by decide) (backC (W := 0) (rm_dr3 l Z a0 hw zc (p1 &&& (255 : Int32)) (p2 &&& (255 : Int32)) (p3 &&& (255 : Int32)) h0 n0 (by omega) S_c hzc O0 (own_m255 _) (own_m255 _) (own_m255 _)) hZ (hw _ (List.mem_of_getElem? (i := 6) rfl)) (hw _ (List.mem_of_getElem? (i := 5) rfl)) (by decide) (by decide)) e3 (argsL := [(.int (3 : Int32)), (.int (p1 &&& (255 : Int32))), (.int (p2 &&& (255 : Int32))), (.int (p3 &&& (255 : Int32)))]) (rest := []) rfl rfl pd_13 rfl (by rw [hml]; rfl) (hb hby at_55) (Nat.le_of_eq rfl) (by decide) (by decide) k120
    have k121 : To p.tables e below S0 (T121.setTop (mkF m 58 l119 [(.ref a121)])) := k121a
    have N121 := N0.app Nq121
    obtain ⟨h121, e121⟩ : ∃ z, T121.heap = z := ⟨_, rfl⟩
    rw [e121] at Kq121 yt121 P1210 P1211 P1212 P1213
    have z121 : h0.size ≤ h121.size := Kq121.1
    have C121 := C0.trans (CHr.keep Kq121 sf0 C0.1)
    have ya121 : @LT.lt Nat instLTNat a121 h121.size := P1210.lt
    let l122 : Array Slot := #[.val (.int p0), .val (.int p1), .val (.int p2), .val (.int p3), .val (.int p4), .val (.ref (if (p0 &&& (1 : Int32)) = (0 : Int32) then qT else qN)), .val (.int (p1 &&& (255 : Int32))), .val (.int (p2 &&& (255 : Int32))), .val (.int (p3 &&& (255 : Int32))), .val (.int (3 : Int32)), .val (.ref a121), .unset, .unset]
    have k123 : To p.tables e below S0 (T121.setTop (mkF m 64 l122 [(.ref a121), (.ref (if (p0 &&& (1 : Int32)) = (0 : Int32) then qT else qN))])) := fun tt hq => k121 tt (by
      show Steps _ _ _ (T121.setTop (mkF m 58 l119 [(.ref a121)])) _
      refine XS.astore X121.here hx rfl (hb hby at_58) rfl rfl (l' := l122) rfl ?_
      show Steps _ _ _ (T121.setTop (mkF m 60 l122 [])) _
      refine XS.aload X121.here hx rfl (hb hby at_60) rfl rfl ?_
      show Steps _ _ _ (T121.setTop (mkF m 62 l122 [(.ref (if (p0 &&& (1 : Int32)) = (0 : Int32) then qT else qN))])) _
      refine XS.aload X121.here hx rfl (hb hby at_62) rfl rfl ?_
      show Steps _ _ _ (T121.setTop (mkF m 64 l122 [(.ref a121), (.ref (if (p0 &&& (1 : Int32)) = (0 : Int32) then qT else qN))])) _
      exact hq)
    have f124 : Old Z n0 h121 := (O0.keep Kq121 all0)
    obtain ⟨_, T125, L125, X125, ⟨b125, rfl, Nq125, gb125, Kq125, P125_0, P125_1, P125_2, P125_3, P125_4⟩, k125a⟩ := callS' X121 hx hZ (y := (⟨"com/example/apportion/apportion/policy/JsonValue", "written", "(Lcom/example/apportion/apportion/policy/JsonValue$Kind;Ljava/lang/String;)Lcom/example/apportion/apportion/policy/JsonValue;"⟩ : MethodName)) hown (hw _ (List.mem_of_getElem? (i := 29) rfl)) (hw _ (List.mem_of_getElem? (i := 30) rfl)) (hw _ (List.mem_of_getElem? (i := 31) rfl)) (hw _ (List.mem_of_getElem? (i := 32) rfl)) (by decide) (backC (W := 0) (rmwritten l Z a0 hw zc qN qT qL qM (if (p0 &&& (1 : Int32)) = (0 : Int32) then qT else qN) a121 h121 n0 (by omega) S_c hzc S_NUMBER S_TEXT S_EMPTY_LIST S_EMPTY_MAP f124) hZ (hw _ (List.mem_of_getElem? (i := 32) rfl)) (hw _ (List.mem_of_getElem? (i := 31) rfl)) (by decide) (by decide)) e121 (argsL := [(.ref (if (p0 &&& (1 : Int32)) = (0 : Int32) then qT else qN)), (.ref a121)]) (rest := []) rfl rfl pd_14 rfl (by rw [hml]; rfl) (hb hby at_64) (Nat.le_of_eq rfl) (by decide) (by decide) k123
    have k125 : To p.tables e below S0 (T125.setTop (mkF m 67 l122 [(.ref b125)])) := k125a
    have N125 := N121.app Nq125
    obtain ⟨h125, e125⟩ : ∃ z, T125.heap = z := ⟨_, rfl⟩
    rw [e125] at Kq125 P125_0 P125_1 P125_2 P125_3 P125_4
    have z125 : h121.size ≤ h125.size := Kq125.1
    have C125 := C121.trans (CHr.keep Kq125 sf0 C121.1)
    let l126 : Array Slot := #[.val (.int p0), .val (.int p1), .val (.int p2), .val (.int p3), .val (.int p4), .val (.ref (if (p0 &&& (1 : Int32)) = (0 : Int32) then qT else qN)), .val (.int (p1 &&& (255 : Int32))), .val (.int (p2 &&& (255 : Int32))), .val (.int (p3 &&& (255 : Int32))), .val (.int (3 : Int32)), .val (.ref a121), .val (.ref b125), .unset]
    have k127 : To p.tables e below S0 (T125.setTop (mkF m 71 l126 [(.ref b125)])) := fun tt hq => k125 tt (by
      show Steps _ _ _ (T125.setTop (mkF m 67 l122 [(.ref b125)])) _
      refine XS.astore X125.here hx rfl (hb hby at_67) rfl rfl (l' := l126) rfl ?_
      show Steps _ _ _ (T125.setTop (mkF m 69 l126 [])) _
      refine XS.aload X125.here hx rfl (hb hby at_69) rfl rfl ?_
      show Steps _ _ _ (T125.setTop (mkF m 71 l126 [(.ref b125)])) _
      exact hq)
    obtain ⟨_, T128, L128, X128, ⟨rfl, Nq128, eq128⟩, k128a⟩ := callV' X125 hx hZ (y := (⟨"com/example/apportion/apportion/policy/JsonValue", "getKind", "()Lcom/example/apportion/apportion/policy/JsonValue$Kind;"⟩ : MethodName)) (z := (⟨"com/example/apportion/apportion/policy/JsonValue", "getKind", "()Lcom/example/apportion/apportion/policy/JsonValue$Kind;"⟩ : MethodName)) hown (hw _ (List.mem_of_getElem? (i := 58) rfl)) (hw _ (List.mem_of_getElem? (i := 59) rfl)) (notFace_of_selects (args := #[]) (mvT hZ (hw _ (List.mem_of_getElem? (i := 61) rfl)))) (hw _ (List.mem_of_getElem? (i := 61) rfl)) (hw _ (List.mem_of_getElem? (i := 60) rfl)) (by decide) P125_0 (backC (W := 0) (rmgetkind l Z a0 hw b125 (.ref (if (p0 &&& (1 : Int32)) = (0 : Int32) then qT else qN)) h125 n0 (by omega) P125_1 rfl) hZ (hw _ (List.mem_of_getElem? (i := 62) rfl)) (hw _ (List.mem_of_getElem? (i := 31) rfl)) (by decide) (by decide)) e125 (argsL := []) (rest := []) rfl rfl pd_15 rfl (by rw [hml]; rfl) (hb hby at_71) (Nat.le_of_eq rfl) (by decide) (by decide) k127
    have k128 : To p.tables e below S0 (T128.setTop (mkF m 74 l126 [(.ref (if (p0 &&& (1 : Int32)) = (0 : Int32) then qT else qN))])) := k128a
    have N128 := N125.app Nq128
    have e128 : T128.heap = h125 := eq128
    have k129 : To p.tables e below S0 (T128.setTop (mkF m 83 l126 [(.ref b125)])) := fun tt hq => k128 tt (by
      show Steps _ _ _ (T128.setTop (mkF m 74 l126 [(.ref (if (p0 &&& (1 : Int32)) = (0 : Int32) then qT else qN))])) _
      refine XS.aload X128.here hx rfl (hb hby at_74) rfl rfl ?_
      show Steps _ _ _ (T128.setTop (mkF m 76 l126 [(.ref (if (p0 &&& (1 : Int32)) = (0 : Int32) then qT else qN)), (.ref (if (p0 &&& (1 : Int32)) = (0 : Int32) then qT else qN))])) _
      refine Jvm.RoadKit.acmp (g := (mkF m 76 l126 [(.ref (if (p0 &&& (1 : Int32)) = (0 : Int32) then qT else qN)), (.ref (if (p0 &&& (1 : Int32)) = (0 : Int32) then qT else qN))])) X128 hx rfl rfl rfl (pc0 := 76) (pc' := 81) (same := true) rfl (hb hby at_76) rfl (decide_eq_true rfl) (by decide) (by decide) ?_
      show Steps _ _ _ (T128.setTop (mkF m 81 l126 [])) _
      refine XS.aload X128.here hx rfl (hb hby at_81) rfl rfl ?_
      show Steps _ _ _ (T128.setTop (mkF m 83 l126 [(.ref b125)])) _
      exact hq)
    obtain ⟨_, T130, L130, X130, ⟨rfl, Nq130, eq130⟩, k130a⟩ := callV' X128 hx hZ (y := (⟨"com/example/apportion/apportion/policy/JsonValue", "getText", "()Ljava/lang/String;"⟩ : MethodName)) (z := (⟨"com/example/apportion/apportion/policy/JsonValue", "getText", "()Ljava/lang/String;"⟩ : MethodName)) hown (hw _ (List.mem_of_getElem? (i := 63) rfl)) (hw _ (List.mem_of_getElem? (i := 64) rfl)) (notFace_of_selects (args := #[]) (mvT hZ (hw _ (List.mem_of_getElem? (i := 66) rfl)))) (hw _ (List.mem_of_getElem? (i := 66) rfl)) (hw _ (List.mem_of_getElem? (i := 65) rfl)) (by decide) P125_0 (backC (W := 0) (rmgettext l Z a0 hw b125 (.ref a121) h125 n0 (by omega) P125_2 rfl) hZ (hw _ (List.mem_of_getElem? (i := 67) rfl)) (hw _ (List.mem_of_getElem? (i := 31) rfl)) (by decide) (by decide)) e128 (argsL := []) (rest := []) rfl rfl pd_16 rfl (by rw [hml]; rfl) (hb hby at_83) (Nat.le_of_eq rfl) (by decide) (by decide) k129
    have k130 : To p.tables e below S0 (T130.setTop (mkF m 86 l126 [(.ref a121)])) := k130a
    have N130 := N128.app Nq130
    have e130 : T130.heap = h125 := eq130
    let l131 : Array Slot := #[.val (.int p0), .val (.int p1), .val (.int p2), .val (.int p3), .val (.int p4), .val (.ref (if (p0 &&& (1 : Int32)) = (0 : Int32) then qT else qN)), .val (.int (p1 &&& (255 : Int32))), .val (.int (p2 &&& (255 : Int32))), .val (.int (p3 &&& (255 : Int32))), .val (.int (3 : Int32)), .val (.ref a121), .val (.ref b125), .val (.ref a121)]
    have k132 : To p.tables e below S0 (T130.setTop (mkF m 97 l131 [(.ref a121)])) := fun tt hq => k130 tt (by
      show Steps _ _ _ (T130.setTop (mkF m 86 l126 [(.ref a121)])) _
      refine XS.astore X130.here hx rfl (hb hby at_86) rfl rfl (l' := l131) rfl ?_
      show Steps _ _ _ (T130.setTop (mkF m 88 l131 [])) _
      refine XS.aload X130.here hx rfl (hb hby at_88) rfl rfl ?_
      show Steps _ _ _ (T130.setTop (mkF m 90 l131 [(.ref a121)])) _
      refine XS.ifnonnullYes X130.here hx rfl (pc0 := 90) (pc' := 95) rfl (hb hby at_90) rfl (by decide) (by decide) ?_
      show Steps _ _ _ (T130.setTop (mkF m 95 l131 [])) _
      refine XS.aload X130.here hx rfl (hb hby at_95) rfl rfl ?_
      show Steps _ _ _ (T130.setTop (mkF m 97 l131 [(.ref a121)])) _
      exact hq)
    have f133 : Old Z n0 h125 := (f124.keep Kq125 all0)
    have f134 : Exa Z h125 a121 "java/lang/String" := (P1210.keep Kq125)
    have f135 : Fld Z h125 a121 "java/lang/String" "value" "[B" (.ref t121) := (P1211.keep Kq125 nin0)
    have f136 : Fld Z h125 a121 "java/lang/String" "coder" "B" (.int (0 : Int32)) := (P1212.keep Kq125 nin0)
    have f137 : Arv Z h125 t121 k121x .byte (3 : Int32) [(.int (nar .byte ((p1 &&& (255 : Int32)).toInt8.toInt32))), (.int (nar .byte ((p2 &&& (255 : Int32)).toInt8.toInt32))), (.int (nar .byte ((p3 &&& (255 : Int32)).toInt8.toInt32)))] (.int 0) := (P1213.keep Kq125 nin0)
    obtain ⟨_, T138, L138, X138, ⟨rfl, Nq138, eq138⟩, k138a⟩ := callV' X130 hx hZ (y := (⟨"java/lang/String", "length", "()I"⟩ : MethodName)) (z := (⟨"java/lang/String", "length", "()I"⟩ : MethodName)) hown (hw _ (List.mem_of_getElem? (i := 68) rfl)) (hw _ (List.mem_of_getElem? (i := 69) rfl)) (notFace_of_selects (args := #[]) (mvT hZ (hw _ (List.mem_of_getElem? (i := 71) rfl)))) (hw _ (List.mem_of_getElem? (i := 71) rfl)) (hw _ (List.mem_of_getElem? (i := 70) rfl)) (by decide) f134 (backC (W := 0) (rm_len3 l Z a0 hw zc a121 t121 k121x (nar .byte ((p1 &&& (255 : Int32)).toInt8.toInt32)) (nar .byte ((p2 &&& (255 : Int32)).toInt8.toInt32)) (nar .byte ((p3 &&& (255 : Int32)).toInt8.toInt32)) h125 n0 (by omega) S_c hzc f133 f134 f135 f136 f137) hZ (hw _ (List.mem_of_getElem? (i := 72) rfl)) (hw _ (List.mem_of_getElem? (i := 9) rfl)) (by decide) (by decide)) e130 (argsL := []) (rest := []) rfl rfl pd_17 rfl (by rw [hml]; rfl) (hb hby at_97) (Nat.le_of_eq rfl) (by decide) (by decide) k132
    have k138 : To p.tables e below S0 (T138.setTop (mkF m 100 l131 [(.int (3 : Int32))])) := k138a
    have N138 := N130.app Nq138
    have e138 : T138.heap = h125 := eq138
    have k139 : To p.tables e below S0 (T138.setTop (mkF m 111 l131 [(.ref a121), (.ref a121)])) := fun tt hq => k138 tt (by
      show Steps _ _ _ (T138.setTop (mkF m 100 l131 [(.int (3 : Int32))])) _
      refine XS.iload X138.here hx rfl (hb hby at_100) rfl ?_
      show Steps _ _ _ (T138.setTop (mkF m 102 l131 [(.int (3 : Int32)), (.int (3 : Int32))])) _
      refine XS.icmpYes X138.here hx rfl (pc0 := 102) (pc' := 107) rfl (hb hby at_102) rfl (teq (by decide)).1 (by decide) (by decide) ?_
      show Steps _ _ _ (T138.setTop (mkF m 107 l131 [])) _
      refine XS.aload X138.here hx rfl (hb hby at_107) rfl rfl ?_
      show Steps _ _ _ (T138.setTop (mkF m 109 l131 [(.ref a121)])) _
      refine XS.aload X138.here hx rfl (hb hby at_109) rfl rfl ?_
      show Steps _ _ _ (T138.setTop (mkF m 111 l131 [(.ref a121), (.ref a121)])) _
      exact hq)
    obtain ⟨_, T140, L140, X140, ⟨rfl, Nq140, eq140⟩, k140a⟩ := callV' X138 hx hZ (y := (⟨"java/lang/String", "equals", "(Ljava/lang/Object;)Z"⟩ : MethodName)) (z := (⟨"java/lang/String", "equals", "(Ljava/lang/Object;)Z"⟩ : MethodName)) hown (hw _ (List.mem_of_getElem? (i := 79) rfl)) (hw _ (List.mem_of_getElem? (i := 80) rfl)) (notFace_of_selects (args := #[]) (mvT hZ (hw _ (List.mem_of_getElem? (i := 82) rfl)))) (hw _ (List.mem_of_getElem? (i := 82) rfl)) (hw _ (List.mem_of_getElem? (i := 81) rfl)) (by decide) f134 (backC (W := 0) (rm_eq l Z a0 hw a121 h125 n0 (by omega)) hZ (hw _ (List.mem_of_getElem? (i := 83) rfl)) (hw _ (List.mem_of_getElem? (i := 9) rfl)) (by decide) (by decide)) e138 (argsL := [(.ref a121)]) (rest := []) rfl rfl pd_18 rfl (by rw [hml]; rfl) (hb hby at_111) (Nat.le_of_eq rfl) (by decide) (by decide) k139
    have k140 : To p.tables e below S0 (T140.setTop (mkF m 114 l131 [(.int (1 : Int32))])) := k140a
    have N140 := N138.app Nq140
    have e140 : T140.heap = h125 := eq140
    have k141 : To p.tables e below S0 (T140.setTop (mkF m 121 l131 [(.ref b125)])) := fun tt hq => k140 tt (by
      show Steps _ _ _ (T140.setTop (mkF m 114 l131 [(.int (1 : Int32))])) _
      refine XS.ifYes X140.here hx rfl (pc0 := 114) (pc' := 119) rfl (hb hby at_114) rfl ((if0 _ _).trans (feq (by decide)).2) (by decide) (by decide) ?_
      show Steps _ _ _ (T140.setTop (mkF m 119 l131 [])) _
      refine XS.aload X140.here hx rfl (hb hby at_119) rfl rfl ?_
      show Steps _ _ _ (T140.setTop (mkF m 121 l131 [(.ref b125)])) _
      exact hq)
    obtain ⟨_, T142, L142, X142, ⟨rfl, Nq142, eq142⟩, k142a⟩ := callV' X140 hx hZ (y := (⟨"com/example/apportion/apportion/policy/JsonValue", "getItems", "()Ljava/util/List;"⟩ : MethodName)) (z := (⟨"com/example/apportion/apportion/policy/JsonValue", "getItems", "()Ljava/util/List;"⟩ : MethodName)) hown (hw _ (List.mem_of_getElem? (i := 84) rfl)) (hw _ (List.mem_of_getElem? (i := 85) rfl)) (notFace_of_selects (args := #[]) (mvT hZ (hw _ (List.mem_of_getElem? (i := 87) rfl)))) (hw _ (List.mem_of_getElem? (i := 87) rfl)) (hw _ (List.mem_of_getElem? (i := 86) rfl)) (by decide) P125_0 (backC (W := 0) (rmgetitems l Z a0 hw b125 (.ref qL) h125 n0 (by omega) P125_3 rfl) hZ (hw _ (List.mem_of_getElem? (i := 88) rfl)) (hw _ (List.mem_of_getElem? (i := 31) rfl)) (by decide) (by decide)) e140 (argsL := []) (rest := []) rfl rfl pd_10 rfl (by rw [hml]; rfl) (hb hby at_121) (Nat.le_of_eq rfl) (by decide) (by decide) k141
    have k142 : To p.tables e below S0 (T142.setTop (mkF m 124 l131 [(.ref qL)])) := k142a
    have N142 := N140.app Nq142
    have e142 : T142.heap = h125 := eq142
    have f144 : Exa Z h125 qL "java/util/ImmutableCollections$ListN" := (((exaOld AL O0).keep Kq121).keep Kq125)
    obtain ⟨_, T143, L143, X143, ⟨rfl, Nq143, eq143⟩, k143a⟩ := callI' X142 hx hZ (y := (⟨"java/util/List", "size", "()I"⟩ : MethodName)) (z := (⟨"java/util/ImmutableCollections$ListN", "size", "()I"⟩ : MethodName)) hown (hw _ (List.mem_of_getElem? (i := 89) rfl)) (hw _ (List.mem_of_getElem? (i := 90) rfl)) (hw _ (List.mem_of_getElem? (i := 91) rfl)) (by first | rfl | simp [Cond.onTables, Cond.keepsFace, Cond.keeps, Cond.steady]) (hw _ (List.mem_of_getElem? (i := 92) rfl)) (hw _ (List.mem_of_getElem? (i := 93) rfl)) (hw _ (List.mem_of_getElem? (i := 94) rfl)) (hw _ (List.mem_of_getElem? (i := 95) rfl)) (hw _ (List.mem_of_getElem? (i := 96) rfl)) (by decide) f144 (backC (W := 0) (rmls l Z a0 hw qL bL kL h125 n0 (by omega) (fldOld FL f133) (FV.ext f133.2)) hZ (hw _ (List.mem_of_getElem? (i := 98) rfl)) (hw _ (List.mem_of_getElem? (i := 97) rfl)) (by decide) (by decide)) e142 (argsL := []) (rest := []) rfl rfl pd_17 rfl (by rw [hml]; rfl) (hb hby at_124) (Nat.le_of_eq rfl) (by decide) (by decide) k142
    have k143 : To p.tables e below S0 (T143.setTop (mkF m 129 l131 [(.int (0 : Int32))])) := k143a
    have N143 := N142.app Nq143
    have e143 : T143.heap = h125 := eq143
    have k145 : To p.tables e below S0 (T143.setTop (mkF m 136 l131 [(.ref b125)])) := fun tt hq => k143 tt (by
      show Steps _ _ _ (T143.setTop (mkF m 129 l131 [(.int (0 : Int32))])) _
      refine XS.ifYes X143.here hx rfl (pc0 := 129) (pc' := 134) rfl (hb hby at_129) rfl ((if0 _ _).trans (teq (by decide)).1) (by decide) (by decide) ?_
      show Steps _ _ _ (T143.setTop (mkF m 134 l131 [])) _
      refine XS.aload X143.here hx rfl (hb hby at_134) rfl rfl ?_
      show Steps _ _ _ (T143.setTop (mkF m 136 l131 [(.ref b125)])) _
      exact hq)
    obtain ⟨_, T146, L146, X146, ⟨rfl, Nq146, eq146⟩, k146a⟩ := callV' X143 hx hZ (y := (⟨"com/example/apportion/apportion/policy/JsonValue", "getMembers", "()Ljava/util/Map;"⟩ : MethodName)) (z := (⟨"com/example/apportion/apportion/policy/JsonValue", "getMembers", "()Ljava/util/Map;"⟩ : MethodName)) hown (hw _ (List.mem_of_getElem? (i := 101) rfl)) (hw _ (List.mem_of_getElem? (i := 102) rfl)) (notFace_of_selects (args := #[]) (mvT hZ (hw _ (List.mem_of_getElem? (i := 104) rfl)))) (hw _ (List.mem_of_getElem? (i := 104) rfl)) (hw _ (List.mem_of_getElem? (i := 103) rfl)) (by decide) P125_0 (backC (W := 0) (rmgetmembers l Z a0 hw b125 (.ref qM) h125 n0 (by omega) P125_4 rfl) hZ (hw _ (List.mem_of_getElem? (i := 105) rfl)) (hw _ (List.mem_of_getElem? (i := 31) rfl)) (by decide) (by decide)) e143 (argsL := []) (rest := []) rfl rfl pd_11 rfl (by rw [hml]; rfl) (hb hby at_136) (Nat.le_of_eq rfl) (by decide) (by decide) k145
    have k146 : To p.tables e below S0 (T146.setTop (mkF m 139 l131 [(.ref qM)])) := k146a
    have N146 := N143.app Nq146
    have e146 : T146.heap = h125 := eq146
    have f148 : Exa Z h125 qM "java/util/ImmutableCollections$MapN" := (((exaOld AM O0).keep Kq121).keep Kq125)
    obtain ⟨_, T147, L147, X147, ⟨rfl, Nq147, eq147⟩, k147a⟩ := callI' X146 hx hZ (y := (⟨"java/util/Map", "size", "()I"⟩ : MethodName)) (z := (⟨"java/util/ImmutableCollections$MapN", "size", "()I"⟩ : MethodName)) hown (hw _ (List.mem_of_getElem? (i := 106) rfl)) (hw _ (List.mem_of_getElem? (i := 107) rfl)) (hw _ (List.mem_of_getElem? (i := 108) rfl)) (by first | rfl | simp [Cond.onTables, Cond.keepsFace, Cond.keeps, Cond.steady]) (hw _ (List.mem_of_getElem? (i := 109) rfl)) (hw _ (List.mem_of_getElem? (i := 110) rfl)) (hw _ (List.mem_of_getElem? (i := 111) rfl)) (hw _ (List.mem_of_getElem? (i := 112) rfl)) (hw _ (List.mem_of_getElem? (i := 113) rfl)) (by decide) f148 (backC (W := 0) (rmms l Z a0 hw qM h125 n0 (by omega) (fldOld FM f133)) hZ (hw _ (List.mem_of_getElem? (i := 115) rfl)) (hw _ (List.mem_of_getElem? (i := 114) rfl)) (by decide) (by decide)) e146 (argsL := []) (rest := []) rfl rfl pd_17 rfl (by rw [hml]; rfl) (hb hby at_139) (Nat.le_of_eq rfl) (by decide) (by decide) k146
    have k147 : To p.tables e below S0 (T147.setTop (mkF m 144 l131 [(.int (0 : Int32))])) := k147a
    have N147 := N146.app Nq147
    have e147 : T147.heap = h125 := eq147
    have k149 : To p.tables e below S0 (T147.setTop (mkF m 150 l131 [(.int (1 : Int32))])) := fun tt hq => k147 tt (by
      show Steps _ _ _ (T147.setTop (mkF m 144 l131 [(.int (0 : Int32))])) _
      refine XS.ifYes X147.here hx rfl (pc0 := 144) (pc' := 149) rfl (hb hby at_144) rfl ((if0 _ _).trans (teq (by decide)).1) (by decide) (by decide) ?_
      show Steps _ _ _ (T147.setTop (mkF m 149 l131 [])) _
      refine XS.iconst X147.here hx rfl (hb hby at_149) ?_
      show Steps _ _ _ (T147.setTop (mkF m 150 l131 [(.int (1 : Int32))])) _
      exact hq)
    refine retIntW X147 hx hZ (own_EW hw) hS0 (by omega) C125 e147 hret hlk (by simp) rfl (hb hby at_150) k149 ?_ (by decide) (by decide)
    exact ⟨rfl, N147⟩
set_option maxRecDepth 65536 in
set_option maxHeartbeats 40000000 in
theorem comes_1 {Post : Tables → Env → Array Value → State → Outcome → State → Prop} (hpost : ∀ tb e args s v u, (limb_1_1.after args s (.returned v) u = true ∧ limb_1_2.after args s (.returned v) u = true ∧ True) → ReturnedEndW s (.returned v) u (Jvm.fieldLocs frame_1_writes args s ++ Jvm.arrayLocs frame_1_arrays args s ++ Jvm.staticLocs frame_1_statics s) 24 1152 → Post tb e args s (.returned v) u) :
    ArmFor flags0 classFile x code maxLocals ret World_1 tables_1 room_1 Calls_1 rest_1 Pre_1 Post := by
  intro l hfl _ _ p e ha hc hk s m args below hf hA hF happ hP
  obtain ⟨hcalls, hrest, hpre⟩ := hP
  obtain ⟨-, -, -, hnamed, -, -, -, hat⟩ := (Spec.applies_iff hf).mp happ
  obtain ⟨hg, hn⟩ := and_e (Cond.before_iff.mp (show (Jvm.Cond.and given_1 narrow_1).before args s = true from hpre))
  obtain ⟨u1, u2⟩ := and_e hg
  obtain ⟨u3, u4⟩ := and_e u2
  obtain ⟨u5, u6⟩ := and_e u4
  obtain ⟨u7, u8⟩ := and_e u6
  obtain ⟨u9, u10⟩ := and_e u8
  obtain ⟨u11, u12⟩ := and_e hn
  obtain ⟨w0, w1, w2, w3, w4, rfl⟩ : ∃ w0 w1 w2 w3 w4 : Value, args = #[w0, w1, w2, w3, w4] := by
    have hs : args.size = 5 := by simpa [Cond.value, given_1] using u1
    obtain ⟨L⟩ := args
    match L, hs with
    | [w0, w1, w2, w3, w4], _ => exact ⟨w0, w1, w2, w3, w4, rfl⟩
  have hw := fun d (hd : d ∈ tables_1) => atoms_spec (ws := Jvm.Cond.code x code maxLocals ret :: tables_1) hat d (List.mem_cons_of_mem _ hd)
  have hfit : Fit s := fun {y c} hc i hi => by
    obtain ⟨ha, rfl⟩ := Array.getElem?_eq_some_iff.mp hc
    have q := List.all_eq_true.mp ((Array.all_eq_true_iff_forall_mem.mp hF) _ (Array.getElem_mem ha)) i (List.mem_range.mpr hi)
    simpa [Array.getElem?_eq_getElem hi] using q
  obtain ⟨hsets, hown0⟩ := atoms_of _ (rest_1_c_eq ▸ (show rest_1_c.before _ s = true from hrest))
  obtain ⟨i0, ei0⟩ := is_v u3
  obtain rfl : w0 = (.int i0) := Option.some.inj ei0
  obtain ⟨i1, ei1⟩ := is_v u5
  obtain rfl : w1 = (.int i1) := Option.some.inj ei1
  obtain ⟨i2, ei2⟩ := is_v u7
  obtain rfl : w2 = (.int i2) := Option.some.inj ei2
  obtain ⟨i3, ei3⟩ := is_v u9
  obtain rfl : w3 = (.int i3) := Option.some.inj ei3
  obtain ⟨i4, ei4⟩ := is_v u10
  obtain rfl : w4 = (.int i4) := Option.some.inj ei4
  obtain ⟨q_TEXT, ev_TEXT⟩ := exa_v u11
  have A_TEXT := Exa.start ev_TEXT u11
  have S_TEXT := Sta.start ev_TEXT (Or.inr ⟨(hw _ (List.mem_of_getElem? (i := 1) rfl)), (hw _ (List.mem_of_getElem? (i := 2) rfl))⟩)
  obtain ⟨q_NUMBER, ev_NUMBER⟩ := exa_v u12
  have A_NUMBER := Exa.start ev_NUMBER u12
  have S_NUMBER := Sta.start ev_NUMBER (Or.inr ⟨(hw _ (List.mem_of_getElem? (i := 1) rfl)), (hw _ (List.mem_of_getElem? (i := 119) rfl))⟩)
  obtain ⟨q_EMPTY_LIST, ev_EMPTY_LIST⟩ := exa_v (Cond.before_iff.mp (hsets _ (List.mem_of_getElem? (i := 2) rfl)))
  have A_EMPTY_LIST := Exa.start ev_EMPTY_LIST (Cond.before_iff.mp (hsets _ (List.mem_of_getElem? (i := 2) rfl)))
  have S_EMPTY_LIST := Sta.start ev_EMPTY_LIST (Or.inl (hsets _ (List.mem_of_getElem? (i := 1) rfl)))
  obtain ⟨q_EMPTY_MAP, ev_EMPTY_MAP⟩ := exa_v (Cond.before_iff.mp (hsets _ (List.mem_of_getElem? (i := 9) rfl)))
  have A_EMPTY_MAP := Exa.start ev_EMPTY_MAP (Cond.before_iff.mp (hsets _ (List.mem_of_getElem? (i := 9) rfl)))
  have S_EMPTY_MAP := Sta.start ev_EMPTY_MAP (Or.inl (hsets _ (List.mem_of_getElem? (i := 8) rfl)))
  have F_EMPTY_MAP : Fld s s.heap q_EMPTY_MAP "java/util/ImmutableCollections$MapN" "size" "I" (.int (0 : Int32)) := Fld.start (by rw [← fld_at (C := "java/util/ImmutableCollections$MapN") (n := "size") (dd := "I") ev_EMPTY_MAP]; exact eqv_i (Term.int_eval _) (Cond.before_iff.mp (hsets _ (List.mem_of_getElem? (i := 13) rfl))))
  obtain ⟨zc, ezc⟩ := is_v (Cond.before_iff.mp (hsets _ (List.mem_of_getElem? (i := 15) rfl)))
  have S_c := Sta.start ezc (Or.inl (hsets _ (List.mem_of_getElem? (i := 14) rfl)))
  have hzc : ¬ zc = (0 : Int32) := own_nz ezc (Cond.before_iff.mp (hsets _ (List.mem_of_getElem? (i := 16) rfl)))
  obtain ⟨bL, kL, FL, FV⟩ := own_empty hfit ev_EMPTY_LIST (Cond.before_iff.mp (hsets _ (List.mem_of_getElem? (i := 3) rfl))) (Cond.before_iff.mp (hsets _ (List.mem_of_getElem? (i := 5) rfl)))
  obtain ⟨n, o, h1, h2, h3, _, L, rfl, ⟨rfl, N⟩, -, hq⟩ := rm0 l s _ hw zc q_NUMBER q_TEXT q_EMPTY_LIST q_EMPTY_MAP bL kL i0 i1 i2 i3 i4 s.heap s.heap.size (Nat.le_refl _) S_c hzc S_NUMBER S_TEXT S_EMPTY_LIST S_EMPTY_MAP A_EMPTY_LIST A_EMPTY_MAP FL FV F_EMPTY_MAP (Old.start s) p e ha hc hk s m _ below hf ((Spec.applies_iff_loose hf).mp happ).1 ⟨rfl, State.Warmed39.refl s, rfl, (CHv.start (own_EW hw) (fun q hq => hcalls.1 q hq) (hsets _ (List.mem_of_getElem? (i := 16) rfl)) (hw _ (List.mem_of_getElem? (i := 22) rfl)) (hw _ (List.mem_of_getElem? (i := 8) rfl))), fun _ q => nomatch q⟩ trivial
  refine ⟨n, _, h1, h2, h3, hpost _ _ _ _ _ _ ⟨Cond.after_iff.mpr rfl, Cond.after_iff.mpr (eq_i res_at (Term.int_eval (1)) rfl), trivial⟩ ⟨hq.1, hq.2.1, hq.2.2.1, (hq.2.2.2.sift fun y hy => Or.inr (N y hy)).mono (by decide) (by decide)⟩⟩
theorem main_1_1 : Claimed_1_1 := comes_1 fun _ _ _ _ _ _ h hF => ⟨h.1, hF⟩
theorem main_1_2 : Claimed_1_2 := comes_1 fun _ _ _ _ _ _ h hF => ⟨h.2.1, hF⟩
end Jvm.Pilot.@@N@@
namespace Jvm.Pilot.@@N@@
open Jvm Jvm.ClassFile Sem Op Lib Jvm.Free Jvm.Stand Jvm.Pilot.@@N@@.Jvm.D
/-! MADE BY PROGRAM (witnessworld.py) out of the Statement's table words and the real class files: 37 classes; the members and pool entries that the words name. The judged class is class 1, her method 2. -/
namespace start1
open Jvm.ClassFile
def u (s : String) : CpInfo := .utf8 (stringToUtf16 s)
/-- a pool by its gaps: so many unusable entries, then the entry; so many at the end -/
def gap : Nat → List CpInfo → List CpInfo
  | 0, r => r
  | n + 1, r => .unusable :: gap n r
def poolList (es : List (Nat × CpInfo)) (last : Nat) : List CpInfo := es.foldr (fun e r => gap e.1 (e.2 :: r)) (gap last [])
def pool (es : List (Nat × CpInfo)) (last : Nat) : Array CpInfo := ⟨poolList es last⟩
def fileOf (pool : Array CpInfo) (this : Nat) (attrs : Array Attribute := #[]) (ms : Array MethodInfo := #[]) (fl : Nat := 33) (sup : Nat := 0) (ifs : Array Nat := #[]) (fds : Array FieldInfo := #[]) : ClassFile where
  minorVersion := 0
  majorVersion := 65
  constantPool := pool
  accessFlags := fl
  thisClass := this
  superClass := sup
  interfaces := ifs
  fields := fds
  methods := ms
  attributes := attrs
def plain (name : String) (sup : Option ClassId) : Class where
  name := name
  kind := .ordinary
  loader := none
  accessFlags := 33
  super := sup
  interfaces := #[]
  cf := none
  fields := #[]
  methods := #[]
  instanceTypes := #[]
  staticTypes := #[]
  resolved := #[]
  callSites := []
  init := .initialized
  statics := none
  mirror := none

def pool0 : Array CpInfo := pool [(5, u "<init>"), (0, u "()V"), (1, .class_ 10), (1, u "java/lang/Object")] 113

def k0c0 : Code := { maxStack := 0, maxLocals := 1, code := object_method_1_code, exceptionTable := #[], attributes := #[] }
def k0m0 : Method := { name := "<init>", desc := "()V", sig := { parameters := [], returnType := none }, accessFlags := 1, code := some k0c0 }
/-- java/lang/Object -/
def k0 : Class := { plain "java/lang/Object" none with
  accessFlags := 33
  interfaces := #[]
  cf := some (fileOf pool0 8 #[] #[{ accessFlags := 1, nameIndex := 5, descriptorIndex := 6, attributes := #[] }] 33 0 #[] #[])
  fields := #[]
  methods := #[k0m0]
  instanceTypes := #[]
  staticTypes := #[]
  resolved := Array.replicate 124 none
  statics := none }

def pool1 : Array CpInfo := pool [(2, .class_ 4), (1, u "java/lang/Object"), (0, u "<init>"), (0, u "()V"), (0, .class_ 8), (0, u "java/lang/String"), (0, .methodref 7 10), (0, .nameAndType 5 11), (0, u "([C)V"), (0, .methodref 7 13), (0, .nameAndType 14 15), (0, u "valueOf"), (0, u "(C)Ljava/lang/String;"), (0, .fieldref 17 18), (0, .class_ 19), (0, .nameAndType 20 21), (0, u "com/example/apportion/apportion/policy/JsonValue$Kind"), (0, u "NUMBER"), (0, u "Lcom/example/apportion/apportion/policy/JsonValue$Kind;"), (0, .fieldref 17 23), (0, .nameAndType 24 21), (0, u "TEXT"), (0, .methodref 26 27), (0, .class_ 28), (0, .nameAndType 29 30), (0, u "com/example/apportion/apportion/policy/JsonValueWrittenPinLaw"), (0, u "drawn"), (0, u "(ICCC)Ljava/lang/String;"), (0, .methodref 32 33), (0, .class_ 34), (0, .nameAndType 35 36), (0, u "com/example/apportion/apportion/policy/JsonValue"), (0, u "written"), (0, u "(Lcom/example/apportion/apportion/policy/JsonValue$Kind;Ljava/lang/String;)Lcom/example/apportion/apportion/policy/JsonValue;"), (0, .methodref 32 38), (0, .nameAndType 39 40), (0, u "getKind"), (0, u "()Lcom/example/apportion/apportion/policy/JsonValue$Kind;"), (0, .methodref 32 42), (0, .nameAndType 43 44), (0, u "getText"), (0, u "()Ljava/lang/String;"), (0, .methodref 7 46), (0, .nameAndType 47 48), (0, u "length"), (0, u "()I"), (0, .methodref 7 50), (0, .nameAndType 51 52), (0, u "equals"), (0, u "(Ljava/lang/Object;)Z"), (0, .methodref 32 54), (0, .nameAndType 55 56), (0, u "getItems"), (0, u "()Ljava/util/List;"), (0, .interfaceMethodref 58 59), (0, .class_ 60), (0, .nameAndType 61 48), (0, u "java/util/List"), (0, u "size"), (0, .methodref 32 63), (0, .nameAndType 64 65), (0, u "getMembers"), (0, u "()Ljava/util/Map;"), (0, .interfaceMethodref 67 59), (0, .class_ 68), (0, u "java/util/Map"), (3, u "law"), (0, u "(IIIII)Z")] 4

def k1m0 : Method := { name := "<init>", desc := "()V", sig := { parameters := [], returnType := none }, accessFlags := 2, code := none }
def k1c1 : Code := { maxStack := 6, maxLocals := 4, code := method_2_code, exceptionTable := #[], attributes := #[] }
def k1m1 : Method := { name := "drawn", desc := "(ICCC)Ljava/lang/String;", sig := { parameters := [.int, .char, .char, .char], returnType := some (.object "java/lang/String") }, accessFlags := 10, code := some k1c1 }
def k1c2 : Code := { maxStack := 4, maxLocals := 13, code := code, exceptionTable := #[], attributes := #[] }
def k1m2 : Method := { name := "law", desc := "(IIIII)Z", sig := { parameters := [.int, .int, .int, .int, .int], returnType := some .boolean }, accessFlags := 9, code := some k1c2 }
/-- com/example/apportion/apportion/policy/JsonValueWrittenPinLaw -/
def k1 : Class := { plain "com/example/apportion/apportion/policy/JsonValueWrittenPinLaw" (some 0) with
  accessFlags := 49
  interfaces := #[]
  cf := some (fileOf pool1 26 #[] #[{ accessFlags := 2, nameIndex := 5, descriptorIndex := 6, attributes := #[] }, { accessFlags := 10, nameIndex := 29, descriptorIndex := 30, attributes := #[] }, { accessFlags := 9, nameIndex := 72, descriptorIndex := 73, attributes := #[] }] 49 2 #[] #[])
  fields := #[]
  methods := #[k1m0, k1m1, k1m2]
  instanceTypes := #[]
  staticTypes := #[]
  resolved := Array.replicate 78 none
  statics := none }

def pool2 : Array CpInfo := pool [(1, .class_ 2), (0, u "java/lang/constant/Constable"), (0, .class_ 4), (0, u "java/lang/Object")] 6

/-- java/lang/constant/Constable -/
def k2 : Class := { plain "java/lang/constant/Constable" (some 0) with
  accessFlags := 1537
  interfaces := #[]
  cf := some (fileOf pool2 1 #[] #[] 1537 3 #[] #[])
  fields := #[]
  methods := #[]
  instanceTypes := #[]
  staticTypes := #[]
  resolved := Array.replicate 11 none
  statics := none }

def pool3 : Array CpInfo := pool [(1, .class_ 2), (0, u "java/lang/Comparable"), (0, .class_ 4), (0, u "java/lang/Object")] 7

/-- java/lang/Comparable -/
def k3 : Class := { plain "java/lang/Comparable" (some 0) with
  accessFlags := 1537
  interfaces := #[]
  cf := some (fileOf pool3 1 #[] #[] 1537 3 #[] #[])
  fields := #[]
  methods := #[]
  instanceTypes := #[]
  staticTypes := #[]
  resolved := Array.replicate 12 none
  statics := none }

def pool4 : Array CpInfo := pool [(1, .class_ 2), (0, u "java/io/Serializable"), (0, .class_ 4), (0, u "java/lang/Object")] 2

/-- java/io/Serializable -/
def k4 : Class := { plain "java/io/Serializable" (some 0) with
  accessFlags := 1537
  interfaces := #[]
  cf := some (fileOf pool4 1 #[] #[] 1537 3 #[] #[])
  fields := #[]
  methods := #[]
  instanceTypes := #[]
  staticTypes := #[]
  resolved := Array.replicate 7 none
  statics := none }

def pool5 : Array CpInfo := pool [(2, .class_ 4), (1, u "java/lang/Enum"), (0, u "name"), (0, u "Ljava/lang/String;"), (2, u "ordinal"), (0, u "I"), (1, .class_ 14), (1, u "java/lang/Object"), (4, u "hash"), (86, .class_ 108), (1, u "java/lang/Enum$EnumDesc"), (2, .class_ 112), (0, u "java/lang/constant/Constable"), (0, .class_ 114), (0, u "java/lang/Comparable"), (0, .class_ 116), (0, u "java/io/Serializable")] 87

/-- java/lang/Enum -/
def k5 : Class := { plain "java/lang/Enum" (some 0) with
  accessFlags := 1057
  interfaces := #[2, 3, 4]
  cf := some (fileOf pool5 2 #[.nestMembers #[106]] #[] 1057 12 #[111, 113, 115] #[{ accessFlags := 18, nameIndex := 5, descriptorIndex := 6, attributes := #[] }, { accessFlags := 18, nameIndex := 9, descriptorIndex := 10, attributes := #[] }, { accessFlags := 2, nameIndex := 19, descriptorIndex := 10, attributes := #[] }])
  fields := #[{ name := "name", type := (.object "java/lang/String"), accessFlags := 18, slot := 0, constantValue := 0 }, { name := "ordinal", type := .int, accessFlags := 18, slot := 1, constantValue := 0 }, { name := "hash", type := .int, accessFlags := 2, slot := 2, constantValue := 0 }]
  methods := #[]
  instanceTypes := #[(.object "java/lang/String"), .int, .int]
  staticTypes := #[]
  resolved := Array.replicate 204 none
  statics := none }

def pool6 : Array CpInfo := pool [(1, .class_ 2), (0, u "com/example/apportion/apportion/policy/JsonValue$Kind"), (2, u "OBJECT"), (0, u "Lcom/example/apportion/apportion/policy/JsonValue$Kind;"), (2, u "LIST"), (2, u "TEXT"), (2, u "NUMBER"), (2, u "TRUE"), (2, u "FALSE"), (2, u "NULL"), (2, u "$VALUES"), (0, u "[Lcom/example/apportion/apportion/policy/JsonValue$Kind;"), (6, .class_ 37), (1, u "java/lang/Enum"), (30, .class_ 69), (0, u "com/example/apportion/apportion/policy/JsonValue")] 2

/-- com/example/apportion/apportion/policy/JsonValue$Kind -/
def k6 : Class := { plain "com/example/apportion/apportion/policy/JsonValue$Kind" (some 5) with
  accessFlags := 16432
  interfaces := #[]
  cf := some (fileOf pool6 1 #[.nestHost 68] #[] 16432 35 #[] #[{ accessFlags := 16409, nameIndex := 5, descriptorIndex := 6, attributes := #[] }, { accessFlags := 16409, nameIndex := 9, descriptorIndex := 6, attributes := #[] }, { accessFlags := 16409, nameIndex := 12, descriptorIndex := 6, attributes := #[] }, { accessFlags := 16409, nameIndex := 15, descriptorIndex := 6, attributes := #[] }, { accessFlags := 16409, nameIndex := 18, descriptorIndex := 6, attributes := #[] }, { accessFlags := 16409, nameIndex := 21, descriptorIndex := 6, attributes := #[] }, { accessFlags := 16409, nameIndex := 24, descriptorIndex := 6, attributes := #[] }, { accessFlags := 4122, nameIndex := 27, descriptorIndex := 28, attributes := #[] }])
  fields := #[{ name := "OBJECT", type := (.object "com/example/apportion/apportion/policy/JsonValue$Kind"), accessFlags := 16409, slot := 0, constantValue := 0 }, { name := "LIST", type := (.object "com/example/apportion/apportion/policy/JsonValue$Kind"), accessFlags := 16409, slot := 1, constantValue := 0 }, { name := "TEXT", type := (.object "com/example/apportion/apportion/policy/JsonValue$Kind"), accessFlags := 16409, slot := 2, constantValue := 0 }, { name := "NUMBER", type := (.object "com/example/apportion/apportion/policy/JsonValue$Kind"), accessFlags := 16409, slot := 3, constantValue := 0 }, { name := "TRUE", type := (.object "com/example/apportion/apportion/policy/JsonValue$Kind"), accessFlags := 16409, slot := 4, constantValue := 0 }, { name := "FALSE", type := (.object "com/example/apportion/apportion/policy/JsonValue$Kind"), accessFlags := 16409, slot := 5, constantValue := 0 }, { name := "NULL", type := (.object "com/example/apportion/apportion/policy/JsonValue$Kind"), accessFlags := 16409, slot := 6, constantValue := 0 }, { name := "$VALUES", type := (.array (.object "com/example/apportion/apportion/policy/JsonValue$Kind")), accessFlags := 4122, slot := 7, constantValue := 0 }]
  methods := #[]
  instanceTypes := #[(.object "java/lang/String"), .int, .int]
  staticTypes := #[(.object "com/example/apportion/apportion/policy/JsonValue$Kind"), (.object "com/example/apportion/apportion/policy/JsonValue$Kind"), (.object "com/example/apportion/apportion/policy/JsonValue$Kind"), (.object "com/example/apportion/apportion/policy/JsonValue$Kind"), (.object "com/example/apportion/apportion/policy/JsonValue$Kind"), (.object "com/example/apportion/apportion/policy/JsonValue$Kind"), (.object "com/example/apportion/apportion/policy/JsonValue$Kind"), (.array (.object "com/example/apportion/apportion/policy/JsonValue$Kind"))]
  resolved := Array.replicate 72 none
  statics := some 0 }

def pool7 : Array CpInfo := pool [(2, .class_ 4), (1, u "java/lang/CharSequence"), (42, .class_ 48), (0, u "java/lang/CharSequence$1CodePointIterator"), (10, .class_ 60), (0, u "java/lang/CharSequence$1CharIterator"), (5, .class_ 67), (0, u "java/lang/Object")] 63

/-- java/lang/CharSequence -/
def k7 : Class := { plain "java/lang/CharSequence" (some 0) with
  accessFlags := 1537
  interfaces := #[]
  cf := some (fileOf pool7 2 #[.nestMembers #[47, 59]] #[] 1537 66 #[] #[])
  fields := #[]
  methods := #[]
  instanceTypes := #[]
  staticTypes := #[]
  resolved := Array.replicate 131 none
  statics := none }

def pool8 : Array CpInfo := pool [(1, .class_ 2), (0, u "java/lang/constant/ConstantDesc"), (0, .class_ 4), (0, u "java/lang/Object")] 32

/-- java/lang/constant/ConstantDesc -/
def k8 : Class := { plain "java/lang/constant/ConstantDesc" (some 0) with
  accessFlags := 1537
  interfaces := #[]
  cf := some (fileOf pool8 1 #[] #[] 1537 3 #[] #[])
  fields := #[]
  methods := #[]
  instanceTypes := #[]
  staticTypes := #[]
  resolved := Array.replicate 37 none
  statics := none }

def pool9 : Array CpInfo := pool [(1, .methodref 2 3), (0, .class_ 4), (0, .nameAndType 5 6), (0, u "java/lang/Object"), (0, u "<init>"), (0, u "()V"), (0, .string 8), (0, u ""), (0, .fieldref 10 11), (0, .class_ 12), (0, .nameAndType 13 14), (0, u "java/lang/String"), (0, u "value"), (0, u "[B"), (0, .fieldref 10 16), (0, .nameAndType 17 18), (0, u "coder"), (0, u "B"), (2, u "hash"), (0, u "I"), (2, u "hashIsZero"), (0, u "Z"), (0, .methodref 10 28), (0, .nameAndType 5 29), (0, u "([CIILjava/lang/Void;)V"), (8, .fieldref 10 39), (0, .nameAndType 40 26), (0, u "COMPACT_STRINGS"), (1, .class_ 44), (1, u "java/lang/StringUTF16"), (0, u "compress"), (1, .methodref 42 48), (0, .nameAndType 49 50), (0, u "coderFromArrayLen"), (0, u "([BI)B"), (2, u "toBytes"), (53, .class_ 109), (1, u "java/lang/StringLatin1"), (67, .methodref 42 178), (0, .nameAndType 45 179), (0, u "([CII)[B"), (29, .methodref 10 210), (0, .nameAndType 5 211), (0, u "([BB)V"), (122, u "()I"), (0, .methodref 10 336), (0, .nameAndType 17 337), (0, u "()B"), (31, u "(C)Z"), (137, u "length"), (35, u "equals"), (29, u "(Ljava/lang/Object;)Z"), (1, .class_ 576), (0, u "java/lang/CharSequence"), (22, u "CASE_INSENSITIVE_ORDER"), (0, u "Ljava/util/Comparator;"), (181, u "valueOf"), (0, u "(C)Ljava/lang/String;"), (226, u "([C)V"), (4, .methodref 107 1016), (0, .nameAndType 1017 369), (0, u "canEncode"), (0, .methodref 107 1019), (0, .nameAndType 53 1020), (0, u "(C)[B"), (80, u "serialPersistentFields"), (0, u "[Ljava/io/ObjectStreamField;"), (0, .class_ 1104), (0, u "java/lang/String$CaseInsensitiveComparator"), (1, .class_ 1107), (0, u "java/io/Serializable"), (0, .class_ 1109), (0, u "java/lang/Comparable"), (0, .class_ 1111), (0, u "java/lang/constant/Constable"), (0, .class_ 1113), (0, u "java/lang/constant/ConstantDesc"), (2, u "serialVersionUID"), (0, u "J"), (3, u "REPL"), (0, u "C"), (2, u "LATIN1"), (1, u "UTF16")] 323

def k9m0 : Method := { name := "<init>", desc := "()V", sig := { parameters := [], returnType := none }, accessFlags := 1, code := none }
def k9c1 : Code := { maxStack := 5, maxLocals := 2, code := jdk_42_method_3_code, exceptionTable := #[], attributes := #[] }
def k9m1 : Method := { name := "<init>", desc := "([C)V", sig := { parameters := [(.array .char)], returnType := none }, accessFlags := 1, code := some k9c1 }
def k9c2 : Code := { maxStack := 2, maxLocals := 1, code := jdk_42_method_54_code, exceptionTable := #[], attributes := #[] }
def k9m2 : Method := { name := "length", desc := "()I", sig := { parameters := [], returnType := some .int }, accessFlags := 1, code := some k9c2 }
def k9c3 : Code := { maxStack := 2, maxLocals := 3, code := jdk_42_method_66_code, exceptionTable := #[], attributes := #[] }
def k9m3 : Method := { name := "equals", desc := "(Ljava/lang/Object;)Z", sig := { parameters := [(.object "java/lang/Object")], returnType := some .boolean }, accessFlags := 1, code := some k9c3 }
def k9c4 : Code := { maxStack := 4, maxLocals := 1, code := jdk_42_method_139_code, exceptionTable := #[], attributes := #[] }
def k9m4 : Method := { name := "valueOf", desc := "(C)Ljava/lang/String;", sig := { parameters := [.char], returnType := some (.object "java/lang/String") }, accessFlags := 9, code := some k9c4 }
def k9c5 : Code := { maxStack := 4, maxLocals := 6, code := jdk_42_method_149_code, exceptionTable := #[], attributes := #[] }
def k9m5 : Method := { name := "<init>", desc := "([CIILjava/lang/Void;)V", sig := { parameters := [(.array .char), .int, .int, (.object "java/lang/Void")], returnType := none }, accessFlags := 2, code := some k9c5 }
def k9c6 : Code := { maxStack := 2, maxLocals := 3, code := jdk_42_method_151_code, exceptionTable := #[], attributes := #[] }
def k9m6 : Method := { name := "<init>", desc := "([BB)V", sig := { parameters := [(.array .byte), .byte], returnType := none }, accessFlags := 0, code := some k9c6 }
def k9c7 : Code := { maxStack := 1, maxLocals := 1, code := jdk_42_method_152_code, exceptionTable := #[], attributes := #[] }
def k9m7 : Method := { name := "coder", desc := "()B", sig := { parameters := [], returnType := some .byte }, accessFlags := 0, code := some k9c7 }
/-- java/lang/String -/
def k9 : Class := { plain "java/lang/String" (some 0) with
  accessFlags := 49
  interfaces := #[4, 3, 7, 2, 8]
  cf := some (fileOf pool9 10 #[.nestMembers #[1103]] #[{ accessFlags := 1, nameIndex := 5, descriptorIndex := 6, attributes := #[] }, { accessFlags := 1, nameIndex := 5, descriptorIndex := 1010, attributes := #[] }, { accessFlags := 1, nameIndex := 507, descriptorIndex := 334, attributes := #[] }, { accessFlags := 1, nameIndex := 543, descriptorIndex := 573, attributes := #[] }, { accessFlags := 9, nameIndex := 782, descriptorIndex := 783, attributes := #[] }, { accessFlags := 2, nameIndex := 5, descriptorIndex := 29, attributes := #[] }, { accessFlags := 0, nameIndex := 5, descriptorIndex := 211, attributes := #[] }, { accessFlags := 0, nameIndex := 17, descriptorIndex := 337, attributes := #[] }] 49 2 #[1106, 1108, 575, 1110, 1112] #[{ accessFlags := 18, nameIndex := 13, descriptorIndex := 14, attributes := #[] }, { accessFlags := 18, nameIndex := 17, descriptorIndex := 18, attributes := #[] }, { accessFlags := 2, nameIndex := 21, descriptorIndex := 22, attributes := #[] }, { accessFlags := 2, nameIndex := 25, descriptorIndex := 26, attributes := #[] }, { accessFlags := 26, nameIndex := 1116, descriptorIndex := 1117, attributes := #[] }, { accessFlags := 24, nameIndex := 40, descriptorIndex := 26, attributes := #[] }, { accessFlags := 26, nameIndex := 1101, descriptorIndex := 1102, attributes := #[] }, { accessFlags := 26, nameIndex := 1121, descriptorIndex := 1122, attributes := #[] }, { accessFlags := 25, nameIndex := 599, descriptorIndex := 600, attributes := #[] }, { accessFlags := 24, nameIndex := 1125, descriptorIndex := 18, attributes := #[] }, { accessFlags := 24, nameIndex := 1127, descriptorIndex := 18, attributes := #[] }])
  fields := #[{ name := "value", type := (.array .byte), accessFlags := 18, slot := 0, constantValue := 0 }, { name := "coder", type := .byte, accessFlags := 18, slot := 1, constantValue := 0 }, { name := "hash", type := .int, accessFlags := 2, slot := 2, constantValue := 0 }, { name := "hashIsZero", type := .boolean, accessFlags := 2, slot := 3, constantValue := 0 }, { name := "serialVersionUID", type := .long, accessFlags := 26, slot := 0, constantValue := 0 }, { name := "COMPACT_STRINGS", type := .boolean, accessFlags := 24, slot := 1, constantValue := 0 }, { name := "serialPersistentFields", type := (.array (.object "java/io/ObjectStreamField")), accessFlags := 26, slot := 2, constantValue := 0 }, { name := "REPL", type := .char, accessFlags := 26, slot := 3, constantValue := 0 }, { name := "CASE_INSENSITIVE_ORDER", type := (.object "java/util/Comparator"), accessFlags := 25, slot := 4, constantValue := 0 }, { name := "LATIN1", type := .byte, accessFlags := 24, slot := 5, constantValue := 0 }, { name := "UTF16", type := .byte, accessFlags := 24, slot := 6, constantValue := 0 }]
  methods := #[k9m0, k9m1, k9m2, k9m3, k9m4, k9m5, k9m6, k9m7]
  instanceTypes := #[(.array .byte), .byte, .int, .boolean]
  staticTypes := #[.long, .boolean, (.array (.object "java/io/ObjectStreamField")), .char, (.object "java/util/Comparator"), .byte, .byte]
  resolved := Array.replicate 1451 none
  statics := some 1 }

def pool10 : Array CpInfo := pool [(1, .methodref 2 3), (0, .class_ 4), (0, .nameAndType 5 6), (0, u "java/lang/Object"), (0, u "<init>"), (0, u "()V"), (0, .fieldref 8 9), (0, .class_ 10), (0, .nameAndType 11 12), (0, u "com/example/apportion/apportion/policy/JsonValue"), (0, u "kind"), (0, u "Lcom/example/apportion/apportion/policy/JsonValue$Kind;"), (0, .fieldref 8 14), (0, .nameAndType 15 16), (0, u "text"), (0, u "Ljava/lang/String;"), (0, .fieldref 8 18), (0, .nameAndType 19 20), (0, u "items"), (0, u "Ljava/util/List;"), (0, .fieldref 8 22), (0, .nameAndType 23 24), (0, u "members"), (0, u "Ljava/util/Map;"), (1, .class_ 28), (1, u "com/example/apportion/apportion/policy/JsonValue$Kind"), (1, .interfaceMethodref 31 32), (0, .class_ 33), (0, .nameAndType 34 35), (0, u "java/util/List"), (0, u "of"), (0, u "()Ljava/util/List;"), (6, .methodref 8 43), (0, .nameAndType 5 44), (0, u "(Lcom/example/apportion/apportion/policy/JsonValue$Kind;Ljava/lang/String;Ljava/util/List;Ljava/util/Map;)V"), (7, .interfaceMethodref 53 54), (0, .class_ 55), (0, .nameAndType 34 56), (0, u "java/util/Map"), (0, u "()Ljava/util/Map;"), (12, u "written"), (0, u "(Lcom/example/apportion/apportion/policy/JsonValue$Kind;Ljava/lang/String;)Lcom/example/apportion/apportion/policy/JsonValue;"), (2, u "getKind"), (0, u "()Lcom/example/apportion/apportion/policy/JsonValue$Kind;"), (0, u "getText"), (0, u "()Ljava/lang/String;"), (0, u "getItems"), (1, u "getMembers")] 6

def k10c0 : Code := { maxStack := 2, maxLocals := 5, code := prog_62_method_1_code, exceptionTable := #[], attributes := #[] }
def k10m0 : Method := { name := "<init>", desc := "(Lcom/example/apportion/apportion/policy/JsonValue$Kind;Ljava/lang/String;Ljava/util/List;Ljava/util/Map;)V", sig := { parameters := [(.object "com/example/apportion/apportion/policy/JsonValue$Kind"), (.object "java/lang/String"), (.object "java/util/List"), (.object "java/util/Map")], returnType := none }, accessFlags := 2, code := some k10c0 }
def k10c1 : Code := { maxStack := 6, maxLocals := 2, code := prog_62_method_4_code, exceptionTable := #[], attributes := #[] }
def k10m1 : Method := { name := "written", desc := "(Lcom/example/apportion/apportion/policy/JsonValue$Kind;Ljava/lang/String;)Lcom/example/apportion/apportion/policy/JsonValue;", sig := { parameters := [(.object "com/example/apportion/apportion/policy/JsonValue$Kind"), (.object "java/lang/String")], returnType := some (.object "com/example/apportion/apportion/policy/JsonValue") }, accessFlags := 8, code := some k10c1 }
def k10c2 : Code := { maxStack := 1, maxLocals := 1, code := prog_62_method_6_code, exceptionTable := #[], attributes := #[] }
def k10m2 : Method := { name := "getKind", desc := "()Lcom/example/apportion/apportion/policy/JsonValue$Kind;", sig := { parameters := [], returnType := some (.object "com/example/apportion/apportion/policy/JsonValue$Kind") }, accessFlags := 0, code := some k10c2 }
def k10c3 : Code := { maxStack := 1, maxLocals := 1, code := prog_62_method_7_code, exceptionTable := #[], attributes := #[] }
def k10m3 : Method := { name := "getText", desc := "()Ljava/lang/String;", sig := { parameters := [], returnType := some (.object "java/lang/String") }, accessFlags := 0, code := some k10c3 }
def k10c4 : Code := { maxStack := 1, maxLocals := 1, code := prog_62_method_8_code, exceptionTable := #[], attributes := #[] }
def k10m4 : Method := { name := "getItems", desc := "()Ljava/util/List;", sig := { parameters := [], returnType := some (.object "java/util/List") }, accessFlags := 0, code := some k10c4 }
def k10c5 : Code := { maxStack := 1, maxLocals := 1, code := prog_62_method_9_code, exceptionTable := #[], attributes := #[] }
def k10m5 : Method := { name := "getMembers", desc := "()Ljava/util/Map;", sig := { parameters := [], returnType := some (.object "java/util/Map") }, accessFlags := 0, code := some k10c5 }
/-- com/example/apportion/apportion/policy/JsonValue -/
def k10 : Class := { plain "com/example/apportion/apportion/policy/JsonValue" (some 0) with
  accessFlags := 48
  interfaces := #[]
  cf := some (fileOf pool10 8 #[.nestMembers #[26]] #[{ accessFlags := 2, nameIndex := 5, descriptorIndex := 44, attributes := #[] }, { accessFlags := 8, nameIndex := 69, descriptorIndex := 70, attributes := #[] }, { accessFlags := 0, nameIndex := 73, descriptorIndex := 74, attributes := #[] }, { accessFlags := 0, nameIndex := 75, descriptorIndex := 76, attributes := #[] }, { accessFlags := 0, nameIndex := 77, descriptorIndex := 35, attributes := #[] }, { accessFlags := 0, nameIndex := 79, descriptorIndex := 56, attributes := #[] }] 48 2 #[] #[{ accessFlags := 18, nameIndex := 11, descriptorIndex := 12, attributes := #[] }, { accessFlags := 18, nameIndex := 15, descriptorIndex := 16, attributes := #[] }, { accessFlags := 18, nameIndex := 19, descriptorIndex := 20, attributes := #[] }, { accessFlags := 18, nameIndex := 23, descriptorIndex := 24, attributes := #[] }])
  fields := #[{ name := "kind", type := (.object "com/example/apportion/apportion/policy/JsonValue$Kind"), accessFlags := 18, slot := 0, constantValue := 0 }, { name := "text", type := (.object "java/lang/String"), accessFlags := 18, slot := 1, constantValue := 0 }, { name := "items", type := (.object "java/util/List"), accessFlags := 18, slot := 2, constantValue := 0 }, { name := "members", type := (.object "java/util/Map"), accessFlags := 18, slot := 3, constantValue := 0 }]
  methods := #[k10m0, k10m1, k10m2, k10m3, k10m4, k10m5]
  instanceTypes := #[(.object "com/example/apportion/apportion/policy/JsonValue$Kind"), (.object "java/lang/String"), (.object "java/util/List"), (.object "java/util/Map")]
  staticTypes := #[]
  resolved := Array.replicate 86 none
  statics := none }

def pool11 : Array CpInfo := pool [(8, .class_ 10), (1, u "java/lang/Iterable"), (24, .class_ 36), (0, u "java/lang/Object")] 25

/-- java/lang/Iterable -/
def k11 : Class := { plain "java/lang/Iterable" (some 0) with
  accessFlags := 1537
  interfaces := #[]
  cf := some (fileOf pool11 8 #[] #[] 1537 35 #[] #[])
  fields := #[]
  methods := #[]
  instanceTypes := #[]
  staticTypes := #[]
  resolved := Array.replicate 62 none
  statics := none }

def pool12 : Array CpInfo := pool [(10, .class_ 12), (1, u "java/util/Collection"), (47, .class_ 61), (0, u "java/lang/Object"), (0, .class_ 63), (0, u "java/lang/Iterable")] 51

/-- java/util/Collection -/
def k12 : Class := { plain "java/util/Collection" (some 0) with
  accessFlags := 1537
  interfaces := #[11]
  cf := some (fileOf pool12 10 #[] #[] 1537 60 #[62] #[])
  fields := #[]
  methods := #[]
  instanceTypes := #[]
  staticTypes := #[]
  resolved := Array.replicate 115 none
  statics := none }

def pool13 : Array CpInfo := pool [(8, .class_ 10), (1, u "java/util/SequencedCollection"), (15, .class_ 27), (0, u "java/lang/Object"), (0, .class_ 29), (0, u "java/util/Collection")] 27

/-- java/util/SequencedCollection -/
def k13 : Class := { plain "java/util/SequencedCollection" (some 0) with
  accessFlags := 1537
  interfaces := #[12]
  cf := some (fileOf pool13 8 #[] #[] 1537 26 #[28] #[])
  fields := #[]
  methods := #[]
  instanceTypes := #[]
  staticTypes := #[]
  resolved := Array.replicate 57 none
  statics := none }

def pool14 : Array CpInfo := pool [(8, .class_ 10), (1, u "java/util/List"), (68, u "size"), (0, u "()I"), (7, u "of"), (1, .fieldref 91 92), (0, .class_ 93), (0, .nameAndType 94 95), (0, u "java/util/ImmutableCollections"), (0, u "EMPTY_LIST"), (0, u "Ljava/util/ImmutableCollections$ListN;"), (7, .class_ 104), (0, u "java/lang/Object"), (14, u "()Ljava/util/List;"), (0, .class_ 121), (0, u "java/util/SequencedCollection")] 129

def k14m0 : Method := { name := "size", desc := "()I", sig := { parameters := [], returnType := some .int }, accessFlags := 1025, code := none }
def k14c1 : Code := { maxStack := 1, maxLocals := 0, code := jdk_40_method_36_code, exceptionTable := #[], attributes := #[] }
def k14m1 : Method := { name := "of", desc := "()Ljava/util/List;", sig := { parameters := [], returnType := some (.object "java/util/List") }, accessFlags := 9, code := some k14c1 }
/-- java/util/List -/
def k14 : Class := { plain "java/util/List" (some 0) with
  accessFlags := 1537
  interfaces := #[13]
  cf := some (fileOf pool14 8 #[] #[{ accessFlags := 1025, nameIndex := 79, descriptorIndex := 80, attributes := #[] }, { accessFlags := 9, nameIndex := 88, descriptorIndex := 119, attributes := #[] }] 1537 103 #[120] #[])
  fields := #[]
  methods := #[k14m0, k14m1]
  instanceTypes := #[]
  staticTypes := #[]
  resolved := Array.replicate 251 none
  statics := none }

def pool15 : Array CpInfo := pool [(2, .class_ 4), (1, u "java/lang/Object"), (0, u "<init>"), (0, u "()V"), (3, .class_ 11), (0, u "java/util/ImmutableCollections$List12"), (0, .class_ 13), (0, u "java/util/ImmutableCollections$ListN"), (3, u "Z"), (29, .class_ 49), (1, u "java/util/ImmutableCollections"), (0, u "$assertionsDisabled"), (5, u "[Ljava/lang/Object;"), (5, u "EMPTY_LIST"), (0, u "Ljava/util/ImmutableCollections$ListN;"), (8, u "EMPTY_LIST_NULLS"), (22, u "SALT32L"), (0, u "J"), (2, u "REVERSE"), (6, u "archivedObjects"), (2, u "EMPTY"), (0, u "Ljava/lang/Object;"), (0, .class_ 112), (0, u "java/util/ImmutableCollections$SetN"), (5, u "EMPTY_SET"), (0, u "Ljava/util/ImmutableCollections$SetN;"), (0, .class_ 121), (0, u "java/util/ImmutableCollections$MapN"), (3, u "EMPTY_MAP"), (0, u "Ljava/util/ImmutableCollections$MapN;"), (4, u "EXPAND_FACTOR"), (0, u "I"), (36, .class_ 170), (0, u "java/util/ImmutableCollections$MapN$MapNIterator"), (0, .class_ 172), (0, u "java/util/ImmutableCollections$MapN$1"), (0, .class_ 174), (0, u "java/util/ImmutableCollections$Map1"), (0, .class_ 176), (0, u "java/util/ImmutableCollections$AbstractImmutableMap"), (0, .class_ 178), (0, u "java/util/ImmutableCollections$SetN$SetNIterator"), (0, .class_ 180), (0, u "java/util/ImmutableCollections$Set12"), (0, .class_ 182), (0, u "java/util/ImmutableCollections$Set12$1"), (0, .class_ 184), (0, u "java/util/ImmutableCollections$AbstractImmutableSet"), (0, .class_ 186), (0, u "java/util/ImmutableCollections$SubList"), (0, .class_ 188), (0, u "java/util/ImmutableCollections$ListItr"), (0, .class_ 190), (0, u "java/util/ImmutableCollections$AbstractImmutableList"), (0, .class_ 192), (0, u "java/util/ImmutableCollections$AbstractImmutableCollection"), (0, .class_ 194), (0, u "java/util/ImmutableCollections$Access"), (0, .class_ 196), (0, u "java/util/ImmutableCollections$Access$1")] 16

def k15m0 : Method := { name := "<init>", desc := "()V", sig := { parameters := [], returnType := none }, accessFlags := 2, code := none }
/-- java/util/ImmutableCollections -/
def k15 : Class := { plain "java/util/ImmutableCollections" (some 0) with
  accessFlags := 32
  interfaces := #[]
  cf := some (fileOf pool15 47 #[.nestMembers #[120, 169, 171, 173, 175, 111, 177, 179, 181, 183, 12, 10, 185, 187, 189, 191, 193, 195]] #[{ accessFlags := 2, nameIndex := 5, descriptorIndex := 6, attributes := #[] }] 32 2 #[] #[{ accessFlags := 26, nameIndex := 95, descriptorIndex := 96, attributes := #[] }, { accessFlags := 26, nameIndex := 99, descriptorIndex := 17, attributes := #[] }, { accessFlags := 10, nameIndex := 106, descriptorIndex := 56, attributes := #[] }, { accessFlags := 26, nameIndex := 109, descriptorIndex := 110, attributes := #[] }, { accessFlags := 24, nameIndex := 62, descriptorIndex := 63, attributes := #[] }, { accessFlags := 24, nameIndex := 72, descriptorIndex := 63, attributes := #[] }, { accessFlags := 24, nameIndex := 118, descriptorIndex := 119, attributes := #[] }, { accessFlags := 24, nameIndex := 125, descriptorIndex := 126, attributes := #[] }, { accessFlags := 24, nameIndex := 131, descriptorIndex := 132, attributes := #[] }, { accessFlags := 4120, nameIndex := 50, descriptorIndex := 17, attributes := #[] }])
  fields := #[{ name := "SALT32L", type := .long, accessFlags := 26, slot := 0, constantValue := 0 }, { name := "REVERSE", type := .boolean, accessFlags := 26, slot := 1, constantValue := 0 }, { name := "archivedObjects", type := (.array (.object "java/lang/Object")), accessFlags := 10, slot := 2, constantValue := 0 }, { name := "EMPTY", type := (.object "java/lang/Object"), accessFlags := 26, slot := 3, constantValue := 0 }, { name := "EMPTY_LIST", type := (.object "java/util/ImmutableCollections$ListN"), accessFlags := 24, slot := 4, constantValue := 0 }, { name := "EMPTY_LIST_NULLS", type := (.object "java/util/ImmutableCollections$ListN"), accessFlags := 24, slot := 5, constantValue := 0 }, { name := "EMPTY_SET", type := (.object "java/util/ImmutableCollections$SetN"), accessFlags := 24, slot := 6, constantValue := 0 }, { name := "EMPTY_MAP", type := (.object "java/util/ImmutableCollections$MapN"), accessFlags := 24, slot := 7, constantValue := 0 }, { name := "EXPAND_FACTOR", type := .int, accessFlags := 24, slot := 8, constantValue := 0 }, { name := "$assertionsDisabled", type := .boolean, accessFlags := 4120, slot := 9, constantValue := 0 }]
  methods := #[k15m0]
  instanceTypes := #[]
  staticTypes := #[.long, .boolean, (.array (.object "java/lang/Object")), (.object "java/lang/Object"), (.object "java/util/ImmutableCollections$ListN"), (.object "java/util/ImmutableCollections$ListN"), (.object "java/util/ImmutableCollections$SetN"), (.object "java/util/ImmutableCollections$MapN"), .int, .boolean]
  resolved := Array.replicate 213 none
  statics := some 2 }

def pool16 : Array CpInfo := pool [(2, .class_ 4), (1, u "java/util/Map"), (31, .class_ 37), (0, u "java/util/Map$Entry"), (43, .fieldref 82 83), (0, .class_ 84), (0, .nameAndType 85 86), (0, u "java/util/ImmutableCollections"), (0, u "EMPTY_MAP"), (0, u "Ljava/util/ImmutableCollections$MapN;"), (6, .class_ 94), (0, u "java/lang/Object"), (13, u "of"), (0, u "()Ljava/util/Map;"), (10, u "size"), (0, u "()I")] 141

def k16m0 : Method := { name := "size", desc := "()I", sig := { parameters := [], returnType := some .int }, accessFlags := 1025, code := none }
def k16c1 : Code := { maxStack := 1, maxLocals := 0, code := jdk_72_method_26_code, exceptionTable := #[], attributes := #[] }
def k16m1 : Method := { name := "of", desc := "()Ljava/util/Map;", sig := { parameters := [], returnType := some (.object "java/util/Map") }, accessFlags := 9, code := some k16c1 }
/-- java/util/Map -/
def k16 : Class := { plain "java/util/Map" (some 0) with
  accessFlags := 1537
  interfaces := #[]
  cf := some (fileOf pool16 2 #[.nestMembers #[36]] #[{ accessFlags := 1025, nameIndex := 120, descriptorIndex := 121, attributes := #[] }, { accessFlags := 9, nameIndex := 108, descriptorIndex := 109, attributes := #[] }] 1537 93 #[] #[])
  fields := #[]
  methods := #[k16m0, k16m1]
  instanceTypes := #[]
  staticTypes := #[]
  resolved := Array.replicate 263 none
  statics := none }

def pool17 : Array CpInfo := pool [(2, .class_ 4), (1, u "java/lang/Object"), (0, u "<init>"), (0, u "()V"), (1, .class_ 10), (1, u "java/util/AbstractCollection"), (66, .class_ 78), (0, u "java/util/Collection")] 81

def k17m0 : Method := { name := "<init>", desc := "()V", sig := { parameters := [], returnType := none }, accessFlags := 4, code := none }
/-- java/util/AbstractCollection -/
def k17 : Class := { plain "java/util/AbstractCollection" (some 0) with
  accessFlags := 1057
  interfaces := #[12]
  cf := some (fileOf pool17 8 #[] #[{ accessFlags := 4, nameIndex := 5, descriptorIndex := 6, attributes := #[] }] 1057 2 #[77] #[])
  fields := #[]
  methods := #[k17m0]
  instanceTypes := #[]
  staticTypes := #[]
  resolved := Array.replicate 160 none
  statics := none }

def pool18 : Array CpInfo := pool [(2, .class_ 4), (1, u "java/util/AbstractCollection"), (0, u "<init>"), (0, u "()V"), (1, .class_ 10), (1, u "java/util/ImmutableCollections"), (2, .class_ 14), (0, u "java/util/ImmutableCollections$AbstractImmutableCollection")] 41

def k18m0 : Method := { name := "<init>", desc := "()V", sig := { parameters := [], returnType := none }, accessFlags := 0, code := none }
/-- java/util/ImmutableCollections$AbstractImmutableCollection -/
def k18 : Class := { plain "java/util/ImmutableCollections$AbstractImmutableCollection" (some 17) with
  accessFlags := 1056
  interfaces := #[]
  cf := some (fileOf pool18 13 #[.nestHost 8] #[{ accessFlags := 0, nameIndex := 5, descriptorIndex := 6, attributes := #[] }] 1056 2 #[] #[])
  fields := #[]
  methods := #[k18m0]
  instanceTypes := #[]
  staticTypes := #[]
  resolved := Array.replicate 56 none
  statics := none }

def pool19 : Array CpInfo := pool [(1, .class_ 2), (0, u "java/util/RandomAccess"), (0, .class_ 4), (0, u "java/lang/Object")] 2

/-- java/util/RandomAccess -/
def k19 : Class := { plain "java/util/RandomAccess" (some 0) with
  accessFlags := 1537
  interfaces := #[]
  cf := some (fileOf pool19 1 #[] #[] 1537 3 #[] #[])
  fields := #[]
  methods := #[]
  instanceTypes := #[]
  staticTypes := #[]
  resolved := Array.replicate 7 none
  statics := none }

def pool20 : Array CpInfo := pool [(2, .class_ 4), (1, u "java/util/ImmutableCollections$AbstractImmutableCollection"), (0, u "<init>"), (0, u "()V"), (1, .class_ 10), (1, u "java/util/ImmutableCollections"), (3, .class_ 16), (1, u "java/util/ImmutableCollections$AbstractImmutableList"), (60, .class_ 78), (0, u "java/util/List"), (45, .class_ 125), (0, u "java/util/RandomAccess")] 70

def k20m0 : Method := { name := "<init>", desc := "()V", sig := { parameters := [], returnType := none }, accessFlags := 0, code := none }
/-- java/util/ImmutableCollections$AbstractImmutableList -/
def k20 : Class := { plain "java/util/ImmutableCollections$AbstractImmutableList" (some 18) with
  accessFlags := 1056
  interfaces := #[14, 19]
  cf := some (fileOf pool20 14 #[.nestHost 8] #[{ accessFlags := 0, nameIndex := 5, descriptorIndex := 6, attributes := #[] }] 1056 2 #[77, 124] #[])
  fields := #[]
  methods := #[k20m0]
  instanceTypes := #[]
  staticTypes := #[]
  resolved := Array.replicate 196 none
  statics := none }

def pool21 : Array CpInfo := pool [(2, .class_ 4), (1, u "java/util/ImmutableCollections$AbstractImmutableList"), (2, .fieldref 8 9), (0, .class_ 10), (0, .nameAndType 11 12), (0, u "java/util/ImmutableCollections$ListN"), (0, u "elements"), (0, u "[Ljava/lang/Object;"), (2, u "allowNulls"), (0, u "Z"), (42, .class_ 60), (0, u "java/io/Serializable"), (16, u "size"), (0, u "()I"), (35, .class_ 115), (0, u "java/util/ImmutableCollections")] 3

def k21c0 : Code := { maxStack := 1, maxLocals := 1, code := jdk_45_method_3_code, exceptionTable := #[], attributes := #[] }
def k21m0 : Method := { name := "size", desc := "()I", sig := { parameters := [], returnType := some .int }, accessFlags := 1, code := some k21c0 }
/-- java/util/ImmutableCollections$ListN -/
def k21 : Class := { plain "java/util/ImmutableCollections$ListN" (some 20) with
  accessFlags := 48
  interfaces := #[4]
  cf := some (fileOf pool21 8 #[.nestHost 114] #[{ accessFlags := 1, nameIndex := 77, descriptorIndex := 78, attributes := #[] }] 48 2 #[59] #[{ accessFlags := 18, nameIndex := 11, descriptorIndex := 12, attributes := #[] }, { accessFlags := 18, nameIndex := 15, descriptorIndex := 16, attributes := #[] }])
  fields := #[{ name := "elements", type := (.array (.object "java/lang/Object")), accessFlags := 18, slot := 0, constantValue := 0 }, { name := "allowNulls", type := .boolean, accessFlags := 18, slot := 1, constantValue := 0 }]
  methods := #[k21m0]
  instanceTypes := #[(.array (.object "java/lang/Object")), .boolean]
  staticTypes := #[]
  resolved := Array.replicate 119 none
  statics := none }

def pool22 : Array CpInfo := pool [(2, .class_ 4), (1, u "java/lang/Object"), (0, u "<init>"), (0, u "()V"), (1, .class_ 10), (1, u "java/util/AbstractMap"), (42, .class_ 54), (0, u "java/util/Map"), (9, u "keySet"), (0, u "Ljava/util/Set;"), (0, .class_ 67), (0, u "java/util/AbstractMap$1"), (5, u "values"), (0, u "Ljava/util/Collection;"), (0, .class_ 76), (0, u "java/util/AbstractMap$2"), (104, .class_ 182), (0, u "java/util/AbstractMap$ViewCollection"), (0, .class_ 184), (0, u "java/util/AbstractMap$SimpleImmutableEntry"), (0, .class_ 186), (0, u "java/util/AbstractMap$SimpleEntry"), (0, .class_ 188), (0, u "java/util/AbstractMap$2$1"), (0, .class_ 190), (0, u "java/util/AbstractMap$1$1")] 5

def k22m0 : Method := { name := "<init>", desc := "()V", sig := { parameters := [], returnType := none }, accessFlags := 4, code := none }
/-- java/util/AbstractMap -/
def k22 : Class := { plain "java/util/AbstractMap" (some 0) with
  accessFlags := 1057
  interfaces := #[16]
  cf := some (fileOf pool22 8 #[.nestMembers #[181, 183, 185, 75, 187, 66, 189]] #[{ accessFlags := 4, nameIndex := 5, descriptorIndex := 6, attributes := #[] }] 1057 2 #[53] #[{ accessFlags := 128, nameIndex := 64, descriptorIndex := 65, attributes := #[] }, { accessFlags := 128, nameIndex := 73, descriptorIndex := 74, attributes := #[] }])
  fields := #[{ name := "keySet", type := (.object "java/util/Set"), accessFlags := 128, slot := 0, constantValue := 0 }, { name := "values", type := (.object "java/util/Collection"), accessFlags := 128, slot := 1, constantValue := 0 }]
  methods := #[k22m0]
  instanceTypes := #[(.object "java/util/Set"), (.object "java/util/Collection")]
  staticTypes := #[]
  resolved := Array.replicate 196 none
  statics := none }

def pool23 : Array CpInfo := pool [(2, .class_ 4), (1, u "java/util/AbstractMap"), (0, u "<init>"), (0, u "()V"), (1, .class_ 10), (1, u "java/util/ImmutableCollections"), (3, .class_ 16), (1, u "java/util/ImmutableCollections$AbstractImmutableMap"), (2, .class_ 20), (0, u "java/io/Serializable")] 66

def k23m0 : Method := { name := "<init>", desc := "()V", sig := { parameters := [], returnType := none }, accessFlags := 0, code := none }
/-- java/util/ImmutableCollections$AbstractImmutableMap -/
def k23 : Class := { plain "java/util/ImmutableCollections$AbstractImmutableMap" (some 22) with
  accessFlags := 1056
  interfaces := #[4]
  cf := some (fileOf pool23 14 #[.nestHost 8] #[{ accessFlags := 0, nameIndex := 5, descriptorIndex := 6, attributes := #[] }] 1056 2 #[19] #[])
  fields := #[]
  methods := #[k23m0]
  instanceTypes := #[(.object "java/util/Set"), (.object "java/util/Collection")]
  staticTypes := #[]
  resolved := Array.replicate 87 none
  statics := none }

def pool24 : Array CpInfo := pool [(1, .class_ 2), (0, u "java/util/ImmutableCollections"), (1, .class_ 6), (1, u "java/util/ImmutableCollections$AbstractImmutableMap"), (9, .fieldref 17 18), (0, .class_ 19), (0, .nameAndType 20 21), (0, u "java/util/ImmutableCollections$MapN"), (0, u "size"), (0, u "I"), (4, u "table"), (0, u "[Ljava/lang/Object;"), (36, u "()I")] 84

def k24c0 : Code := { maxStack := 1, maxLocals := 1, code := jdk_2605_method_6_code, exceptionTable := #[], attributes := #[] }
def k24m0 : Method := { name := "size", desc := "()I", sig := { parameters := [], returnType := some .int }, accessFlags := 1, code := some k24c0 }
/-- java/util/ImmutableCollections$MapN -/
def k24 : Class := { plain "java/util/ImmutableCollections$MapN" (some 23) with
  accessFlags := 48
  interfaces := #[]
  cf := some (fileOf pool24 17 #[.nestHost 1] #[{ accessFlags := 1, nameIndex := 20, descriptorIndex := 64, attributes := #[] }] 48 4 #[] #[{ accessFlags := 16, nameIndex := 26, descriptorIndex := 27, attributes := #[] }, { accessFlags := 16, nameIndex := 20, descriptorIndex := 21, attributes := #[] }])
  fields := #[{ name := "table", type := (.array (.object "java/lang/Object")), accessFlags := 16, slot := 2, constantValue := 0 }, { name := "size", type := .int, accessFlags := 16, slot := 3, constantValue := 0 }]
  methods := #[k24m0]
  instanceTypes := #[(.object "java/util/Set"), (.object "java/util/Collection"), (.array (.object "java/lang/Object")), .int]
  staticTypes := #[]
  resolved := Array.replicate 149 none
  statics := none }

def pool25 : Array CpInfo := pool [(6, .class_ 8), (1, u "java/lang/Object"), (0, u "<init>"), (0, u "()V"), (1, .class_ 14), (1, u "java/lang/StringUTF16"), (31, u "$assertionsDisabled"), (0, u "Z"), (13, u "HI_BYTE_SHIFT"), (0, u "I"), (2, u "LO_BYTE_SHIFT"), (49, .methodref 12 116), (0, .nameAndType 117 118), (0, u "compress"), (0, u "([CI[BII)I"), (3, u "([CII)[B"), (138, u "coderFromArrayLen"), (0, u "([BI)B"), (106, .class_ 371), (1, u "java/lang/StringUTF16$LinesSpliterator"), (58, u "MAX_LENGTH"), (196, .class_ 628), (0, u "java/lang/StringUTF16$CodePointsSpliterator"), (0, .class_ 630), (0, u "java/lang/StringUTF16$CharsSpliterator")] 4

def k25m0 : Method := { name := "<init>", desc := "()V", sig := { parameters := [], returnType := none }, accessFlags := 0, code := none }
def k25c1 : Code := { maxStack := 2, maxLocals := 2, code := jdk_52_method_15_code, exceptionTable := #[], attributes := #[] }
def k25m1 : Method := { name := "coderFromArrayLen", desc := "([BI)B", sig := { parameters := [(.array .byte), .int], returnType := some .byte }, accessFlags := 8, code := some k25c1 }
def k25c2 : Code := { maxStack := 5, maxLocals := 6, code := jdk_52_method_16_code, exceptionTable := #[], attributes := #[] }
def k25m2 : Method := { name := "compress", desc := "([CII)[B", sig := { parameters := [(.array .char), .int, .int], returnType := some (.array .byte) }, accessFlags := 9, code := some k25c2 }
def k25c3 : Code := { maxStack := 3, maxLocals := 7, code := jdk_52_method_21_code, exceptionTable := #[], attributes := #[] }
def k25m3 : Method := { name := "compress", desc := "([CI[BII)I", sig := { parameters := [(.array .char), .int, (.array .byte), .int, .int], returnType := some .int }, accessFlags := 9, code := some k25c3 }
/-- java/lang/StringUTF16 -/
def k25 : Class := { plain "java/lang/StringUTF16" (some 0) with
  accessFlags := 48
  interfaces := #[]
  cf := some (fileOf pool25 12 #[.nestMembers #[627, 629, 369]] #[{ accessFlags := 0, nameIndex := 9, descriptorIndex := 10, attributes := #[] }, { accessFlags := 8, nameIndex := 261, descriptorIndex := 262, attributes := #[] }, { accessFlags := 9, nameIndex := 117, descriptorIndex := 122, attributes := #[] }, { accessFlags := 9, nameIndex := 117, descriptorIndex := 118, attributes := #[] }] 48 6 #[] #[{ accessFlags := 26, nameIndex := 61, descriptorIndex := 62, attributes := #[] }, { accessFlags := 26, nameIndex := 65, descriptorIndex := 62, attributes := #[] }, { accessFlags := 24, nameIndex := 430, descriptorIndex := 62, attributes := #[] }, { accessFlags := 4120, nameIndex := 46, descriptorIndex := 47, attributes := #[] }])
  fields := #[{ name := "HI_BYTE_SHIFT", type := .int, accessFlags := 26, slot := 0, constantValue := 0 }, { name := "LO_BYTE_SHIFT", type := .int, accessFlags := 26, slot := 1, constantValue := 0 }, { name := "MAX_LENGTH", type := .int, accessFlags := 24, slot := 2, constantValue := 0 }, { name := "$assertionsDisabled", type := .boolean, accessFlags := 4120, slot := 3, constantValue := 0 }]
  methods := #[k25m0, k25m1, k25m2, k25m3]
  instanceTypes := #[]
  staticTypes := #[.int, .int, .int, .boolean]
  resolved := Array.replicate 635 none
  statics := none }

def pool26 : Array CpInfo := pool [(4, .class_ 6), (1, u "java/lang/Object"), (0, u "<init>"), (0, u "()V"), (5, .class_ 16), (1, u "java/lang/StringLatin1"), (73, u "canEncode"), (14, u "(C)Z"), (15, u "$assertionsDisabled"), (0, u "Z"), (98, .class_ 223), (1, u "java/lang/StringLatin1$LinesSpliterator"), (156, u "toBytes"), (1, u "(C)[B"), (7, .class_ 391), (0, u "java/lang/StringLatin1$CharsSpliterator")] 3

def k26m0 : Method := { name := "<init>", desc := "()V", sig := { parameters := [], returnType := none }, accessFlags := 0, code := none }
def k26c1 : Code := { maxStack := 2, maxLocals := 1, code := jdk_43_method_3_code, exceptionTable := #[], attributes := #[] }
def k26m1 : Method := { name := "canEncode", desc := "(C)Z", sig := { parameters := [.char], returnType := some .boolean }, accessFlags := 9, code := some k26c1 }
def k26c2 : Code := { maxStack := 4, maxLocals := 1, code := jdk_43_method_46_code, exceptionTable := #[], attributes := #[] }
def k26m2 : Method := { name := "toBytes", desc := "(C)[B", sig := { parameters := [.char], returnType := some (.array .byte) }, accessFlags := 9, code := some k26c2 }
/-- java/lang/StringLatin1 -/
def k26 : Class := { plain "java/lang/StringLatin1" (some 0) with
  accessFlags := 48
  interfaces := #[]
  cf := some (fileOf pool26 14 #[.nestMembers #[390, 221]] #[{ accessFlags := 0, nameIndex := 7, descriptorIndex := 8, attributes := #[] }, { accessFlags := 9, nameIndex := 90, descriptorIndex := 105, attributes := #[] }, { accessFlags := 9, nameIndex := 380, descriptorIndex := 382, attributes := #[] }] 48 4 #[] #[{ accessFlags := 4120, nameIndex := 121, descriptorIndex := 122, attributes := #[] }])
  fields := #[{ name := "$assertionsDisabled", type := .boolean, accessFlags := 4120, slot := 0, constantValue := 0 }]
  methods := #[k26m0, k26m1, k26m2]
  instanceTypes := #[]
  staticTypes := #[.boolean]
  resolved := Array.replicate 395 none
  statics := none }

def pool27 : Array CpInfo := pool [(2, .class_ 4), (1, u "java/lang/Object"), (0, u "<init>"), (0, u "()V"), (17, .class_ 26), (1, u "jdk/internal/util/Preconditions"), (28, .class_ 56), (0, u "jdk/internal/util/Preconditions$4"), (57, .class_ 115), (0, u "jdk/internal/util/Preconditions$1"), (7, u "SIOOBE_FORMATTER"), (0, u "Ljava/util/function/BiFunction;"), (0, .class_ 126), (0, u "jdk/internal/util/Preconditions$2"), (3, u "AIOOBE_FORMATTER"), (0, .class_ 132), (0, u "jdk/internal/util/Preconditions$3"), (3, u "IOOBE_FORMATTER")] 57

def k27m0 : Method := { name := "<init>", desc := "()V", sig := { parameters := [], returnType := none }, accessFlags := 1, code := none }
/-- jdk/internal/util/Preconditions -/
def k27 : Class := { plain "jdk/internal/util/Preconditions" (some 0) with
  accessFlags := 33
  interfaces := #[]
  cf := some (fileOf pool27 24 #[.nestMembers #[55, 131, 125, 114]] #[{ accessFlags := 1, nameIndex := 5, descriptorIndex := 6, attributes := #[] }] 33 2 #[] #[{ accessFlags := 25, nameIndex := 123, descriptorIndex := 124, attributes := #[] }, { accessFlags := 25, nameIndex := 130, descriptorIndex := 124, attributes := #[] }, { accessFlags := 25, nameIndex := 136, descriptorIndex := 124, attributes := #[] }])
  fields := #[{ name := "SIOOBE_FORMATTER", type := (.object "java/util/function/BiFunction"), accessFlags := 25, slot := 0, constantValue := 0 }, { name := "AIOOBE_FORMATTER", type := (.object "java/util/function/BiFunction"), accessFlags := 25, slot := 1, constantValue := 0 }, { name := "IOOBE_FORMATTER", type := (.object "java/util/function/BiFunction"), accessFlags := 25, slot := 2, constantValue := 0 }]
  methods := #[k27m0]
  instanceTypes := #[]
  staticTypes := #[(.object "java/util/function/BiFunction"), (.object "java/util/function/BiFunction"), (.object "java/util/function/BiFunction")]
  resolved := Array.replicate 194 none
  statics := some 3 }

def pool28 : Array CpInfo := pool [(9, u "<init>"), (6, .class_ 18), (1, u "java/lang/Object"), (0, u "()V"), (1, .class_ 23), (1, u "jdk/internal/util/ArraysSupport"), (0, u "LOG2_ARRAY_LONG_INDEX_SCALE"), (0, u "I"), (2, u "U"), (0, u "Ljdk/internal/misc/Unsafe;"), (8, u "BIG_ENDIAN"), (0, u "Z"), (8, u "LOG2_BYTE_BIT_SIZE"), (4, u "LOG2_ARRAY_INT_INDEX_SCALE"), (54, u "JLA"), (0, u "Ljdk/internal/access/JavaLangAccess;"), (11, u "LOG2_ARRAY_BOOLEAN_INDEX_SCALE"), (9, u "LOG2_ARRAY_BYTE_INDEX_SCALE"), (5, u "LOG2_ARRAY_CHAR_INDEX_SCALE"), (5, u "LOG2_ARRAY_SHORT_INDEX_SCALE"), (18, u "LOG2_ARRAY_FLOAT_INDEX_SCALE"), (24, u "LOG2_ARRAY_DOUBLE_INDEX_SCALE"), (89, u "T_BOOLEAN"), (2, u "T_CHAR"), (1, u "T_FLOAT"), (1, u "T_DOUBLE"), (1, u "T_BYTE"), (1, u "T_SHORT"), (1, u "T_INT"), (1, u "T_LONG"), (1, u "SOFT_MAX_ARRAY_LENGTH")] 83

def k28m0 : Method := { name := "<init>", desc := "()V", sig := { parameters := [], returnType := none }, accessFlags := 2, code := none }
/-- jdk/internal/util/ArraysSupport -/
def k28 : Class := { plain "jdk/internal/util/ArraysSupport" (some 0) with
  accessFlags := 33
  interfaces := #[]
  cf := some (fileOf pool28 21 #[] #[{ accessFlags := 2, nameIndex := 9, descriptorIndex := 19, attributes := #[] }] 33 16 #[] #[{ accessFlags := 24, nameIndex := 28, descriptorIndex := 29, attributes := #[] }, { accessFlags := 26, nameIndex := 38, descriptorIndex := 39, attributes := #[] }, { accessFlags := 25, nameIndex := 121, descriptorIndex := 25, attributes := #[] }, { accessFlags := 25, nameIndex := 131, descriptorIndex := 25, attributes := #[] }, { accessFlags := 25, nameIndex := 137, descriptorIndex := 25, attributes := #[] }, { accessFlags := 25, nameIndex := 143, descriptorIndex := 25, attributes := #[] }, { accessFlags := 25, nameIndex := 53, descriptorIndex := 25, attributes := #[] }, { accessFlags := 25, nameIndex := 24, descriptorIndex := 25, attributes := #[] }, { accessFlags := 25, nameIndex := 162, descriptorIndex := 25, attributes := #[] }, { accessFlags := 25, nameIndex := 187, descriptorIndex := 25, attributes := #[] }, { accessFlags := 26, nameIndex := 48, descriptorIndex := 25, attributes := #[] }, { accessFlags := 25, nameIndex := 277, descriptorIndex := 25, attributes := #[] }, { accessFlags := 25, nameIndex := 280, descriptorIndex := 25, attributes := #[] }, { accessFlags := 25, nameIndex := 282, descriptorIndex := 25, attributes := #[] }, { accessFlags := 25, nameIndex := 284, descriptorIndex := 25, attributes := #[] }, { accessFlags := 25, nameIndex := 286, descriptorIndex := 25, attributes := #[] }, { accessFlags := 25, nameIndex := 288, descriptorIndex := 25, attributes := #[] }, { accessFlags := 25, nameIndex := 290, descriptorIndex := 25, attributes := #[] }, { accessFlags := 25, nameIndex := 292, descriptorIndex := 25, attributes := #[] }, { accessFlags := 26, nameIndex := 108, descriptorIndex := 109, attributes := #[] }, { accessFlags := 25, nameIndex := 294, descriptorIndex := 25, attributes := #[] }])
  fields := #[{ name := "U", type := (.object "jdk/internal/misc/Unsafe"), accessFlags := 24, slot := 0, constantValue := 0 }, { name := "BIG_ENDIAN", type := .boolean, accessFlags := 26, slot := 1, constantValue := 0 }, { name := "LOG2_ARRAY_BOOLEAN_INDEX_SCALE", type := .int, accessFlags := 25, slot := 2, constantValue := 0 }, { name := "LOG2_ARRAY_BYTE_INDEX_SCALE", type := .int, accessFlags := 25, slot := 3, constantValue := 0 }, { name := "LOG2_ARRAY_CHAR_INDEX_SCALE", type := .int, accessFlags := 25, slot := 4, constantValue := 0 }, { name := "LOG2_ARRAY_SHORT_INDEX_SCALE", type := .int, accessFlags := 25, slot := 5, constantValue := 0 }, { name := "LOG2_ARRAY_INT_INDEX_SCALE", type := .int, accessFlags := 25, slot := 6, constantValue := 0 }, { name := "LOG2_ARRAY_LONG_INDEX_SCALE", type := .int, accessFlags := 25, slot := 7, constantValue := 0 }, { name := "LOG2_ARRAY_FLOAT_INDEX_SCALE", type := .int, accessFlags := 25, slot := 8, constantValue := 0 }, { name := "LOG2_ARRAY_DOUBLE_INDEX_SCALE", type := .int, accessFlags := 25, slot := 9, constantValue := 0 }, { name := "LOG2_BYTE_BIT_SIZE", type := .int, accessFlags := 26, slot := 10, constantValue := 0 }, { name := "T_BOOLEAN", type := .int, accessFlags := 25, slot := 11, constantValue := 0 }, { name := "T_CHAR", type := .int, accessFlags := 25, slot := 12, constantValue := 0 }, { name := "T_FLOAT", type := .int, accessFlags := 25, slot := 13, constantValue := 0 }, { name := "T_DOUBLE", type := .int, accessFlags := 25, slot := 14, constantValue := 0 }, { name := "T_BYTE", type := .int, accessFlags := 25, slot := 15, constantValue := 0 }, { name := "T_SHORT", type := .int, accessFlags := 25, slot := 16, constantValue := 0 }, { name := "T_INT", type := .int, accessFlags := 25, slot := 17, constantValue := 0 }, { name := "T_LONG", type := .int, accessFlags := 25, slot := 18, constantValue := 0 }, { name := "JLA", type := (.object "jdk/internal/access/JavaLangAccess"), accessFlags := 26, slot := 19, constantValue := 0 }, { name := "SOFT_MAX_ARRAY_LENGTH", type := .int, accessFlags := 25, slot := 20, constantValue := 0 }]
  methods := #[k28m0]
  instanceTypes := #[]
  staticTypes := #[(.object "jdk/internal/misc/Unsafe"), .boolean, .int, .int, .int, .int, .int, .int, .int, .int, .int, .int, .int, .int, .int, .int, .int, .int, .int, (.object "jdk/internal/access/JavaLangAccess"), .int]
  resolved := Array.replicate 378 none
  statics := none }

def pool29 : Array CpInfo := pool [(1, u "java/lang/Cloneable"), (0, .class_ 1), (0, u "java/lang/Object"), (0, .class_ 3)] 3

/-- java/lang/Cloneable -/
def k29 : Class := { plain "java/lang/Cloneable" (some 0) with
  accessFlags := 1537
  interfaces := #[]
  cf := some (fileOf pool29 2 #[] #[] 1537 4 #[] #[])
  fields := #[]
  methods := #[]
  instanceTypes := #[]
  staticTypes := #[]
  resolved := Array.replicate 8 none
  statics := none }

/-- the primitive byte -/
def k30 : Class := { plain "byte" none with kind := .primitive 'B', accessFlags := 0x411 }
/-- [B -/
def k31 : Class := { plain "[B" (some 0) with kind := .array 30 .byte, interfaces := #[29, 4], accessFlags := 1041 }

/-- the primitive char -/
def k32 : Class := { plain "char" none with kind := .primitive 'C', accessFlags := 0x411 }
/-- [C -/
def k33 : Class := { plain "[C" (some 0) with kind := .array 32 .char, interfaces := #[29, 4], accessFlags := 1041 }

/-- the primitive int -/
def k34 : Class := { plain "int" none with kind := .primitive 'I', accessFlags := 0x411 }
/-- [I -/
def k35 : Class := { plain "[I" (some 0) with kind := .array 34 .int, interfaces := #[29, 4], accessFlags := 1041 }

/-- [Ljava/lang/Object; -/
def k36 : Class := { plain "[Ljava/lang/Object;" (some 0) with kind := .array 0 (.object "java/lang/Object"), interfaces := #[29, 4], accessFlags := 1041 }

def heap : Heap := #[{ cls := 6, slots := #[.null, .null, .ref 6, .ref 7, .null, .null, .null, .null], vm := .statics 6 },
  { cls := 9, slots := #[.long 0, .int 1, .null, .int 0, .null, .int 0, .int 0], vm := .statics 9 },
  { cls := 15, slots := #[.long 0, .int 0, .null, .null, .ref 8, .null, .null, .ref 9, .int 0, .int 0], vm := .statics 15 },
  { cls := 27, slots := #[.null, .null, .null], vm := .statics 27 },
  { cls := 36, slots := #[], vm := .none },
  { cls := 36, slots := #[], vm := .none },
  { cls := 6, slots := #[.null, .int 2, .int 0], vm := .none },
  { cls := 6, slots := #[.null, .int 3, .int 0], vm := .none },
  { cls := 21, slots := #[.ref 4, .int 0], vm := .none },
  { cls := 24, slots := #[.null, .null, .ref 5, .int 0], vm := .none }]
def classes : Array Class := #[k0, k1, k2, k3, k4, k5, k6, k7, k8, k9, k10, k11, k12, k13, k14, k15, k16, k17, k18, k19, k20, k21, k22, k23, k24, k25, k26, k27, k28, k29, k30, k31, k32, k33, k34, k35, k36]
def interned : List (Array UInt16 × Addr) := []
def slotsUsed : Nat := 40
def theMethod : MethodId := ⟨1, 2⟩
def args0 : Array Value := #[.int 0, .int 1, .int 2, .int 3, .int 4]
def aboutOver (below : List Frame) : State where
  vm := { classes := classes, interned := interned.toArray }
  heap := heap
  slotsUsed := slotsUsed
  threads := #[{ frames := .invoking theMethod args0 :: below }]
def below0 : List Frame := [.native { method := ⟨0, 0⟩, args := #[] }]
def about1 : State := aboutOver below0
def p0 : Program := .bare "" "" ""
def e0 : Env := launch0.env 0 0 0
theorem w_frames : about1.frames = Frame.invoking theMethod args0 :: below0 := rfl
set_option maxRecDepth 65536 in
theorem w_args : argsFit about1.vm theMethod args0 = true := by decide +kernel
set_option maxRecDepth 65536 in
theorem w_heap : heapFits about1 = true := by decide +kernel
set_option maxRecDepth 65536 in
theorem w_runnable : about1.curStatus? = some .runnable := by decide +kernel
set_option maxRecDepth 65536 in
theorem w_alone : about1.alone = true := by decide +kernel
set_option maxRecDepth 65536 in
theorem w_named : about1.methodNamed? x = some theMethod := by decide +kernel
set_option maxRecDepth 65536 in
theorem w_hears : about1.hears theMethod below0 = true := by decide +kernel
set_option maxRecDepth 65536 in
theorem w_ripe : about1.ripe theMethod args0 below0 = true := by decide +kernel
theorem w_running : about1.status = .running := rfl
set_option maxRecDepth 65536 in
theorem w_room : about1.hasRoom e0.platform room_1 = true :=
  launch0.hasRoom_least _ room_1 (by decide +kernel) (by decide +kernel) (by decide +kernel) (by decide +kernel) (by decide +kernel) (by decide +kernel)
theorem allAtoms_all (ts : List Jvm.Cond) (a : Array Jvm.Value) (st : Jvm.State) : (allAtoms ts).before a st = ts.all (fun c => c.before a st) := by
  induction ts with
  | nil => rfl
  | cons c t ih =>
    show (Jvm.Cond.and c (allAtoms t)).before a st = _
    rw [Jvm.Cond.before_and, ih, List.all_cons]
def words1 : List Jvm.Cond := Jvm.Cond.code x code maxLocals ret :: tables_1
/-- a 'code' word, met by the world's own term for the bytes: nothing is compared byte by byte -/
theorem code_word {y : MethodName} {bytes : ByteArray} {mx : Nat} {rt : Option FieldType} {a : Array Value} {s : State} {m : MethodId} {meth : Method} {c : Code} (h1 : s.methodNamed? y = some m) (h2 : s.vm.method? m = some meth) (h3 : meth.code = some c) (h4 : c.code = bytes)
    (h5 : (c.maxLocals == mx && c.exceptionTable.isEmpty && decide (c.maxStack ≤ mostOperands) && decide (meth.sig.returnType = rt) && !meth.locks && decide (parseMethodDescriptor y.desc = some meth.sig)) = true) : (Jvm.Cond.code y bytes mx rt).before a s = true := by
  simp only [Bool.and_eq_true, beq_iff_eq, Bool.not_eq_true', decide_eq_true_eq] at h5
  obtain ⟨⟨⟨⟨⟨g1, g2⟩, g3⟩, g4⟩, g5⟩, g6⟩ := h5
  simp [Cond.before, Cond.holds, Cond.value, h1, h2, h3, h4, g1, g2, g3, g4, g5, g6]
def isCode : Jvm.Cond → Bool
  | .code _ _ _ _ => true
  | _ => false
theorem all_split {L : List Jvm.Cond} {P : Jvm.Cond → Bool} (h1 : L.all (fun c => isCode c || P c) = true) (h2 : ∀ c ∈ L.filter isCode, P c = true) : L.all P = true := by
  refine List.all_eq_true.mpr fun c hc => ?_
  have h := List.all_eq_true.mp h1 c hc
  rcases Bool.eq_false_or_eq_true (isCode c) with hi | hi
  · exact h2 c (List.mem_filter.mpr ⟨hc, hi⟩)
  · simpa [hi] using h
set_option maxRecDepth 65536 in
theorem w_c0 : (Jvm.Cond.code x code maxLocals ret).before args0 about1 = true := code_word (m := ⟨1, 2⟩) (meth := k1m2) (c := k1c2) (by decide +kernel) rfl rfl rfl (by decide +kernel)
set_option maxRecDepth 65536 in
theorem w_c1 : (Jvm.Cond.code ({ cls := "com/example/apportion/apportion/policy/JsonValueWrittenPinLaw", name := "drawn", desc := "(ICCC)Ljava/lang/String;" } : Jvm.MethodName) method_2_code (4 : Nat) (Option.some (Jvm.ClassFile.FieldType.object "java/lang/String"))).before args0 about1 = true := code_word (m := ⟨1, 1⟩) (meth := k1m1) (c := k1c1) (by decide +kernel) rfl rfl rfl (by decide +kernel)
set_option maxRecDepth 65536 in
theorem w_c2 : (Jvm.Cond.code ({ cls := "java/lang/String", name := "<init>", desc := "([C)V" } : Jvm.MethodName) jdk_42_method_3_code (2 : Nat) (Option.none : Option Jvm.ClassFile.FieldType)).before args0 about1 = true := code_word (m := ⟨9, 1⟩) (meth := k9m1) (c := k9c1) (by decide +kernel) rfl rfl rfl (by decide +kernel)
set_option maxRecDepth 65536 in
theorem w_c3 : (Jvm.Cond.code ({ cls := "java/lang/String", name := "<init>", desc := "([CIILjava/lang/Void;)V" } : Jvm.MethodName) jdk_42_method_149_code (6 : Nat) (Option.none : Option Jvm.ClassFile.FieldType)).before args0 about1 = true := code_word (m := ⟨9, 5⟩) (meth := k9m5) (c := k9c5) (by decide +kernel) rfl rfl rfl (by decide +kernel)
set_option maxRecDepth 65536 in
theorem w_c4 : (Jvm.Cond.code ({ cls := "java/lang/Object", name := "<init>", desc := "()V" } : Jvm.MethodName) object_method_1_code (1 : Nat) (Option.none : Option Jvm.ClassFile.FieldType)).before args0 about1 = true := code_word (m := ⟨0, 0⟩) (meth := k0m0) (c := k0c0) (by decide +kernel) rfl rfl rfl (by decide +kernel)
set_option maxRecDepth 65536 in
theorem w_c5 : (Jvm.Cond.code ({ cls := "com/example/apportion/apportion/policy/JsonValue", name := "written", desc := "(Lcom/example/apportion/apportion/policy/JsonValue$Kind;Ljava/lang/String;)Lcom/example/apportion/apportion/policy/JsonValue;" } : Jvm.MethodName) prog_62_method_4_code (2 : Nat) (Option.some (Jvm.ClassFile.FieldType.object "com/example/apportion/apportion/policy/JsonValue"))).before args0 about1 = true := code_word (m := ⟨10, 1⟩) (meth := k10m1) (c := k10c1) (by decide +kernel) rfl rfl rfl (by decide +kernel)
set_option maxRecDepth 65536 in
theorem w_c6 : (Jvm.Cond.code ({ cls := "java/util/List", name := "of", desc := "()Ljava/util/List;" } : Jvm.MethodName) jdk_40_method_36_code (0 : Nat) (Option.some (Jvm.ClassFile.FieldType.object "java/util/List"))).before args0 about1 = true := code_word (m := ⟨14, 1⟩) (meth := k14m1) (c := k14c1) (by decide +kernel) rfl rfl rfl (by decide +kernel)
set_option maxRecDepth 65536 in
theorem w_c7 : (Jvm.Cond.code ({ cls := "java/util/Map", name := "of", desc := "()Ljava/util/Map;" } : Jvm.MethodName) jdk_72_method_26_code (0 : Nat) (Option.some (Jvm.ClassFile.FieldType.object "java/util/Map"))).before args0 about1 = true := code_word (m := ⟨16, 1⟩) (meth := k16m1) (c := k16c1) (by decide +kernel) rfl rfl rfl (by decide +kernel)
set_option maxRecDepth 65536 in
theorem w_c8 : (Jvm.Cond.code ({ cls := "com/example/apportion/apportion/policy/JsonValue", name := "<init>", desc := "(Lcom/example/apportion/apportion/policy/JsonValue$Kind;Ljava/lang/String;Ljava/util/List;Ljava/util/Map;)V" } : Jvm.MethodName) prog_62_method_1_code (5 : Nat) (Option.none : Option Jvm.ClassFile.FieldType)).before args0 about1 = true := code_word (m := ⟨10, 0⟩) (meth := k10m0) (c := k10c0) (by decide +kernel) rfl rfl rfl (by decide +kernel)
set_option maxRecDepth 65536 in
theorem w_c9 : (Jvm.Cond.code ({ cls := "com/example/apportion/apportion/policy/JsonValue", name := "getKind", desc := "()Lcom/example/apportion/apportion/policy/JsonValue$Kind;" } : Jvm.MethodName) prog_62_method_6_code (1 : Nat) (Option.some (Jvm.ClassFile.FieldType.object "com/example/apportion/apportion/policy/JsonValue$Kind"))).before args0 about1 = true := code_word (m := ⟨10, 2⟩) (meth := k10m2) (c := k10c2) (by decide +kernel) rfl rfl rfl (by decide +kernel)
set_option maxRecDepth 65536 in
theorem w_c10 : (Jvm.Cond.code ({ cls := "com/example/apportion/apportion/policy/JsonValue", name := "getText", desc := "()Ljava/lang/String;" } : Jvm.MethodName) prog_62_method_7_code (1 : Nat) (Option.some (Jvm.ClassFile.FieldType.object "java/lang/String"))).before args0 about1 = true := code_word (m := ⟨10, 3⟩) (meth := k10m3) (c := k10c3) (by decide +kernel) rfl rfl rfl (by decide +kernel)
set_option maxRecDepth 65536 in
theorem w_c11 : (Jvm.Cond.code ({ cls := "java/lang/String", name := "length", desc := "()I" } : Jvm.MethodName) jdk_42_method_54_code (1 : Nat) (Option.some Jvm.ClassFile.FieldType.int)).before args0 about1 = true := code_word (m := ⟨9, 2⟩) (meth := k9m2) (c := k9c2) (by decide +kernel) rfl rfl rfl (by decide +kernel)
set_option maxRecDepth 65536 in
theorem w_c12 : (Jvm.Cond.code ({ cls := "java/lang/String", name := "coder", desc := "()B" } : Jvm.MethodName) jdk_42_method_152_code (1 : Nat) (Option.some Jvm.ClassFile.FieldType.byte)).before args0 about1 = true := code_word (m := ⟨9, 7⟩) (meth := k9m7) (c := k9c7) (by decide +kernel) rfl rfl rfl (by decide +kernel)
set_option maxRecDepth 65536 in
theorem w_c13 : (Jvm.Cond.code ({ cls := "java/lang/String", name := "equals", desc := "(Ljava/lang/Object;)Z" } : Jvm.MethodName) jdk_42_method_66_code (3 : Nat) (Option.some Jvm.ClassFile.FieldType.boolean)).before args0 about1 = true := code_word (m := ⟨9, 3⟩) (meth := k9m3) (c := k9c3) (by decide +kernel) rfl rfl rfl (by decide +kernel)
set_option maxRecDepth 65536 in
theorem w_c14 : (Jvm.Cond.code ({ cls := "com/example/apportion/apportion/policy/JsonValue", name := "getItems", desc := "()Ljava/util/List;" } : Jvm.MethodName) prog_62_method_8_code (1 : Nat) (Option.some (Jvm.ClassFile.FieldType.object "java/util/List"))).before args0 about1 = true := code_word (m := ⟨10, 4⟩) (meth := k10m4) (c := k10c4) (by decide +kernel) rfl rfl rfl (by decide +kernel)
set_option maxRecDepth 65536 in
theorem w_c15 : (Jvm.Cond.code ({ cls := "java/util/ImmutableCollections$ListN", name := "size", desc := "()I" } : Jvm.MethodName) jdk_45_method_3_code (1 : Nat) (Option.some Jvm.ClassFile.FieldType.int)).before args0 about1 = true := code_word (m := ⟨21, 0⟩) (meth := k21m0) (c := k21c0) (by decide +kernel) rfl rfl rfl (by decide +kernel)
set_option maxRecDepth 65536 in
theorem w_c16 : (Jvm.Cond.code ({ cls := "com/example/apportion/apportion/policy/JsonValue", name := "getMembers", desc := "()Ljava/util/Map;" } : Jvm.MethodName) prog_62_method_9_code (1 : Nat) (Option.some (Jvm.ClassFile.FieldType.object "java/util/Map"))).before args0 about1 = true := code_word (m := ⟨10, 5⟩) (meth := k10m5) (c := k10c5) (by decide +kernel) rfl rfl rfl (by decide +kernel)
set_option maxRecDepth 65536 in
theorem w_c17 : (Jvm.Cond.code ({ cls := "java/util/ImmutableCollections$MapN", name := "size", desc := "()I" } : Jvm.MethodName) jdk_2605_method_6_code (1 : Nat) (Option.some Jvm.ClassFile.FieldType.int)).before args0 about1 = true := code_word (m := ⟨24, 0⟩) (meth := k24m0) (c := k24c0) (by decide +kernel) rfl rfl rfl (by decide +kernel)
set_option maxRecDepth 65536 in
theorem w_c18 : (Jvm.Cond.code ({ cls := "java/lang/StringUTF16", name := "compress", desc := "([CII)[B" } : Jvm.MethodName) jdk_52_method_16_code (6 : Nat) (Option.some (Jvm.ClassFile.FieldType.array Jvm.ClassFile.FieldType.byte))).before args0 about1 = true := code_word (m := ⟨25, 2⟩) (meth := k25m2) (c := k25c2) (by decide +kernel) rfl rfl rfl (by decide +kernel)
set_option maxRecDepth 65536 in
theorem w_c19 : (Jvm.Cond.code ({ cls := "java/lang/StringUTF16", name := "compress", desc := "([CI[BII)I" } : Jvm.MethodName) jdk_52_method_21_code (7 : Nat) (Option.some Jvm.ClassFile.FieldType.int)).before args0 about1 = true := code_word (m := ⟨25, 3⟩) (meth := k25m3) (c := k25c3) (by decide +kernel) rfl rfl rfl (by decide +kernel)
set_option maxRecDepth 65536 in
theorem w_c20 : (Jvm.Cond.code ({ cls := "java/lang/StringUTF16", name := "coderFromArrayLen", desc := "([BI)B" } : Jvm.MethodName) jdk_52_method_15_code (2 : Nat) (Option.some Jvm.ClassFile.FieldType.byte)).before args0 about1 = true := code_word (m := ⟨25, 1⟩) (meth := k25m1) (c := k25c1) (by decide +kernel) rfl rfl rfl (by decide +kernel)
set_option maxRecDepth 65536 in
theorem w_c21 : (Jvm.Cond.code ({ cls := "java/lang/String", name := "valueOf", desc := "(C)Ljava/lang/String;" } : Jvm.MethodName) jdk_42_method_139_code (1 : Nat) (Option.some (Jvm.ClassFile.FieldType.object "java/lang/String"))).before args0 about1 = true := code_word (m := ⟨9, 4⟩) (meth := k9m4) (c := k9c4) (by decide +kernel) rfl rfl rfl (by decide +kernel)
set_option maxRecDepth 65536 in
theorem w_c22 : (Jvm.Cond.code ({ cls := "java/lang/StringLatin1", name := "canEncode", desc := "(C)Z" } : Jvm.MethodName) jdk_43_method_3_code (1 : Nat) (Option.some Jvm.ClassFile.FieldType.boolean)).before args0 about1 = true := code_word (m := ⟨26, 1⟩) (meth := k26m1) (c := k26c1) (by decide +kernel) rfl rfl rfl (by decide +kernel)
set_option maxRecDepth 65536 in
theorem w_c23 : (Jvm.Cond.code ({ cls := "java/lang/StringLatin1", name := "toBytes", desc := "(C)[B" } : Jvm.MethodName) jdk_43_method_46_code (1 : Nat) (Option.some (Jvm.ClassFile.FieldType.array Jvm.ClassFile.FieldType.byte))).before args0 about1 = true := code_word (m := ⟨26, 2⟩) (meth := k26m2) (c := k26c2) (by decide +kernel) rfl rfl rfl (by decide +kernel)
set_option maxRecDepth 65536 in
theorem w_c24 : (Jvm.Cond.code ({ cls := "java/lang/String", name := "<init>", desc := "([BB)V" } : Jvm.MethodName) jdk_42_method_151_code (3 : Nat) (Option.none : Option Jvm.ClassFile.FieldType)).before args0 about1 = true := code_word (m := ⟨9, 6⟩) (meth := k9m6) (c := k9c6) (by decide +kernel) rfl rfl rfl (by decide +kernel)
def codes1 : List Jvm.Cond := [Jvm.Cond.code x code maxLocals ret, Jvm.Cond.code ({ cls := "com/example/apportion/apportion/policy/JsonValueWrittenPinLaw", name := "drawn", desc := "(ICCC)Ljava/lang/String;" } : Jvm.MethodName) method_2_code (4 : Nat) (Option.some (Jvm.ClassFile.FieldType.object "java/lang/String")), Jvm.Cond.code ({ cls := "java/lang/String", name := "<init>", desc := "([C)V" } : Jvm.MethodName) jdk_42_method_3_code (2 : Nat) (Option.none : Option Jvm.ClassFile.FieldType), Jvm.Cond.code ({ cls := "java/lang/String", name := "<init>", desc := "([CIILjava/lang/Void;)V" } : Jvm.MethodName) jdk_42_method_149_code (6 : Nat) (Option.none : Option Jvm.ClassFile.FieldType), Jvm.Cond.code ({ cls := "java/lang/Object", name := "<init>", desc := "()V" } : Jvm.MethodName) object_method_1_code (1 : Nat) (Option.none : Option Jvm.ClassFile.FieldType), Jvm.Cond.code ({ cls := "com/example/apportion/apportion/policy/JsonValue", name := "written", desc := "(Lcom/example/apportion/apportion/policy/JsonValue$Kind;Ljava/lang/String;)Lcom/example/apportion/apportion/policy/JsonValue;" } : Jvm.MethodName) prog_62_method_4_code (2 : Nat) (Option.some (Jvm.ClassFile.FieldType.object "com/example/apportion/apportion/policy/JsonValue")), Jvm.Cond.code ({ cls := "java/util/List", name := "of", desc := "()Ljava/util/List;" } : Jvm.MethodName) jdk_40_method_36_code (0 : Nat) (Option.some (Jvm.ClassFile.FieldType.object "java/util/List")), Jvm.Cond.code ({ cls := "java/util/Map", name := "of", desc := "()Ljava/util/Map;" } : Jvm.MethodName) jdk_72_method_26_code (0 : Nat) (Option.some (Jvm.ClassFile.FieldType.object "java/util/Map")), Jvm.Cond.code ({ cls := "com/example/apportion/apportion/policy/JsonValue", name := "<init>", desc := "(Lcom/example/apportion/apportion/policy/JsonValue$Kind;Ljava/lang/String;Ljava/util/List;Ljava/util/Map;)V" } : Jvm.MethodName) prog_62_method_1_code (5 : Nat) (Option.none : Option Jvm.ClassFile.FieldType), Jvm.Cond.code ({ cls := "com/example/apportion/apportion/policy/JsonValue", name := "getKind", desc := "()Lcom/example/apportion/apportion/policy/JsonValue$Kind;" } : Jvm.MethodName) prog_62_method_6_code (1 : Nat) (Option.some (Jvm.ClassFile.FieldType.object "com/example/apportion/apportion/policy/JsonValue$Kind")), Jvm.Cond.code ({ cls := "com/example/apportion/apportion/policy/JsonValue", name := "getText", desc := "()Ljava/lang/String;" } : Jvm.MethodName) prog_62_method_7_code (1 : Nat) (Option.some (Jvm.ClassFile.FieldType.object "java/lang/String")), Jvm.Cond.code ({ cls := "java/lang/String", name := "length", desc := "()I" } : Jvm.MethodName) jdk_42_method_54_code (1 : Nat) (Option.some Jvm.ClassFile.FieldType.int), Jvm.Cond.code ({ cls := "java/lang/String", name := "coder", desc := "()B" } : Jvm.MethodName) jdk_42_method_152_code (1 : Nat) (Option.some Jvm.ClassFile.FieldType.byte), Jvm.Cond.code ({ cls := "java/lang/String", name := "equals", desc := "(Ljava/lang/Object;)Z" } : Jvm.MethodName) jdk_42_method_66_code (3 : Nat) (Option.some Jvm.ClassFile.FieldType.boolean), Jvm.Cond.code ({ cls := "com/example/apportion/apportion/policy/JsonValue", name := "getItems", desc := "()Ljava/util/List;" } : Jvm.MethodName) prog_62_method_8_code (1 : Nat) (Option.some (Jvm.ClassFile.FieldType.object "java/util/List")), Jvm.Cond.code ({ cls := "java/util/ImmutableCollections$ListN", name := "size", desc := "()I" } : Jvm.MethodName) jdk_45_method_3_code (1 : Nat) (Option.some Jvm.ClassFile.FieldType.int), Jvm.Cond.code ({ cls := "com/example/apportion/apportion/policy/JsonValue", name := "getMembers", desc := "()Ljava/util/Map;" } : Jvm.MethodName) prog_62_method_9_code (1 : Nat) (Option.some (Jvm.ClassFile.FieldType.object "java/util/Map")), Jvm.Cond.code ({ cls := "java/util/ImmutableCollections$MapN", name := "size", desc := "()I" } : Jvm.MethodName) jdk_2605_method_6_code (1 : Nat) (Option.some Jvm.ClassFile.FieldType.int), Jvm.Cond.code ({ cls := "java/lang/StringUTF16", name := "compress", desc := "([CII)[B" } : Jvm.MethodName) jdk_52_method_16_code (6 : Nat) (Option.some (Jvm.ClassFile.FieldType.array Jvm.ClassFile.FieldType.byte)), Jvm.Cond.code ({ cls := "java/lang/StringUTF16", name := "compress", desc := "([CI[BII)I" } : Jvm.MethodName) jdk_52_method_21_code (7 : Nat) (Option.some Jvm.ClassFile.FieldType.int), Jvm.Cond.code ({ cls := "java/lang/StringUTF16", name := "coderFromArrayLen", desc := "([BI)B" } : Jvm.MethodName) jdk_52_method_15_code (2 : Nat) (Option.some Jvm.ClassFile.FieldType.byte), Jvm.Cond.code ({ cls := "java/lang/String", name := "valueOf", desc := "(C)Ljava/lang/String;" } : Jvm.MethodName) jdk_42_method_139_code (1 : Nat) (Option.some (Jvm.ClassFile.FieldType.object "java/lang/String")), Jvm.Cond.code ({ cls := "java/lang/StringLatin1", name := "canEncode", desc := "(C)Z" } : Jvm.MethodName) jdk_43_method_3_code (1 : Nat) (Option.some Jvm.ClassFile.FieldType.boolean), Jvm.Cond.code ({ cls := "java/lang/StringLatin1", name := "toBytes", desc := "(C)[B" } : Jvm.MethodName) jdk_43_method_46_code (1 : Nat) (Option.some (Jvm.ClassFile.FieldType.array Jvm.ClassFile.FieldType.byte)), Jvm.Cond.code ({ cls := "java/lang/String", name := "<init>", desc := "([BB)V" } : Jvm.MethodName) jdk_42_method_151_code (3 : Nat) (Option.none : Option Jvm.ClassFile.FieldType)]
set_option maxRecDepth 65536 in
theorem codes_eq : words1.filter isCode = codes1 := rfl
theorem w_codes : ∀ c ∈ words1.filter isCode, c.before args0 about1 = true := by
  rw [codes_eq]
  intro c hc
  simp only [codes1, List.mem_cons, List.not_mem_nil, or_false] at hc
  rcases hc with rfl | rfl | rfl | rfl | rfl | rfl | rfl | rfl | rfl | rfl | rfl | rfl | rfl | rfl | rfl | rfl | rfl | rfl | rfl | rfl | rfl | rfl | rfl | rfl | rfl
  · exact w_c0
  · exact w_c1
  · exact w_c2
  · exact w_c3
  · exact w_c4
  · exact w_c5
  · exact w_c6
  · exact w_c7
  · exact w_c8
  · exact w_c9
  · exact w_c10
  · exact w_c11
  · exact w_c12
  · exact w_c13
  · exact w_c14
  · exact w_c15
  · exact w_c16
  · exact w_c17
  · exact w_c18
  · exact w_c19
  · exact w_c20
  · exact w_c21
  · exact w_c22
  · exact w_c23
  · exact w_c24
set_option maxRecDepth 65536 in
theorem w_t1 : (words1.take 24).all (fun c => isCode c || c.before args0 about1) = true := by decide +kernel
set_option maxRecDepth 65536 in
theorem w_t2 : ((words1.drop 24).take 24).all (fun c => isCode c || c.before args0 about1) = true := by decide +kernel
set_option maxRecDepth 65536 in
theorem w_t3 : (((words1.drop 24).drop 24).take 24).all (fun c => isCode c || c.before args0 about1) = true := by decide +kernel
set_option maxRecDepth 65536 in
theorem w_t4 : ((((words1.drop 24).drop 24).drop 24).take 24).all (fun c => isCode c || c.before args0 about1) = true := by decide +kernel
set_option maxRecDepth 65536 in
theorem w_t5 : (((((words1.drop 24).drop 24).drop 24).drop 24).take 24).all (fun c => isCode c || c.before args0 about1) = true := by decide +kernel
set_option maxRecDepth 65536 in
theorem w_t6 : ((((((words1.drop 24).drop 24).drop 24).drop 24).drop 24).take 24).all (fun c => isCode c || c.before args0 about1) = true := by decide +kernel
set_option maxRecDepth 65536 in
theorem w_t7 : ((((((words1.drop 24).drop 24).drop 24).drop 24).drop 24).drop 24).all (fun c => isCode c || c.before args0 about1) = true := by decide +kernel
theorem w_tables : (allAtoms (Jvm.Cond.code x code maxLocals ret :: tables_1)).before args0 about1 = true := by
  rw [allAtoms_all]
  show words1.all (fun c => c.before args0 about1) = true
  refine all_split ?_ w_codes
  rw [← List.take_append_drop 24 words1, List.all_append, w_t1, ← List.take_append_drop 24 (words1.drop 24), List.all_append, w_t2, ← List.take_append_drop 24 ((words1.drop 24).drop 24), List.all_append, w_t3, ← List.take_append_drop 24 (((words1.drop 24).drop 24).drop 24), List.all_append, w_t4, ← List.take_append_drop 24 ((((words1.drop 24).drop 24).drop 24).drop 24), List.all_append, w_t5, ← List.take_append_drop 24 (((((words1.drop 24).drop 24).drop 24).drop 24).drop 24), List.all_append, w_t6, w_t7]
  rfl
set_option maxRecDepth 65536 in
theorem w_rest : rest_1_c.before args0 about1 = true := by decide +kernel
set_option maxRecDepth 65536 in
theorem w_case : (Jvm.Cond.and given_1 narrow_1).before args0 about1 = true := by decide +kernel
set_option maxRecDepth 65536 in
theorem w_consts : constsHeld consts_1 about1 := Jvm.Lit.constsHeldB_iff.mp (by decide +kernel)
theorem w_applies : (headSpec (Jvm.Cond.code x code maxLocals ret :: tables_1) room_1).applies x e0.platform about1 = true :=
  (Spec.applies_iff w_frames).mpr ⟨w_running, w_runnable, w_alone, w_named, w_hears, w_ripe, w_room, w_tables⟩
theorem atStart : AtStart classFile x code maxLocals ret World_1 tables_1 room_1 Calls_1 rest_1 Pre_1 launch0 p0 e0 about1 theMethod args0 below0 :=
  ⟨lists_1, trivial, launch0.admits_env _ _ _, launch0.least_env, fairChoices_fair.cas, fairChoices_fair.clock, w_frames, w_args, w_heap, w_applies, ⟨w_consts, trivial⟩, w_rest, w_case⟩
end start1
theorem witness_1 : WitnessClaimed_1 := ⟨start1.p0, start1.e0, start1.about1, start1.theMethod, start1.args0, start1.below0, start1.atStart⟩
end Jvm.Pilot.@@N@@
